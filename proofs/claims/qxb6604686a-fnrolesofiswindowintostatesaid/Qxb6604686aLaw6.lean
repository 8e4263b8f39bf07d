import Derived.Test.Qxb6604686aRole
import Derived.Test.Qxb6604686aOnly
namespace Go.Proofs.Qxb6604686a
open Go.RowKit

set_option maxHeartbeats 400000 in
theorem law6_huge (a : Option Addr) (n cap : Nat) (p u : Int) (w : World) (hn : 1048576 < n) :
    Calls Try.prog 8 #[.slice a n cap, .int .i64 p, .int .i64 u] w fun e w' => e = .returned (.bool true) ∧ Below w.heap.size w w' := by
  go_enter Try.func8, Try.ntmps8
  go_wp2_with (go_at_call 39; refine (zz39_no _ _ _ _ _ _ hn).mono ?_; rintro e w1 ⟨rfl, rfl⟩)
  go_ret
  exact ⟨rfl, Below.refl _ _⟩

set_option maxHeartbeats 400000 in
theorem law6_big (a : Option Addr) (n cap : Nat) (p u : Int) (w : World) (hn : n ≤ 1048576) (_h2 : 131072 < n) :
    Calls Try.prog 8 #[.slice a n cap, .int .i64 p, .int .i64 u] w fun e w' => e = .returned (.bool true) ∧ Below w.heap.size w w' := by
  go_enter Try.func8, Try.ntmps8
  go_wp2_with (go_at_call 39; refine (zz39_yes _ _ _ _ _ _ hn).mono ?_; rintro e w1 ⟨rfl, rfl⟩)
  go_ret
  exact ⟨rfl, Below.refl _ _⟩

set_option maxHeartbeats 400000 in
theorem law6_low (a : Option Addr) (n cap : Nat) (p u : Int) (w : World) (hn : n ≤ 131072) (h2 : p < 1) :
    Calls Try.prog 8 #[.slice a n cap, .int .i64 p, .int .i64 u] w fun e w' => e = .returned (.bool true) ∧ Below w.heap.size w w' := by
  have d : decide (p < 1) = true := by simp; omega
  go_enter Try.func8, Try.ntmps8
  go_wp2_with (go_at_call 39; refine (zz39_yes _ _ _ _ _ _ (by omega)).mono ?_; rintro e w1 ⟨rfl, rfl⟩)
  go_ret
  exact ⟨rfl, Below.refl _ _⟩

set_option maxHeartbeats 400000 in
theorem law6_high (a : Option Addr) (n cap : Nat) (p u : Int) (w : World) (hn : n ≤ 131072) (h2 : 131072 < p) :
    Calls Try.prog 8 #[.slice a n cap, .int .i64 p, .int .i64 u] w fun e w' => e = .returned (.bool true) ∧ Below w.heap.size w w' := by
  have d : decide (p < 1) = false := by simp; omega
  go_enter Try.func8, Try.ntmps8
  go_wp2_with (go_at_call 39; refine (zz39_yes _ _ _ _ _ _ (by omega)).mono ?_; rintro e w1 ⟨rfl, rfl⟩)
  go_ret
  exact ⟨rfl, Below.refl _ _⟩

set_option maxHeartbeats 400000 in
theorem law6_neg (a : Option Addr) (n cap p : Nat) (u : Int) (w : World) (hn : n ≤ 131072) (h1 : 1 ≤ p) (h2 : p ≤ 131072) (h3 : u < 0) :
    Calls Try.prog 8 #[.slice a n cap, .int .i64 p, .int .i64 u] w fun e w' => e = .returned (.bool true) ∧ Below w.heap.size w w' := by
  have d : decide ((p : Int) < 1) = false := by simp; omega
  have d3 : decide ((131072 : Int) < (p : Int)) = false := by simp; omega
  have d4 : decide (u < 0) = true := by simp; omega
  go_enter Try.func8, Try.ntmps8
  go_wp2_with (go_at_call 39; refine (zz39_yes _ _ _ _ _ _ (by omega)).mono ?_; rintro e w1 ⟨rfl, rfl⟩)
  go_ret
  exact ⟨rfl, Below.refl _ _⟩

set_option maxHeartbeats 400000 in
theorem law6_out (a : Option Addr) (n cap p U u : Nat) (w : World) (hn : n ≤ 131072) (h1 : 1 ≤ p) (h2 : p ≤ 131072) (hU : (n : Int) / (p : Int) = U) (hUn : U ≤ n) (h3 : U ≤ u) :
    Calls Try.prog 8 #[.slice a n cap, .int .i64 p, .int .i64 u] w fun e w' => e = .returned (.bool true) ∧ Below w.heap.size w w' := by
  have d : decide ((p : Int) < 1) = false := by simp; omega
  have d3 : decide ((131072 : Int) < (p : Int)) = false := by simp; omega
  have d4 : decide ((u : Int) < 0) = false := decide_eq_false (by omega)
  go_enter Try.func8, Try.ntmps8
  go_wp2_with (go_at_call 39; refine (zz39_yes _ _ _ _ _ _ (by omega)).mono ?_; rintro e w1 ⟨rfl, rfl⟩)
  go_ret
  exact ⟨rfl, Below.refl _ _⟩

/-- '^x' on a word, as the walk spells it -/
def flp (x : Int) : Int := bits BinOp.xor IntKind.u64 (if IntKind.u64.signed = true then -1 else IntKind.u64.max) x

/-- the state with q words from lo on flipped -/
def win (c : Nat → Int) (lo q : Nat) : Nat → Int := fun j => if lo ≤ j ∧ j < lo + q then flp (c j) else c j
theorem win_zero (c : Nat → Int) (lo : Nat) : win c lo 0 = c := by
  funext j
  unfold win
  rw [if_neg (by omega)]
theorem win_at (c : Nat → Int) (lo q : Nat) : win c lo q (lo + q) = c (lo + q) := by
  unfold win
  rw [if_neg (by omega)]
theorem win_set {w : World} {b n : Nat} {c : Nat → Int} {lo q : Nat} (h : Wds w b n (win c lo q)) : Wds (w.setCell ⟨b, lo + q, none⟩ (.int .u64 (flp (c (lo + q))))) b n (win c lo (q + 1)) := by
  refine (h.set (lo + q) _).congr fun i _ => ?_
  unfold win
  by_cases e : i = lo + q
  · subst e
    rw [if_pos rfl, if_pos (by omega)]
  · rw [if_neg e]
    by_cases e2 : lo ≤ i ∧ i < lo + q
    · rw [if_pos e2, if_pos (by omega)]
    · rw [if_neg e2, if_neg (by omega)]

set_option maxHeartbeats 1000000 in
theorem law6_main (b off n cap p U u lo : Nat) (c : Nat → Int) (w : World) (hn : n ≤ 131072) (h1 : 1 ≤ p) (h2 : p ≤ 131072) (hU : (n : Int) / (p : Int) = U) (hu : u < U) (hlo : lo = u * p) (hhi : lo + p ≤ n) (hUn : U ≤ n)
    (hb : b < w.heap.size) (hc : ∀ i, i < n → w.cell? ⟨b, off + i, none⟩ = some (.int .u64 (c i))) :
    Calls Try.prog 8 #[.slice (some ⟨b, off, none⟩) n cap, .int .i64 p, .int .i64 u] w fun e w' => e = .returned (.bool true) ∧ Below w.heap.size w w' := by
  have d0 : decide ((131072 : Int) < (n : Int)) = false := by simp; omega
  have d : decide ((p : Int) < 1) = false := by simp; omega
  have d3 : decide ((131072 : Int) < (p : Int)) = false := by simp; omega
  have d4 : decide ((u : Int) < 0) = false := decide_eq_false (by omega)
  have d5 : decide ((U : Int) ≤ (u : Int)) = false := by simp; omega
  have e1 : (u : Int) * (p : Int) = lo := by rw [hlo]; simp
  have e2 : ((u : Int) + 1) * (p : Int) = (lo + p : Nat) := by rw [hlo]; simp [Int.add_mul]
  clear hlo
  have E1 := hide e1
  have E2 := hide e2
  clear e1 e2
  go_enter Try.func8, Try.ntmps8
  go_wp2_with (go_at_call 39; refine (zz39_yes _ _ _ _ _ _ (by omega)).mono ?_; rintro e w1 ⟨rfl, rfl⟩)
  refine (copyw_any b off n cap c w hn hb hc).mono ?_
  rintro e w1 ⟨rfl, ht1, hb1⟩
  clear hc
  have hp1 := ht1.lt
  go_wp2_with fail
  refine (copyw_any w.heap.size 0 n n c w1 hn hp1 (fun i hi => by rw [Nat.zero_add]; exact ht1.cell hi)).mono ?_
  rintro e w2 ⟨rfl, hg2, hb2⟩
  have hp2 := hg2.lt
  have ht2 : Wds w2 w.heap.size n c := ht1.of_block (hb2.block _ hp1)
  go_wp2_with fail
  refine (space_any p w2).mono ?_
  rintro e w3 ⟨rfl, hr3, hb3⟩
  have hs3 := hb3.size
  have ht3 : Wds w3 w.heap.size n c := ht2.of_block (hb3.block _ (by omega))
  have hg3 : Wds w3 w1.heap.size n c := hg2.of_block (hb3.block _ hp2)
  go_wp2_with fail
  refine (zroles_any w2.heap.size w.heap.size n u p lo (lo + p) w3 hn E1.out E2.out rfl hhi h1 (by omega) hr3).mono ?_
  rintro e w4 ⟨rfl, hb4⟩
  have hs4 := hb4.size
  have ht4 : Wds w4 w.heap.size n c := ht3.of_block (hb4.block _ (by omega))
  have hg4 : Wds w4 w1.heap.size n c := hg3.of_block (hb4.block _ (by omega))
  have qp : ((p : Int) != (p : Int)) = false := by simp
  go_wp2
  go_loopw [10] (fun i wr => ∃ q : Nat, q ≤ p ∧ i = .int .i64 q ∧ Only (fun k => k = w.heap.size) w4 wr ∧ Wds wr w.heap.size n (win c lo q)) (fun i _ => p - (intOf i).toNat)
  case atStart => exact ⟨0, by omega, rfl, Only.refl _ _, by rw [win_zero]; exact ht4⟩
  case round =>
    obtain ⟨q, hq, rfl, hon, htr⟩ := hrel
    by_cases hqp : q < p
    · have g := htr.cell (i := lo + q) (by omega)
      have gf := htr.frozen (lo + q)
      rw [win_at] at g
      have hi2 : (q : Int) < p := by omega
      have R := hon.setCell (p := ⟨w.heap.size, lo + q, none⟩) rfl (.int .u64 (flp (c (lo + q))))
      have R2 := win_set htr
      unfold flp at R
      clear htr ht1 ht2 ht3 ht4 hg2 hg3 hon
      generalize c (lo + q) = x at *
      go_wp2
      go_roundw
      case rel => exact ⟨q + 1, by omega, by go_num, R, R2⟩
      case measure => simp [intOf]; omega
    · obtain rfl : q = p := by omega
      have hg5 : Wds wr w1.heap.size n c := hg4.of_block (hon.block _ (by omega) (by omega))
      have hs5 := hon.size
      have hb5 : Below w.heap.size w wr := ((((hb1.trans (hb2.mono (by omega))).trans (hb3.mono (by omega))).trans (hb4.mono (by omega))).trans (hon.toBelow (by omega) (fun k hk e => by omega)))
      clear ht1 ht2 ht3 ht4 hg2 hg3 hg4 hon
      go_wp2
      obtain ⟨wo, hwo⟩ : ∃ wo : World, wo = wr := ⟨_, rfl⟩
      subst hwo
      have e1 := E1.out
      have e2 := E2.out
      go_loopw [11] (fun i wr => ∃ k : Nat, k ≤ n ∧ i = .int .i64 k ∧ Below wo.heap.size wo wr) (fun i _ => n - (intOf i).toNat)
      case atStart => exact ⟨0, by omega, rfl, Below.refl _ _⟩
      case round =>
        obtain ⟨k, hk, rfl, hbel⟩ := hrel
        by_cases hkn : k < n
        · have g1 : wr.cell? ⟨w.heap.size, k, none⟩ = some (.int .u64 (win c lo q k)) := (hbel.cell (by simp only []; omega)).trans (htr.cell hkn)
          have g2 : wr.cell? ⟨w1.heap.size, k, none⟩ = some (.int .u64 (c k)) := (hbel.cell (by simp only []; omega)).trans (hg5.cell hkn)
          have hkn' : (k : Int) < n := by omega
          clear htr hg5
          unfold win at g1
          generalize c k = x at *
          by_cases ha : lo ≤ k
          · have t1 : decide ((lo : Int) ≤ (k : Int)) = true := decide_eq_true (by omega)
            by_cases hb' : k < lo + q
            · rw [if_pos ⟨ha, hb'⟩] at g1
              unfold flp at g1
              have hb2' : (k : Int) < ((lo + q : Nat) : Int) := by omega
              go_wp2
              go_region
              go_wp2
              go_roundw
              case rel => exact ⟨k + 1, by omega, by go_num, hbel.drew⟩
              case measure => simp [intOf]; omega
            · rw [if_neg (fun h => hb' h.2)] at g1
              have hb2' : ((lo + q : Nat) : Int) ≤ (k : Int) := by omega
              go_wp2
              go_region
              go_wp2
              go_roundw
              case rel => exact ⟨k + 1, by omega, by go_num, hbel.drew⟩
              case measure => simp [intOf]; omega
          · have t1 : decide ((lo : Int) ≤ (k : Int)) = false := decide_eq_false (by omega)
            rw [if_neg (fun h => ha h.1)] at g1
            go_wp2
            go_region
            go_wp2
            go_roundw
            case rel => exact ⟨k + 1, by omega, by go_num, hbel.drew⟩
            case measure => simp [intOf]; omega
        · obtain rfl : k = n := by omega
          go_wp2
          go_ret
          exact ⟨rfl, hb5.trans (hbel.mono (by omega))⟩
end Go.Proofs.Qxb6604686a
