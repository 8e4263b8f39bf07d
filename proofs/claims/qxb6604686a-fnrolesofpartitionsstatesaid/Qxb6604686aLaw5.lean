import Derived.Test.Qxb6604686aRole
namespace Go.Proofs.Qxb6604686a
open Go.RowKit

set_option maxHeartbeats 400000 in
theorem law5_huge (a : Option Addr) (n cap : Nat) (p : Int) (w : World) (hn : 1048576 < n) :
    Calls Try.prog 7 #[.slice a n cap, .int .i64 p] w fun e w' => e = .returned (.bool true) ∧ Below w.heap.size w w' := by
  go_enter Try.func7, Try.ntmps7
  go_wp2_with (go_at_call 36; refine (zz36_no _ _ _ _ _ hn).mono ?_; rintro e w1 ⟨rfl, rfl⟩)
  go_ret
  exact ⟨rfl, Below.refl _ _⟩

set_option maxHeartbeats 400000 in
theorem law5_big (a : Option Addr) (n cap : Nat) (p : Int) (w : World) (hn : n ≤ 1048576) (_h2 : 131072 < n) :
    Calls Try.prog 7 #[.slice a n cap, .int .i64 p] w fun e w' => e = .returned (.bool true) ∧ Below w.heap.size w w' := by
  go_enter Try.func7, Try.ntmps7
  go_wp2_with (go_at_call 36; refine (zz36_yes _ _ _ _ _ hn).mono ?_; rintro e w1 ⟨rfl, rfl⟩)
  go_ret
  exact ⟨rfl, Below.refl _ _⟩

set_option maxHeartbeats 400000 in
theorem law5_low (a : Option Addr) (n cap : Nat) (p : Int) (w : World) (hn : n ≤ 131072) (h2 : p < 1) :
    Calls Try.prog 7 #[.slice a n cap, .int .i64 p] w fun e w' => e = .returned (.bool true) ∧ Below w.heap.size w w' := by
  have d : decide (p < 1) = true := by simp; omega
  go_enter Try.func7, Try.ntmps7
  go_wp2_with (go_at_call 36; refine (zz36_yes _ _ _ _ _ (by omega)).mono ?_; rintro e w1 ⟨rfl, rfl⟩)
  go_ret
  exact ⟨rfl, Below.refl _ _⟩

set_option maxHeartbeats 400000 in
theorem law5_high (a : Option Addr) (n cap : Nat) (p : Int) (w : World) (hn : n ≤ 131072) (h2 : 131072 < p) :
    Calls Try.prog 7 #[.slice a n cap, .int .i64 p] w fun e w' => e = .returned (.bool true) ∧ Below w.heap.size w w' := by
  have d : decide (p < 1) = false := by simp; omega
  go_enter Try.func7, Try.ntmps7
  go_wp2_with (go_at_call 36; refine (zz36_yes _ _ _ _ _ (by omega)).mono ?_; rintro e w1 ⟨rfl, rfl⟩)
  go_ret
  exact ⟨rfl, Below.refl _ _⟩

set_option maxHeartbeats 400000 in
theorem law5_rem (a : Option Addr) (n cap : Nat) (p : Nat) (w : World) (hn : n ≤ 131072) (h1 : 1 ≤ p) (h2 : p ≤ 131072) (h3 : ((n : Int) % (p : Int) != 0) = true) :
    Calls Try.prog 7 #[.slice a n cap, .int .i64 p] w fun e w' => e = .returned (.bool true) ∧ Below w.heap.size w w' := by
  have d : decide ((p : Int) < 1) = false := by simp; omega
  go_enter Try.func7, Try.ntmps7
  go_wp2_with (go_at_call 36; refine (zz36_yes _ _ _ _ _ (by omega)).mono ?_; rintro e w1 ⟨rfl, rfl⟩)
  go_ret
  exact ⟨rfl, Below.refl _ _⟩

set_option maxHeartbeats 1000000 in
theorem law5_main (b off n cap p U : Nat) (c : Nat → Int) (w : World) (hn0 : 0 < n) (hn : n ≤ 131072) (h1 : 1 ≤ p) (h2 : p ≤ 131072) (h3 : ((n : Int) % (p : Int) != 0) = false) (hU : (n : Int) / (p : Int) = U) (hUp : U * p = n) (hUn : U ≤ n)
    (hb : b < w.heap.size) (hc : ∀ i, i < n → w.cell? ⟨b, off + i, none⟩ = some (.int .u64 (c i))) :
    Calls Try.prog 7 #[.slice (some ⟨b, off, none⟩) n cap, .int .i64 p] w fun e w' => e = .returned (.bool true) ∧ Below w.heap.size w w' := by
  have d0 : decide ((131072 : Int) < (n : Int)) = false := by simp; omega
  have d : decide ((p : Int) < 1) = false := by simp; omega
  have d3 : decide ((131072 : Int) < (p : Int)) = false := by simp; omega
  have HU := hide hUp
  clear hUp
  go_enter Try.func7, Try.ntmps7
  go_wp2_with (go_at_call 36; refine (zz36_yes _ _ _ _ _ (by omega)).mono ?_; rintro e w1 ⟨rfl, rfl⟩)
  refine (copyw_any b off n cap c w hn hb hc).mono ?_
  rintro e w1 ⟨rfl, ht1, hb1⟩
  clear hc
  have hp1 := ht1.lt
  go_wp2_with fail
  refine (space_any p w1).mono ?_
  rintro e w2 ⟨rfl, hr2, hb2⟩
  have hs2 := hb2.size
  have ht2 : Wds w2 w.heap.size n c := ht1.of_block (hb2.block _ hp1)
  go_wp2_with fail
  have qp : ((p : Int) != (p : Int)) = false := by simp
  go_loopw [7, 8] (fun at_ i wr => ∃ k lo : Nat, k ≤ U ∧ i = .int .i64 k ∧ Hid (lo = k * p) ∧ at_ = .int .i64 lo ∧ Below w2.heap.size w2 wr) (fun _ i _ => U - (intOf i).toNat)
  case atStart => exact ⟨0, 0, by omega, rfl, hide (by simp), rfl, Below.refl _ _⟩
  case round =>
    obtain ⟨k, lo, hk, rfl, HL, rfl, hbel⟩ := hrel
    have hsz := hbel.size
    by_cases hlt : k < U
    · have hkp : lo + p ≤ n := by
        have h := Nat.mul_le_mul_right p (show k + 1 ≤ U by omega)
        rw [HU.out, Nat.add_mul, Nat.one_mul, ← HL.out] at h
        exact h
      have hr3 : wr.cell? ⟨w1.heap.size, 1, none⟩ = some (.int .i64 p) := (hbel.cell (block_lt_of_cell hr2)).trans hr2
      have e1 : (k : Int) * (p : Int) = lo := by rw [HL.out]; simp
      have e2 : ((k : Int) + 1) * (p : Int) = (lo + p : Nat) := by rw [HL.out]; simp [Int.add_mul]
      have C := hide (zroles_any w1.heap.size w.heap.size n k p lo (lo + p) wr hn e1 e2 rfl hkp h1 (by omega) hr3)
      clear e1 e2 hr3
      go_wp2_with fail
      refine C.out.mono ?_
      rintro e w3 ⟨rfl, hb3⟩
      clear C
      have hs3 := hb3.size
      have ht3 : Wds w3 w.heap.size n c := ht2.of_block ((hb3.block _ (by omega)).trans (hbel.block _ (by omega)))
      go_wp2
      go_loopw [7, 10] (fun at_ i wr => ∃ q : Nat, q ≤ p ∧ i = .int .i64 q ∧ at_ = .int .i64 ((lo + q : Nat) : Int) ∧ Below w3.heap.size w3 wr) (fun _ i _ => p - (intOf i).toNat)
      case atStart => exact ⟨0, by omega, rfl, rfl, Below.refl _ _⟩
      case round =>
        obtain ⟨q, hq, rfl, rfl, hbel2⟩ := hrel
        by_cases hqp : q < p
        · have g : wr.cell? ⟨w.heap.size, lo + q, none⟩ = some (.int .u64 (c (lo + q))) := (hbel2.cell (by simp only []; omega)).trans (ht3.cell (by omega))
          have hi1 : ((lo + q : Nat) : Int) < n := by omega
          have hi2 : (q : Int) < p := by omega
          generalize c (lo + q) = x at *
          go_wp2
          go_region
          go_wp2
          go_roundw
          case rel => exact ⟨q + 1, by omega, by go_num, by go_num, hbel2.drew⟩
          case measure => simp [intOf]; omega
        · obtain rfl : q = p := by omega
          go_wp2
          go_roundw
          case rel => exact ⟨k + 1, lo + q, by omega, by go_num, hide (by rw [HL.out, Nat.add_mul, Nat.one_mul]), by go_num, (hbel.trans (hb3.mono (by omega))).trans (hbel2.mono (by omega))⟩
          case measure => simp [intOf]; omega
    · obtain rfl : k = U := by omega
      have hlo : lo = n := HL.out.trans HU.out
      subst hlo
      go_wp2
      go_ret
      exact ⟨rfl, (hb1.trans (hb2.mono (by omega))).trans (hbel.mono (by omega))⟩

set_option maxHeartbeats 1000000 in
theorem law5_empty (a : Option Addr) (cap p : Nat) (w : World) (h1 : 1 ≤ p) (h2 : p ≤ 131072) (ha : a = none → cap = 0) :
    Calls Try.prog 7 #[.slice a 0 cap, .int .i64 p] w fun e w' => e = .returned (.bool true) ∧ Below w.heap.size w w' := by
  have d : decide ((p : Int) < 1) = false := by simp; omega
  have hcl : ∀ w, Calls Try.prog 22 #[.slice a 0 cap] w fun e w' => (∃ a', e = .returned (.slice a' 0 0)) ∧ Below w.heap.size w w' := by
    intro w
    cases a with
    | none =>
      obtain rfl := ha rfl
      exact (copyw_nil w).mono fun e w' h => ⟨⟨none, h.1⟩, h.2 ▸ Below.refl _ _⟩
    | some x => exact (copyw_empty x cap w).mono fun e w' h => ⟨⟨_, h.1⟩, h.2⟩
  have HC := hide hcl
  clear hcl ha
  go_enter Try.func7, Try.ntmps7
  go_wp2_with (go_at_call 36; refine (zz36_yes _ _ _ _ _ (by omega)).mono ?_; rintro e w1 ⟨rfl, rfl⟩)
  refine (HC.out w).mono ?_
  rintro e w1 ⟨⟨a', rfl⟩, hb1⟩
  go_wp2_with fail
  refine (space_any p w1).mono ?_
  rintro e w2 ⟨rfl, hr2, hb2⟩
  go_wp2_with fail
  refine wp_loop_rounds 1 ?_
  rw [rounds_succ]
  go_wp2
  go_ret
  exact ⟨rfl, hb1.trans (hb2.mono hb1.size)⟩
end Go.Proofs.Qxb6604686a
