import Derived.Test.Qxb6604241aPlain
namespace Go.Proofs.Qxb6604241a
open Go.RowKit

set_option maxHeartbeats 400000 in
theorem zz13_yes (a : Option Addr) (n cap : Nat) (m id : Int) (w : World) (_h : n ≤ 1048576) :
    Calls Try.prog 13 #[.slice a n cap, .int .u64 m, .int .u64 id] w fun e w' => e = .returned (.bool true) ∧ w = w' := by
  go_enter Try.func13, Try.ntmps13
  go_wp2
  go_ret
  exact ⟨rfl, rfl⟩

set_option maxHeartbeats 400000 in
theorem zz13_no (a : Option Addr) (n cap : Nat) (m id : Int) (w : World) (_h : 1048576 < n) :
    Calls Try.prog 13 #[.slice a n cap, .int .u64 m, .int .u64 id] w fun e w' => e = .returned (.bool false) ∧ w = w' := by
  go_enter Try.func13, Try.ntmps13
  go_wp2
  go_ret
  exact ⟨rfl, rfl⟩

set_option maxHeartbeats 400000 in
theorem law1_big (a : Option Addr) (n cap : Nat) (mask id : Int) (w : World) (hn : 1048576 < n) :
    Calls Try.prog 4 #[.slice a n cap, .int .u64 mask, .int .u64 id] w fun e w' => e = .returned (.bool true) ∧ Below w.heap.size w w' := by
  go_enter Try.func4, Try.ntmps4
  go_wp2_with (go_at_call 13; refine (zz13_no _ _ _ _ _ _ hn).mono ?_; rintro e w1 ⟨rfl, rfl⟩)
  go_ret
  exact ⟨rfl, Below.refl _ _⟩

set_option maxHeartbeats 400000 in
theorem law1_mask (a : Option Addr) (n cap : Nat) (mask id : Int) (w : World) (hn : n ≤ 1048576) (_hm : (n : Int) ≤ mask) :
    Calls Try.prog 4 #[.slice a n cap, .int .u64 mask, .int .u64 id] w fun e w' => e = .returned (.bool true) ∧ Below w.heap.size w w' := by
  go_enter Try.func4, Try.ntmps4
  go_wp2_with (go_at_call 13; refine (zz13_yes _ _ _ _ _ _ hn).mono ?_; rintro e w1 ⟨rfl, rfl⟩)
  go_ret
  exact ⟨rfl, Below.refl _ _⟩

set_option maxHeartbeats 1000000 in
theorem law1_main (b off n cap : Nat) (c : Nat → Int) (mask id : Int) (w : World) (hn : n ≤ 1048576) (h0 : 0 ≤ id) (h1 : id ≤ 18446744073709551615) (m0 : 0 ≤ mask) (m1 : mask < n)
    (hb : b < w.heap.size) (hc : ∀ i, i < n → w.cell? ⟨b, off + i, none⟩ = some (.int .u8 (c i))) :
    Calls Try.prog 4 #[.slice (some ⟨b, off, none⟩) n cap, .int .u64 mask, .int .u64 id] w fun e w' => e = .returned (.bool true) ∧ Below w.heap.size w w' := by
  have d1 : decide ((1048576 : Int) < (n : Int)) = false := by simp; omega
  have d2 : decide ((n : Int) ≤ mask) = false := by simp; omega
  go_enter Try.func4, Try.ntmps4
  go_wp2_with (go_at_call 13; refine (zz13_yes _ _ _ _ _ _ hn).mono ?_; rintro e w1 ⟨rfl, rfl⟩)
  refine (clone_any b off n cap c w hn hb hc).mono ?_
  rintro e w1 ⟨rfl, ht1, hb1⟩
  go_wp2_with fail
  refine (probe_any id mask w1 h0 h1 m0 (by omega)).mono ?_
  rintro e w2 ⟨rfl, hb2⟩
  unfold slots
  have hle : ∀ j, j < 4 → sl id mask j < n := fun j _ => by have := sl_le id mask j m0 (by omega); omega
  have HL : Hid (est c (sl id mask) 4 = scan c [sl id mask 0, sl id mask 1, sl id mask 2, sl id mask 3] n) := scan_est c (sl id mask) n hle
  have hp1 : w.heap.size < w1.heap.size := ht1.lt
  have hz2 := hb2.size
  have ht2 : Tab w2 w.heap.size n c := ht1.of_block (hb2.block _ hp1)
  clear hle hc
  go_wp2_with fail
  go_loopw [8, 9] (fun want i wr => ∃ k : Nat, k ≤ n ∧ i = .int .i64 k ∧ want = .int .u8 (scan c [sl id mask 0, sl id mask 1, sl id mask 2, sl id mask 3] k) ∧ Below (w2.heap.size + 1) (w2.alloc (.cells #[.int .u64 (sl id mask 0), .int .u64 (sl id mask 1), .int .u64 (sl id mask 2), .int .u64 (sl id mask 3)] 26)) wr) (fun _ i _ => n - (intOf i).toNat)
  case atStart => exact ⟨0, by omega, rfl, rfl, Below.refl _ _⟩
  case round =>
    obtain ⟨k, hk, rfl, rfl, hbel⟩ := hrel
    by_cases hlt : k < n
    · have g0 : wr.cell? ⟨w2.heap.size, 0, none⟩ = some (.int .u64 (sl id mask 0)) := (hbel.cell (by simp)).trans (by simp)
      have g1 : wr.cell? ⟨w2.heap.size, 1, none⟩ = some (.int .u64 (sl id mask 1)) := (hbel.cell (by simp)).trans (by simp)
      have g2 : wr.cell? ⟨w2.heap.size, 2, none⟩ = some (.int .u64 (sl id mask 2)) := (hbel.cell (by simp)).trans (by simp)
      have g3 : wr.cell? ⟨w2.heap.size, 3, none⟩ = some (.int .u64 (sl id mask 3)) := (hbel.cell (by simp)).trans (by simp)
      have htr : Tab wr w.heap.size n c := (ht2.alloc _).of_block (hbel.block _ (by omega))
      have gt := htr.cell hlt
      have HS : Hid (scan c [sl id mask 0, sl id mask 1, sl id mask 2, sl id mask 3] (k + 1) = if 0 < hitN [sl id mask 0, sl id mask 1, sl id mask 2, sl id mask 3] k ∧ c k < scan c [sl id mask 0, sl id mask 1, sl id mask 2, sl id mask 3] k then c k else scan c [sl id mask 0, sl id mask 1, sl id mask 2, sl id mask 3] k) := rfl
      have hsz := hbel.size
      simp only [World.size_alloc] at hsz
      go_wp2_with fail
      refine (hits_any _ _ _ _ k wr (by omega)).mono ?_
      rintro e w4 ⟨rfl, hb4⟩
      have gt4 : w4.cell? ⟨w.heap.size, k, none⟩ = some (.int .u8 (c k)) := (hb4.cell (by simp; omega)).trans gt
      have hbel4 := hbel.trans (hb4.mono hsz)
      generalize hitN [sl id mask 0, sl id mask 1, sl id mask 2, sl id mask 3] k = h at *
      generalize scan c [sl id mask 0, sl id mask 1, sl id mask 2, sl id mask 3] k = m at *
      by_cases hh : 0 < h
      · have hh1 : decide ((0 : Int) < (h : Int)) = true := by simp; omega
        by_cases hm : c k < m
        · go_wp2
          go_roundw
          case rel => exact ⟨k + 1, by omega, by go_num, by rw [HS.out, if_pos (by omega)], hbel4⟩
          case measure => simp [intOf]; omega
        · go_wp2
          go_roundw
          case rel => exact ⟨k + 1, by omega, by go_num, by rw [HS.out, if_neg (by omega)], hbel4⟩
          case measure => simp [intOf]; omega
      · have hh1 : decide ((0 : Int) < (h : Int)) = false := by simp; omega
        go_wp2
        go_roundw
        case rel => exact ⟨k + 1, by omega, by go_num, by rw [HS.out, if_neg (by omega)], hbel4⟩
        case measure => simp [intOf]; omega
    · obtain rfl : k = n := by omega
      have htr : Tab wr w.heap.size k c := (ht2.alloc _).of_block (hbel.block _ (by omega))
      go_wp2_with fail
      refine (zest_any w.heap.size k id mask c wr hn h0 h1 m0 m1 htr).mono ?_
      rintro e w5 ⟨rfl, hb5⟩
      rw [HL.out]
      go_wp2
      go_ret
      have hsz := hbel.size
      simp only [World.size_alloc] at hsz
      exact ⟨by simp, ((hb1.trans (hb2.mono (by omega))).alloc (by omega) _).trans ((hbel.mono (by omega)).trans (hb5.mono (by omega)))⟩
end Go.Proofs.Qxb6604241a
