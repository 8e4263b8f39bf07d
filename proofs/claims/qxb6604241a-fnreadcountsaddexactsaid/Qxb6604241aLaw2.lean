import Derived.Test.Qxb6604241aPlain2
import Derived.Test.Qxb6604241aZAdd
namespace Go.Proofs.Qxb6604241a
open Go.RowKit

set_option maxHeartbeats 400000 in
theorem cap_any (v c : Int) (w : World) : Calls Try.prog 11 #[.int .i64 v, .int .i64 c] w fun e w' => e = .returned (.int .i64 (capA v c)) ∧ w = w' := by
  unfold capA
  by_cases h : c < v
  · rw [if_pos h]
    go_enter Try.func11, Try.ntmps11
    go_wp2
    go_ret
    exact ⟨rfl, rfl⟩
  · rw [if_neg h]
    go_enter Try.func11, Try.ntmps11
    go_wp2
    go_ret
    exact ⟨rfl, rfl⟩

set_option maxHeartbeats 400000 in
theorem zz15_yes (a : Option Addr) (n cap : Nat) (m rd ha id ot : Int) (w : World) (_h : n ≤ 1048576) :
    Calls Try.prog 15 #[.slice a n cap, .int .u64 m, .int .i64 rd, .int .i64 ha, .int .u64 id, .int .u64 ot] w fun e w' => e = .returned (.bool true) ∧ w = w' := by
  go_enter Try.func15, Try.ntmps15
  go_wp2
  go_ret
  exact ⟨rfl, rfl⟩

set_option maxHeartbeats 400000 in
theorem zz15_no (a : Option Addr) (n cap : Nat) (m rd ha id ot : Int) (w : World) (_h : 1048576 < n) :
    Calls Try.prog 15 #[.slice a n cap, .int .u64 m, .int .i64 rd, .int .i64 ha, .int .u64 id, .int .u64 ot] w fun e w' => e = .returned (.bool false) ∧ w = w' := by
  go_enter Try.func15, Try.ntmps15
  go_wp2
  go_ret
  exact ⟨rfl, rfl⟩

set_option maxHeartbeats 400000 in
theorem law2_big (a : Option Addr) (n cap : Nat) (m rd ha id ot : Int) (w : World) (hn : 1048576 < n) :
    Calls Try.prog 5 #[.slice a n cap, .int .u64 m, .int .i64 rd, .int .i64 ha, .int .u64 id, .int .u64 ot] w fun e w' => e = .returned (.bool true) ∧ Below w.heap.size w w' := by
  go_enter Try.func5, Try.ntmps5
  go_wp2_with (go_at_call 15; refine (zz15_no _ _ _ _ _ _ _ _ _ hn).mono ?_; rintro e w1 ⟨rfl, rfl⟩)
  go_ret
  exact ⟨rfl, Below.refl _ _⟩

set_option maxHeartbeats 400000 in
theorem law2_mask (a : Option Addr) (n cap : Nat) (m rd ha id ot : Int) (w : World) (hn : n ≤ 1048576) (_hm : (n : Int) ≤ m) :
    Calls Try.prog 5 #[.slice a n cap, .int .u64 m, .int .i64 rd, .int .i64 ha, .int .u64 id, .int .u64 ot] w fun e w' => e = .returned (.bool true) ∧ Below w.heap.size w w' := by
  go_enter Try.func5, Try.ntmps5
  go_wp2_with (go_at_call 15; refine (zz15_yes _ _ _ _ _ _ _ _ _ hn).mono ?_; rintro e w1 ⟨rfl, rfl⟩)
  go_ret
  exact ⟨rfl, Below.refl _ _⟩

set_option maxHeartbeats 400000 in
theorem law2_halves (a : Option Addr) (n cap : Nat) (m rd ha id ot : Int) (w : World) (hn : n ≤ 1048576) (_hm : m < n) (_hh : (wrap64 (rd + 1) == ha) = true) :
    Calls Try.prog 5 #[.slice a n cap, .int .u64 m, .int .i64 rd, .int .i64 ha, .int .u64 id, .int .u64 ot] w fun e w' => e = .returned (.bool true) ∧ Below w.heap.size w w' := by
  go_enter Try.func5, Try.ntmps5
  go_wp2_with (go_at_call 15; refine (zz15_yes _ _ _ _ _ _ _ _ _ hn).mono ?_; rintro e w1 ⟨rfl, rfl⟩)
  go_ret
  exact ⟨rfl, Below.refl _ _⟩

set_option maxHeartbeats 1000000 in
theorem law2_main (b off n cap : Nat) (c : Nat → Int) (mask rd ha id ot : Int) (w : World) (hn : n ≤ 1048576) (h0 : 0 ≤ id) (h1 : id ≤ 18446744073709551615) (o0 : 0 ≤ ot) (o1 : ot ≤ 18446744073709551615) (m0 : 0 ≤ mask) (m1 : mask < n)
    (hb : b < w.heap.size) (hc : ∀ i, i < n → w.cell? ⟨b, off + i, none⟩ = some (.int .u8 (c i))) (hcb : ∀ i, 0 ≤ c i ∧ c i ≤ 255) (hh : (wrap64 (rd + 1) == ha) = false) :
    Calls Try.prog 5 #[.slice (some ⟨b, off, none⟩) n cap, .int .u64 mask, .int .i64 rd, .int .i64 ha, .int .u64 id, .int .u64 ot] w fun e w' => e = .returned (.bool true) ∧ Below w.heap.size w w' := by
  have d1 : decide ((1048576 : Int) < (n : Int)) = false := by simp; omega
  have d2 : decide ((n : Int) ≤ mask) = false := by simp; omega
  go_enter Try.func5, Try.ntmps5
  go_wp2_with (go_at_call 15; refine (zz15_yes _ _ _ _ _ _ _ _ _ hn).mono ?_; rintro e w1 ⟨rfl, rfl⟩)
  refine (clone_any b off n cap c w hn hb hc).mono ?_
  rintro e w1 ⟨rfl, ht1, hb1⟩
  go_wp2_with fail
  refine (zest_any w.heap.size n id mask c w1 hn h0 h1 m0 m1 ht1).mono ?_
  rintro e w2 ⟨rfl, hb2⟩
  have hp1 : w.heap.size < w1.heap.size := ht1.lt
  have ht2 : Tab w2 w.heap.size n c := ht1.of_block (hb2.block _ hp1)
  go_wp2_with fail
  refine (zest_any w.heap.size n ot mask c w2 hn o0 o1 m0 m1 ht2).mono ?_
  rintro e w3 ⟨rfl, hb3⟩
  have hs2 := hb2.size
  have ht3 : Tab w3 w.heap.size n c := ht2.of_block (hb3.block _ (by omega))
  have hs3 := hb3.size
  go_wp2_with fail
  refine (zadd_any w.heap.size n id mask rd ha c w3 hn h0 h1 m0 m1 ht3 hcb hh).mono ?_
  rintro e w4 ⟨rfl, ht4, ho4⟩
  have hs4 := ho4.size
  go_wp2_with fail
  refine (zest_any w.heap.size n id mask _ w4 hn h0 h1 m0 m1 ht4).mono ?_
  rintro e w5 ⟨rfl, hb5⟩
  have hs5 := hb5.size
  have ht5 : Tab w5 w.heap.size n _ := ht4.of_block (hb5.block _ (by omega))
  go_wp2_with fail
  refine (zest_any w.heap.size n ot mask _ w5 hn o0 o1 m0 m1 ht5).mono ?_
  rintro e w6 ⟨rfl, hb6⟩
  have hs6 := hb6.size
  have g1 := raises_lo c (sl id mask)
  have g2 := raises_hi c (sl id mask)
  have g3 := est_mono c (bumps c (sl id mask) 4) (sl ot mask) (fun i => bumps_ge c _ i 4) 4
  have n1 := est_nn c (sl id mask) (fun i => (hcb i).1) 4
  have n2 := (est_le c (sl id mask) 4).1
  have n3 := est_nn (bumps c (sl id mask) 4) (sl id mask) (fun i => (bumps_bd c _ hcb 4 i).1) 4
  have n4 := (est_le (bumps c (sl id mask) 4) (sl id mask) 4).1
  generalize est (bumps c (sl id mask) 4) (sl id mask) 4 = A at *
  generalize est (bumps c (sl id mask) 4) (sl ot mask) 4 = A' at *
  generalize est c (sl id mask) 4 = E at *
  generalize est c (sl ot mask) 4 = E' at *
  clear hc hcb
  go_wp2_with fail
  refine (cap_any _ _ _).mono ?_
  rintro e w7 ⟨rfl, rfl⟩
  go_wp2_with fail
  refine (cap_any _ _ _).mono ?_
  rintro e w7 ⟨rfl, rfl⟩
  generalize capA (E + 1) 15 = L at *
  generalize capA (E + 4) 15 = H at *
  have k1 : decide (A < L) = false := by simp; omega
  have k2 : decide (H < A) = false := by simp; omega
  have k3 : decide (A' < E') = false := by simp; omega
  go_wp2
  go_ret
  exact ⟨rfl, ((((hb1.trans (hb2.mono (by omega))).trans (hb3.mono (by omega))).trans (ho4.toBelow (by omega) (fun k hk e => by omega))).trans (hb5.mono (by omega))).trans (hb6.mono (by omega))⟩
end Go.Proofs.Qxb6604241a
