import Derived.Test.Qxb6604241aLaw2
namespace Go.Proofs.Qxb6604241a
open Go.RowKit

set_option maxHeartbeats 400000 in
theorem zz7_yes (a : Option Addr) (n cap : Nat) (m rd ha id : Int) (w : World) (_h : n ≤ 1048576) :
    Calls Try.prog 7 #[.slice a n cap, .int .u64 m, .int .i64 rd, .int .i64 ha, .int .u64 id] w fun e w' => e = .returned (.bool true) ∧ w = w' := by
  go_enter Try.func7, Try.ntmps7
  go_wp2
  go_ret
  exact ⟨rfl, rfl⟩

set_option maxHeartbeats 400000 in
theorem zz7_no (a : Option Addr) (n cap : Nat) (m rd ha id : Int) (w : World) (_h : 1048576 < n) :
    Calls Try.prog 7 #[.slice a n cap, .int .u64 m, .int .i64 rd, .int .i64 ha, .int .u64 id] w fun e w' => e = .returned (.bool false) ∧ w = w' := by
  go_enter Try.func7, Try.ntmps7
  go_wp2
  go_ret
  exact ⟨rfl, rfl⟩

set_option maxHeartbeats 400000 in
theorem law4_big (a : Option Addr) (n cap : Nat) (m rd ha id : Int) (w : World) (hn : 1048576 < n) :
    Calls Try.prog 3 #[.slice a n cap, .int .u64 m, .int .i64 rd, .int .i64 ha, .int .u64 id] w fun e w' => e = .returned (.bool true) ∧ Below w.heap.size w w' := by
  go_enter Try.func3, Try.ntmps3
  go_wp2_with (go_at_call 7; refine (zz7_no _ _ _ _ _ _ _ _ hn).mono ?_; rintro e w1 ⟨rfl, rfl⟩)
  go_ret
  exact ⟨rfl, Below.refl _ _⟩

set_option maxHeartbeats 400000 in
theorem law4_mask (a : Option Addr) (n cap : Nat) (m rd ha id : Int) (w : World) (hn : n ≤ 1048576) (_hm : (n : Int) ≤ m) :
    Calls Try.prog 3 #[.slice a n cap, .int .u64 m, .int .i64 rd, .int .i64 ha, .int .u64 id] w fun e w' => e = .returned (.bool true) ∧ Below w.heap.size w w' := by
  go_enter Try.func3, Try.ntmps3
  go_wp2_with (go_at_call 7; refine (zz7_yes _ _ _ _ _ _ _ _ hn).mono ?_; rintro e w1 ⟨rfl, rfl⟩)
  go_ret
  exact ⟨rfl, Below.refl _ _⟩

theorem cap_bd (x : Int) (h : Nat) (hx : 0 ≤ x) : 0 ≤ capA (x + h) 15 ∧ capA (x + h) 15 ≤ 15 := by
  unfold capA
  by_cases f : 15 < x + (h : Int)
  · rw [if_pos f]; omega
  · rw [if_neg f]; omega

set_option maxHeartbeats 1000000 in
theorem law4_no (b off n cap : Nat) (c : Nat → Int) (mask rd ha id : Int) (w : World) (hn : n ≤ 1048576) (h0 : 0 ≤ id) (h1 : id ≤ 18446744073709551615) (m0 : 0 ≤ mask) (m1 : mask < n)
    (hb : b < w.heap.size) (hc : ∀ i, i < n → w.cell? ⟨b, off + i, none⟩ = some (.int .u8 (c i))) (hcb : ∀ i, 0 ≤ c i ∧ c i ≤ 255) (hh : (wrap64 (rd + 1) == ha) = false) :
    Calls Try.prog 3 #[.slice (some ⟨b, off, none⟩) n cap, .int .u64 mask, .int .i64 rd, .int .i64 ha, .int .u64 id] w fun e w' => e = .returned (.bool true) ∧ Below w.heap.size w w' := by
  have d1 : decide ((1048576 : Int) < (n : Int)) = false := by simp; omega
  have d2 : decide ((n : Int) ≤ mask) = false := by simp; omega
  go_enter Try.func3, Try.ntmps3
  go_wp2_with (go_at_call 7; refine (zz7_yes _ _ _ _ _ _ _ _ hn).mono ?_; rintro e w1 ⟨rfl, rfl⟩)
  refine (clone_any b off n cap c w hn hb hc).mono ?_
  rintro e w1 ⟨rfl, ht1, hb1⟩
  have hp1 : w.heap.size < w1.heap.size := ht1.lt
  go_wp2_with fail
  refine (clone_any w.heap.size 0 n n c w1 hn hp1 (fun i hi => by rw [Nat.zero_add]; exact ht1.cell hi)).mono ?_
  rintro e w2 ⟨rfl, hg2, hb2⟩
  have hp2 : w1.heap.size < w2.heap.size := hg2.lt
  have ht2 : Tab w2 w.heap.size n c := ht1.of_block (hb2.block _ hp1)
  go_wp2_with fail
  refine (probe_any id mask w2 h0 h1 m0 (by omega)).mono ?_
  rintro e w3 ⟨rfl, hb3⟩
  unfold slots
  have hz3 := hb3.size
  have ht3 : Tab w3 w.heap.size n c := ht2.of_block (hb3.block _ (by omega))
  have hg3 : Tab w3 w1.heap.size n c := hg2.of_block (hb3.block _ hp2)
  clear hc
  go_wp2_with fail
  have ht4 := ht3.alloc (.cells #[.int .u64 (sl id mask 0), .int .u64 (sl id mask 1), .int .u64 (sl id mask 2), .int .u64 (sl id mask 3)] 26)
  have hg4 := hg3.alloc (.cells #[.int .u64 (sl id mask 0), .int .u64 (sl id mask 1), .int .u64 (sl id mask 2), .int .u64 (sl id mask 3)] 26)
  have hp4 := heap_alloc_new w3 (.cells #[.int .u64 (sl id mask 0), .int .u64 (sl id mask 1), .int .u64 (sl id mask 2), .int .u64 (sl id mask 3)] 26)
  have hs4 : (w3.alloc (.cells #[.int .u64 (sl id mask 0), .int .u64 (sl id mask 1), .int .u64 (sl id mask 2), .int .u64 (sl id mask 3)] 26)).heap.size = w3.heap.size + 1 := by simp
  have hb4 : Below w.heap.size w (w3.alloc (.cells #[.int .u64 (sl id mask 0), .int .u64 (sl id mask 1), .int .u64 (sl id mask 2), .int .u64 (sl id mask 3)] 26)) := ((hb1.trans (hb2.mono (by omega))).trans (hb3.mono (by omega))).alloc (by omega) _
  generalize w3.alloc (.cells #[.int .u64 (sl id mask 0), .int .u64 (sl id mask 1), .int .u64 (sl id mask 2), .int .u64 (sl id mask 3)] 26) = w4 at *
  refine (zadd_any w.heap.size n id mask rd ha c w4 hn h0 h1 m0 m1 ht4 hcb hh).mono ?_
  rintro e w5 ⟨rfl, ht5, ho5⟩
  have hs5 := ho5.size
  have hg5 : Tab w5 w1.heap.size n c := hg4.of_block (ho5.block _ (by omega) (by omega))
  have hp5 := (ho5.block w3.heap.size (by omega) (by omega)).trans hp4
  have hb5 : Below w.heap.size w w5 := hb4.trans (ho5.toBelow (by omega) (fun k hk e => by omega))
  clear hp4 hg4 ht4 ho5
  have q0 : (wrap64 (rd + 1) != wrap64 (rd + 1)) = false := by simp
  have q1 : (ha != ha) = false := by simp
  have q2 : (mask != mask) = false := by simp
  have q3 : ((n : Int) != (n : Int)) = false := by simp
  go_wp2
  go_loopw [19] (fun i wr => ∃ k : Nat, k ≤ n ∧ i = .int .i64 k ∧ Below w5.heap.size w5 wr) (fun i _ => n - (intOf i).toNat)
  case atStart => exact ⟨0, by omega, rfl, Below.refl _ _⟩
  case round =>
    obtain ⟨k, hk, rfl, hbel⟩ := hrel
    by_cases hlt : k < n
    · have hsz := hbel.size
      have go1 : wr.cell? ⟨w1.heap.size, k, none⟩ = some (.int .u8 (c k)) := (hbel.cell (by simp only []; omega)).trans (hg5.cell hlt)
      have go2 : wr.cell? ⟨w.heap.size, k, none⟩ = some (.int .u8 (bumps c (sl id mask) 4 k)) := (hbel.cell (by simp only []; omega)).trans (ht5.cell hlt)
      have hck := hcb k
      by_cases hv : c k < 15
      · have hbx : bumps c (sl id mask) 4 k = capA (c k + hitN [sl id mask 0, sl id mask 1, sl id mask 2, sl id mask 3] k) 15 := by rw [bumps_exact, if_pos hv, hit4]
        have HV := hide (cap_bd (c k) (hitN [sl id mask 0, sl id mask 1, sl id mask 2, sl id mask 3] k) hck.1)
        have hhl := hit_le [sl id mask 0, sl id mask 1, sl id mask 2, sl id mask 3] k 4
        simp only [List.take_succ_cons, List.take_zero] at hhl
        have g0 : wr.cell? ⟨w3.heap.size, 0, none⟩ = some (.int .u64 (sl id mask 0)) := (hbel.cell (by simp only []; omega)).trans (row_of_block hp5 0)
        have g1 : wr.cell? ⟨w3.heap.size, 1, none⟩ = some (.int .u64 (sl id mask 1)) := (hbel.cell (by simp only []; omega)).trans (row_of_block hp5 1)
        have g2 : wr.cell? ⟨w3.heap.size, 2, none⟩ = some (.int .u64 (sl id mask 2)) := (hbel.cell (by simp only []; omega)).trans (row_of_block hp5 2)
        have g3 : wr.cell? ⟨w3.heap.size, 3, none⟩ = some (.int .u64 (sl id mask 3)) := (hbel.cell (by simp only []; omega)).trans (row_of_block hp5 3)
        rw [hbx] at go2
        clear hbx ht5 hg5 hp5 hb5 hcb
        go_wp2_with fail
        refine (hits_any _ _ _ _ k wr (by omega)).mono ?_
        rintro e w6 ⟨rfl, hb6⟩
        have hb6' := hbel.trans (hb6.mono hsz)
        have go3 : w6.cell? ⟨w.heap.size, k, none⟩ = some (.int .u8 (capA (c k + hitN [sl id mask 0, sl id mask 1, sl id mask 2, sl id mask 3] k) 15)) := (hb6.cell (by simp only []; omega)).trans go2
        clear go1 go2 g0 g1 g2 g3
        generalize hitN [sl id mask 0, sl id mask 1, sl id mask 2, sl id mask 3] k = h at *
        go_wp2_with fail
        refine (cap_any _ _ _).mono ?_
        rintro e w7 ⟨rfl, rfl⟩
        have hV := HV.out
        generalize capA (c k + (h : Int)) 15 = V at *
        clear HV
        go_wp2
        go_roundw
        case rel => exact ⟨k + 1, by omega, by go_num, hb6'⟩
        case measure => simp [intOf]; omega
      · have hbx : bumps c (sl id mask) 4 k = c k := by rw [bumps_exact, if_neg hv]
        rw [hbx] at go2
        clear hbx ht5 hg5 hp5 hb5 hcb
        go_wp2
        go_roundw
        case rel => exact ⟨k + 1, by omega, by go_num, hbel⟩
        case measure => simp [intOf]; omega
    · obtain rfl : k = n := by omega
      go_wp2
      go_ret
      exact ⟨rfl, hb5.trans (hbel.mono (by omega))⟩

set_option maxHeartbeats 1000000 in
theorem law4_yes (b off n cap : Nat) (c : Nat → Int) (mask rd ha id : Int) (w : World) (hn : n ≤ 1048576) (h0 : 0 ≤ id) (h1 : id ≤ 18446744073709551615) (m0 : 0 ≤ mask) (m1 : mask < n)
    (hb : b < w.heap.size) (hc : ∀ i, i < n → w.cell? ⟨b, off + i, none⟩ = some (.int .u8 (c i))) (hcb : ∀ i, 0 ≤ c i ∧ c i ≤ 255) (hh : (wrap64 (rd + 1) == ha) = true) :
    Calls Try.prog 3 #[.slice (some ⟨b, off, none⟩) n cap, .int .u64 mask, .int .i64 rd, .int .i64 ha, .int .u64 id] w fun e w' => e = .returned (.bool true) ∧ Below w.heap.size w w' := by
  have d1 : decide ((1048576 : Int) < (n : Int)) = false := by simp; omega
  have d2 : decide ((n : Int) ≤ mask) = false := by simp; omega
  go_enter Try.func3, Try.ntmps3
  go_wp2_with (go_at_call 7; refine (zz7_yes _ _ _ _ _ _ _ _ hn).mono ?_; rintro e w1 ⟨rfl, rfl⟩)
  refine (clone_any b off n cap c w hn hb hc).mono ?_
  rintro e w1 ⟨rfl, ht1, hb1⟩
  have hp1 : w.heap.size < w1.heap.size := ht1.lt
  go_wp2_with fail
  refine (clone_any w.heap.size 0 n n c w1 hn hp1 (fun i hi => by rw [Nat.zero_add]; exact ht1.cell hi)).mono ?_
  rintro e w2 ⟨rfl, hg2, hb2⟩
  have hp2 : w1.heap.size < w2.heap.size := hg2.lt
  have ht2 : Tab w2 w.heap.size n c := ht1.of_block (hb2.block _ hp1)
  go_wp2_with fail
  refine (probe_any id mask w2 h0 h1 m0 (by omega)).mono ?_
  rintro e w3 ⟨rfl, hb3⟩
  unfold slots
  have hz3 := hb3.size
  have ht3 : Tab w3 w.heap.size n c := ht2.of_block (hb3.block _ (by omega))
  have hg3 : Tab w3 w1.heap.size n c := hg2.of_block (hb3.block _ hp2)
  clear hc
  go_wp2_with fail
  have ht4 := ht3.alloc (.cells #[.int .u64 (sl id mask 0), .int .u64 (sl id mask 1), .int .u64 (sl id mask 2), .int .u64 (sl id mask 3)] 26)
  have hg4 := hg3.alloc (.cells #[.int .u64 (sl id mask 0), .int .u64 (sl id mask 1), .int .u64 (sl id mask 2), .int .u64 (sl id mask 3)] 26)
  have hp4 := heap_alloc_new w3 (.cells #[.int .u64 (sl id mask 0), .int .u64 (sl id mask 1), .int .u64 (sl id mask 2), .int .u64 (sl id mask 3)] 26)
  have hs4 : (w3.alloc (.cells #[.int .u64 (sl id mask 0), .int .u64 (sl id mask 1), .int .u64 (sl id mask 2), .int .u64 (sl id mask 3)] 26)).heap.size = w3.heap.size + 1 := by simp
  have hb4 : Below w.heap.size w (w3.alloc (.cells #[.int .u64 (sl id mask 0), .int .u64 (sl id mask 1), .int .u64 (sl id mask 2), .int .u64 (sl id mask 3)] 26)) := ((hb1.trans (hb2.mono (by omega))).trans (hb3.mono (by omega))).alloc (by omega) _
  generalize w3.alloc (.cells #[.int .u64 (sl id mask 0), .int .u64 (sl id mask 1), .int .u64 (sl id mask 2), .int .u64 (sl id mask 3)] 26) = w4 at *
  refine (zadd_half w.heap.size n id mask rd ha c w4 hn h0 h1 m0 m1 ht4 hcb hh).mono ?_
  rintro e w5 ⟨rfl, ht5, ho5⟩
  have hs5 := ho5.size
  have hg5 : Tab w5 w1.heap.size n c := hg4.of_block (ho5.block _ (by omega) (by omega))
  have hp5 := (ho5.block w3.heap.size (by omega) (by omega)).trans hp4
  have hb5 : Below w.heap.size w w5 := hb4.trans (ho5.toBelow (by omega) (fun k hk e => by omega))
  clear hp4 hg4 ht4 ho5
  have q0 : (wrap64 (rd + 1) != wrap64 (rd + 1)) = false := by simp
  have q1 : (ha != ha) = false := by simp
  have q2 : (mask != mask) = false := by simp
  have q3 : ((n : Int) != (n : Int)) = false := by simp
  go_wp2
  go_loopw [19] (fun i wr => ∃ k : Nat, k ≤ n ∧ i = .int .i64 k ∧ Below w5.heap.size w5 wr) (fun i _ => n - (intOf i).toNat)
  case atStart => exact ⟨0, by omega, rfl, Below.refl _ _⟩
  case round =>
    obtain ⟨k, hk, rfl, hbel⟩ := hrel
    by_cases hlt : k < n
    · have hsz := hbel.size
      have go1 : wr.cell? ⟨w1.heap.size, k, none⟩ = some (.int .u8 (c k)) := (hbel.cell (by simp only []; omega)).trans (hg5.cell hlt)
      have go2 : wr.cell? ⟨w.heap.size, k, none⟩ = some (.int .u8 (halved (bumps c (sl id mask) 4) k)) := (hbel.cell (by simp only []; omega)).trans (ht5.cell hlt)
      have hck := hcb k
      by_cases hv : c k < 15
      · have hbx : bumps c (sl id mask) 4 k = capA (c k + hitN [sl id mask 0, sl id mask 1, sl id mask 2, sl id mask 3] k) 15 := by rw [bumps_exact, if_pos hv, hit4]
        have HV := hide (cap_bd (c k) (hitN [sl id mask 0, sl id mask 1, sl id mask 2, sl id mask 3] k) hck.1)
        have hhl := hit_le [sl id mask 0, sl id mask 1, sl id mask 2, sl id mask 3] k 4
        simp only [List.take_succ_cons, List.take_zero] at hhl
        have g0 : wr.cell? ⟨w3.heap.size, 0, none⟩ = some (.int .u64 (sl id mask 0)) := (hbel.cell (by simp only []; omega)).trans (row_of_block hp5 0)
        have g1 : wr.cell? ⟨w3.heap.size, 1, none⟩ = some (.int .u64 (sl id mask 1)) := (hbel.cell (by simp only []; omega)).trans (row_of_block hp5 1)
        have g2 : wr.cell? ⟨w3.heap.size, 2, none⟩ = some (.int .u64 (sl id mask 2)) := (hbel.cell (by simp only []; omega)).trans (row_of_block hp5 2)
        have g3 : wr.cell? ⟨w3.heap.size, 3, none⟩ = some (.int .u64 (sl id mask 3)) := (hbel.cell (by simp only []; omega)).trans (row_of_block hp5 3)
        unfold halved at go2; rw [hbx] at go2
        clear hbx ht5 hg5 hp5 hb5 hcb
        go_wp2_with fail
        refine (hits_any _ _ _ _ k wr (by omega)).mono ?_
        rintro e w6 ⟨rfl, hb6⟩
        have hb6' := hbel.trans (hb6.mono hsz)
        have go3 : w6.cell? ⟨w.heap.size, k, none⟩ = some (.int .u8 (capA (c k + hitN [sl id mask 0, sl id mask 1, sl id mask 2, sl id mask 3] k) 15 / 2)) := (hb6.cell (by simp only []; omega)).trans go2
        clear go1 go2 g0 g1 g2 g3
        generalize hitN [sl id mask 0, sl id mask 1, sl id mask 2, sl id mask 3] k = h at *
        go_wp2_with fail
        refine (cap_any _ _ _).mono ?_
        rintro e w7 ⟨rfl, rfl⟩
        have hV := HV.out
        generalize capA (c k + (h : Int)) 15 = V at *
        clear HV
        go_wp2
        go_roundw
        case rel => exact ⟨k + 1, by omega, by go_num, hb6'⟩
        case measure => simp [intOf]; omega
      · have hbx : bumps c (sl id mask) 4 k = c k := by rw [bumps_exact, if_neg hv]
        unfold halved at go2; rw [hbx] at go2
        clear hbx ht5 hg5 hp5 hb5 hcb
        go_wp2
        go_roundw
        case rel => exact ⟨k + 1, by omega, by go_num, hbel⟩
        case measure => simp [intOf]; omega
    · obtain rfl : k = n := by omega
      go_wp2
      go_ret
      exact ⟨rfl, hb5.trans (hbel.mono (by omega))⟩
end Go.Proofs.Qxb6604241a
