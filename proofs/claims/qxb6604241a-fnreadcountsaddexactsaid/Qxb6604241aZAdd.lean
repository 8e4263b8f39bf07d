import Derived.Test.Qxb6604241aAdd
namespace Go.Proofs.Qxb6604241a
open Go.RowKit

/-! ### ZZReadCountsAdd: a record of its own, add, the record's four fields -/
theorem Only.after_alloc {S : Nat → Prop} {w w' : World} {o : Obj} (h : Only (fun k => k = w.heap.size ∨ S k) (w.alloc o) w') : Only S w w' := by
  refine ⟨h.os, h.tape, h.output, ?_, fun k hk hs => ?_⟩
  · have := h.size
    simp at this
    omega
  · refine (h.block k (by simp; omega) ?_).trans (Below.heap_alloc _ _ _ hk)
    rintro (e | e)
    · omega
    · exact hs e

set_option maxHeartbeats 1000000 in
theorem zadd_any (b n : Nat) (id mask rd ha : Int) (c : Nat → Int) (w : World) (hn : n ≤ 1048576) (h0 : 0 ≤ id) (h1 : id ≤ 18446744073709551615) (m0 : 0 ≤ mask) (m1 : mask < n)
    (ht : Tab w b n c) (hcb : ∀ i, 0 ≤ c i ∧ c i ≤ 255) (hne : (wrap64 (rd + 1) == ha) = false) :
    Calls Try.prog 10 #[.slice (some ⟨b, 0, none⟩) n n, .int .u64 mask, .int .i64 rd, .int .i64 ha, .int .u64 id] w fun e w' =>
      e = .returned (.tuple #[.slice (some ⟨b, 0, none⟩) n n, .int .u64 mask, .int .i64 (wrap64 (rd + 1)), .int .i64 ha]) ∧ Tab w' b n (bumps c (sl id mask) 4) ∧ Only (fun k => k = b) w w' := by
  have hbl := ht.lt
  go_enter Try.func10, Try.ntmps10
  go_wp2_with fail
  refine (add_any w.heap.size b n id mask rd ha c _ hn h0 h1 m0 m1 (by omega) (heap_alloc_new _ _) (ht.alloc _) hcb hne).mono ?_
  rintro e w1 ⟨rfl, hr1, ht1, ho1⟩
  have e0 : w1.cell? ⟨w.heap.size, 0, none⟩ = some (.slice (some ⟨b, 0, none⟩) n n) := row_of_block hr1 0
  have e1 : w1.cell? ⟨w.heap.size, 1, none⟩ = some (.int .u64 mask) := row_of_block hr1 1
  have e2 : w1.cell? ⟨w.heap.size, 2, none⟩ = some (.int .i64 (wrap64 (rd + 1))) := row_of_block hr1 2
  have e3 : w1.cell? ⟨w.heap.size, 3, none⟩ = some (.int .i64 ha) := row_of_block hr1 3
  go_wp2
  go_region
  go_wp2
  refine bodyPost_ret (v := .tuple #[.slice (some ⟨b, 0, none⟩) n n, .int .u64 mask, .int .i64 (wrap64 (rd + 1)), .int .i64 ha]) (by simp [results, Try.results10, go_sem]) rfl ⟨rfl, ht1, ho1.after_alloc.drew⟩

set_option maxHeartbeats 1000000 in
theorem zadd_half (b n : Nat) (id mask rd ha : Int) (c : Nat → Int) (w : World) (hn : n ≤ 1048576) (h0 : 0 ≤ id) (h1 : id ≤ 18446744073709551615) (m0 : 0 ≤ mask) (m1 : mask < n)
    (ht : Tab w b n c) (hcb : ∀ i, 0 ≤ c i ∧ c i ≤ 255) (hne : (wrap64 (rd + 1) == ha) = true) :
    Calls Try.prog 10 #[.slice (some ⟨b, 0, none⟩) n n, .int .u64 mask, .int .i64 rd, .int .i64 ha, .int .u64 id] w fun e w' =>
      e = .returned (.tuple #[.slice (some ⟨b, 0, none⟩) n n, .int .u64 mask, .int .i64 0, .int .i64 ha]) ∧ Tab w' b n (halved (bumps c (sl id mask) 4)) ∧ Only (fun k => k = b) w w' := by
  have hbl := ht.lt
  go_enter Try.func10, Try.ntmps10
  go_wp2_with fail
  refine (add_half w.heap.size b n id mask rd ha c _ hn h0 h1 m0 m1 (by omega) (heap_alloc_new _ _) (ht.alloc _) hcb hne).mono ?_
  rintro e w1 ⟨rfl, hr1, ht1, ho1⟩
  have e0 : w1.cell? ⟨w.heap.size, 0, none⟩ = some (.slice (some ⟨b, 0, none⟩) n n) := row_of_block hr1 0
  have e1 : w1.cell? ⟨w.heap.size, 1, none⟩ = some (.int .u64 mask) := row_of_block hr1 1
  have e2 : w1.cell? ⟨w.heap.size, 2, none⟩ = some (.int .i64 0) := row_of_block hr1 2
  have e3 : w1.cell? ⟨w.heap.size, 3, none⟩ = some (.int .i64 ha) := row_of_block hr1 3
  go_wp2
  go_region
  go_wp2
  refine bodyPost_ret (v := .tuple #[.slice (some ⟨b, 0, none⟩) n n, .int .u64 mask, .int .i64 0, .int .i64 ha]) (by simp [results, Try.results10, go_sem]) rfl ⟨rfl, ht1, ho1.after_alloc.drew⟩

end Go.Proofs.Qxb6604241a
