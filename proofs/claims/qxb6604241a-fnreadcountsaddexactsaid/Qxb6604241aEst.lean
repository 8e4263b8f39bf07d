import Derived.Test.Qxb6604241aLeaf
namespace Go.Proofs.Qxb6604241a
open Go.RowKit

/-- the least of 15 and the counters at the first k slots -/
def est (c : Nat → Int) (s : Nat → Nat) : Nat → Int
  | 0 => 15
  | k + 1 => if c (s k) < est c s k then c (s k) else est c s k

set_option maxHeartbeats 800000 in
theorem estimate_any (r b n : Nat) (id mask : Int) (c : Nat → Int) (w : World) (hn : n ≤ 1048576) (h0 : 0 ≤ id) (h1 : id ≤ 18446744073709551615) (m0 : 0 ≤ mask) (m1 : mask < n)
    (hc0 : w.cell? ⟨r, 0, none⟩ = some (.slice (some ⟨b, 0, none⟩) n n)) (hc1 : w.cell? ⟨r, 1, none⟩ = some (.int .u64 mask)) (ht : Tab w b n c) :
    Calls Try.prog 20 #[.pointer (some ⟨r, 0, none⟩), .int .u64 id] w fun e w' => e = .returned (.int .u8 (est c (sl id mask) 4)) ∧ Below w.heap.size w w' := by
  have hr := block_lt_of_cell hc0
  go_enter Try.func20, Try.ntmps20
  go_wp2_with (go_at_call 21; refine (hash_any _ _ h0 h1).mono ?_; rintro e w' ⟨rfl, rfl⟩)
  go_loopw [5, 7, 13] (fun at_ least i wr => ∃ k : Nat, k ≤ 4 ∧ i = .int .i64 k ∧ at_ = .int .u64 (atJ id k) ∧ least = .int .u8 (est c (sl id mask) k) ∧ Below w.heap.size w wr) (fun _ _ i _ => 4 - (intOf i).toNat)
  case atStart => exact ⟨0, by omega, rfl, rfl, rfl, Below.refl _ _⟩
  case round =>
    obtain ⟨k, hk, rfl, rfl, rfl, hbel⟩ := hrel
    by_cases hlt : k < 4
    · have e0 := (hbel.cell (p := ⟨r, 0, none⟩) hr).trans hc0
      have e1 := (hbel.cell (p := ⟨r, 1, none⟩) hr).trans hc1
      have hs := sl_eq id mask k m0 (by omega)
      have hsl := sl_le id mask k m0 (by omega)
      have hsi : ((sl id mask k : Nat) : Int) < n := by omega
      have e2 : wr.cell? ⟨b, sl id mask k, none⟩ = some (.int .u8 (c (sl id mask k))) := (hbel.cell ht.lt).trans (ht.cell (by omega))
      have HE : Hid (est c (sl id mask) (k + 1) = if c (sl id mask k) < est c (sl id mask) k then c (sl id mask k) else est c (sl id mask) k) := rfl
      have HA : Hid (atJ id (k + 1) = IntKind.u64.wrap (atJ id k + hSt id)) := rfl
      generalize atJ id k = a at *
      generalize est c (sl id mask) k = m at *
      generalize sl id mask k = s at *
      go_wp2
      go_region
      go_wp2
      go_roundw
      case rel => exact ⟨k + 1, by omega, by go_num, by rw [HA.out], by rw [HE.out], hbel.drew⟩
      case measure => simp [intOf]; omega
    · obtain rfl : k = 4 := by omega
      go_wp2
      go_ret
      exact ⟨rfl, hbel⟩

set_option maxHeartbeats 800000 in
theorem zest_any (b n : Nat) (id mask : Int) (c : Nat → Int) (w : World) (hn : n ≤ 1048576) (h0 : 0 ≤ id) (h1 : id ≤ 18446744073709551615) (m0 : 0 ≤ mask) (m1 : mask < n) (ht : Tab w b n c) :
    Calls Try.prog 14 #[.slice (some ⟨b, 0, none⟩) n n, .int .u64 mask, .int .u64 id] w fun e w' => e = .returned (.int .u8 (est c (sl id mask) 4)) ∧ Below w.heap.size w w' := by
  go_enter Try.func14, Try.ntmps14
  go_wp2_with fail
  refine (estimate_any w.heap.size b n id mask c _ hn h0 h1 m0 m1 (by simp) (by simp) (ht.alloc _)).mono ?_
  rintro e w1 ⟨rfl, hb⟩
  go_wp2
  go_ret
  exact ⟨rfl, ((Below.refl _ _).alloc (Nat.le_refl _) _).trans (hb.mono (by simp))⟩
end Go.Proofs.Qxb6604241a
