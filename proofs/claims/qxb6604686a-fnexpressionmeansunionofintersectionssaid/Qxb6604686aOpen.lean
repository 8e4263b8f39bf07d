import Derived.Test.Qxb6604686aMem
import Derived.SliceStrings
import Derived.Deep.Slices
namespace Go.Proofs.Qxb6604686a
open Go.RowKit Go.Deep Go.ChangeShapes

theorem cells9 : Try.prog.cellsOf 9 = 1 := by kernel_rfl
theorem cells30 : Try.prog.cellsOf 30 = 1 := by kernel_rfl
theorem cells37 : Try.prog.cellsOf 37 = 1 := by kernel_rfl

section
variable {H : Type} {enc : TypeId × Value → H} {w : World} {spare : Nat → Bool} {held : Bool}

/-- the cells of a slice that was read lie at plain addresses -/
theorem at_of {a : Addr} {n : Nat} {V : Nat → Value} (h : ∀ i, i < n → w.cell? (a.add i) = some (V i)) : ∀ i, i < n → At 0 w (some a) i (V i) := by
  intro i hi
  obtain ⟨b, off, spot⟩ := a
  have hspot : spot = none := by simpa [Addr.add] using World.cell?_spot (h 0 (by omega))
  subst hspot
  exact ⟨b, off, rfl, Nat.zero_le _, by rw [← addr_add]; exact h i hi⟩

theorem open1 {fuel : Nat} {v : Value} {x : DataW H × List MemPlace} (h : DataW.trod enc Try.prog w 0 spare held fuel 30 [v] = some x) : ∃ n s, S1 0 w v n s := by
  rcases open_strings Try.underlying30 Try.underlying9 cells9 h with ⟨hcs, _⟩ | ⟨a, len, cap, ss, hcs, _, hl, hm, hz, _, hcell, _⟩
  · obtain rfl : v = .slice none 0 0 := by simpa using hcs
    exact ⟨0, fun _ => ByteArray.empty, _, _, rfl, Nat.zero_le _, fun i hi => absurd hi (by omega)⟩
  · obtain rfl : v = .slice (some a) len cap := by simpa using hcs
    have hle : len ≤ ss.length := by rw [hz]; split <;> omega
    exact ⟨len, fun i => ss.getD i ByteArray.empty, _, _, rfl, by omega, at_of (V := fun i => .string (ss.getD i ByteArray.empty)) (fun i hi => hcell i (by omega))⟩

theorem open2 {fuel : Nat} {v : Value} {x : DataW H × List MemPlace} (h : DataW.trod enc Try.prog w 0 spare held fuel 37 [v] = some x) : ∃ n l s, S2 0 w v n l s := by
  rcases open_slice1 Try.underlying37 cells30 h with ⟨hcs, _⟩ | ⟨a, len, cap, m, n, V, D, Pl, hcs, _, hl, hm, hmm, _, hx⟩
  · obtain rfl : v = .slice none 0 0 := by simpa using hcs
    exact ⟨0, fun _ => 0, fun _ _ => ByteArray.empty, _, _, rfl, Nat.zero_le _, fun i hi => absurd hi (by omega)⟩
  · obtain rfl : v = .slice (some a) len cap := by simpa using hcs
    have hle : len ≤ m := by rw [hmm]; split <;> omega
    obtain ⟨f, hf⟩ := choose_lt (α := Nat × (Nat → ByteArray)) (n := len) (p := fun i y => S1 0 w (V i) y.1 y.2) (fun i hi => by
      obtain ⟨k, s, hs⟩ := open1 (hx i (by omega)).2
      exact ⟨(k, s), hs⟩)
    exact ⟨len, fun i => (f i).1, fun i => (f i).2, _, _, rfl, by omega, fun i hi => ⟨V i, at_of (V := V) (fun i hi => (hx i (by omega)).1) i hi, hf i hi⟩⟩

theorem open3 {fuel : Nat} {v : Value} {x : DataW H × List MemPlace} (h : DataW.trod enc Try.prog w 0 spare held fuel 22 [v] = some x) : ∃ n m l s, S3 0 w v n m l s := by
  rcases open_slice1 Try.underlying22 cells37 h with ⟨hcs, _⟩ | ⟨a, len, cap, m, n, V, D, Pl, hcs, _, hl, hm, hmm, _, hx⟩
  · obtain rfl : v = .slice none 0 0 := by simpa using hcs
    exact ⟨0, fun _ => 0, fun _ _ => 0, fun _ _ _ => ByteArray.empty, _, _, rfl, Nat.zero_le _, fun i hi => absurd hi (by omega)⟩
  · obtain rfl : v = .slice (some a) len cap := by simpa using hcs
    have hle : len ≤ m := by rw [hmm]; split <;> omega
    obtain ⟨f, hf⟩ := choose_lt (α := Nat × (Nat → Nat) × (Nat → Nat → ByteArray)) (n := len) (p := fun i y => S2 0 w (V i) y.1 y.2.1 y.2.2) (fun i hi => by
      obtain ⟨k, l, s, hs⟩ := open2 (hx i (by omega)).2
      exact ⟨(k, l, s), hs⟩)
    exact ⟨len, fun i => (f i).1, fun i => (f i).2.1, fun i => (f i).2.2, _, _, rfl, by omega, fun i hi => ⟨V i, at_of (V := V) (fun i hi => (hx i (by omega)).1) i hi, hf i hi⟩⟩
end
end Go.Proofs.Qxb6604686a
