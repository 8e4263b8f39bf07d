import Derived.WalkKit
namespace Go.Proofs.Qxb6604686a
open Go.RowKit

/-- From w to w': no block has gone, and of those that were there only blocks in S may have turned. -/
structure Only (S : Nat → Prop) (w w' : World) : Prop where
  os : w'.os = w.os
  tape : w'.tape = w.tape
  output : w'.output = w.output
  size : w.heap.size ≤ w'.heap.size
  block : ∀ k, k < w.heap.size → ¬ S k → w'.heap[k]? = w.heap[k]?

theorem Only.refl (S : Nat → Prop) (w : World) : Only S w w := ⟨rfl, rfl, rfl, Nat.le_refl _, fun _ _ _ => rfl⟩
theorem Only.trans {S : Nat → Prop} {a b c : World} (h : Only S a b) (k : Only S b c) : Only S a c :=
  ⟨k.os.trans h.os, k.tape.trans h.tape, k.output.trans h.output, Nat.le_trans h.size k.size, fun i hi hs => (k.block i (Nat.lt_of_lt_of_le hi h.size) hs).trans (h.block i hi hs)⟩
theorem Only.mono {S T : Nat → Prop} {w w' : World} (h : Only S w w') (hs : ∀ k, k < w.heap.size → S k → T k) : Only T w w' := ⟨h.os, h.tape, h.output, h.size, fun k hk ht => h.block k hk (fun s => ht (hs k hk s))⟩
theorem Only.drew {S : Nat → Prop} {a w : World} (h : Only S a w) : Only S a w.drew := ⟨h.os, h.tape, h.output, h.size, h.block⟩
theorem Only.alloc {S : Nat → Prop} {a w : World} (h : Only S a w) (o : Obj) : Only S a (w.alloc o) :=
  h.trans ⟨rfl, rfl, rfl, by simp, fun k hk _ => Below.heap_alloc _ _ _ hk⟩
theorem Only.setCell {S : Nat → Prop} {a w : World} (h : Only S a w) {p : Addr} (hp : S p.block) (u : Value) : Only S a (w.setCell p u) :=
  h.trans ⟨rfl, rfl, rfl, by simp [World.setCell], fun k _ hs => Below.heap_setCell _ _ _ _ (fun e => hs (e ▸ hp))⟩
theorem Only.below {S : Nat → Prop} {a w : World} (h : Below a.heap.size a w) : Only S a w := ⟨h.os, h.tape, h.output, h.size, fun k hk _ => h.block k hk⟩
theorem Only.toBelow {S : Nat → Prop} {a w : World} (h : Only S a w) {B : Nat} (hB : B ≤ a.heap.size) (hS : ∀ k, k < B → ¬ S k) : Below B a w := ⟨h.os, h.tape, h.output, h.size, fun k hk => h.block k (Nat.lt_of_lt_of_le hk hB) (hS k hk)⟩

end Go.Proofs.Qxb6604686a
