import Derived.Test.Qxb6604686aCopyT
namespace Go.Proofs.Qxb6604686a
open Go.RowKit

theorem info33 : (Try.prog.info? 33).map (fun i => (i.zero, i.size, i.bytes)) = some (some (.slice none 0 0), 1, 24) := by kernel_rfl
theorem info35 : (Try.prog.info? 35).map (fun i => (i.zero, i.size, i.bytes)) = some (some (.agg #[.int .i64 0, .slice none 0 0, .string ⟨#[]⟩, .string ⟨#[]⟩, .string ⟨#[]⟩, .slice none 0 0]), 6, 104) := by kernel_rfl

/-- the six cells of an expression: kind, principals, the role's two names, the link, the operands -/
def cells6 (kind : Int) (p o : Value) : Nat → Value
  | 0 => .int .i64 kind
  | 1 => p
  | 2 => .string ⟨#[]⟩
  | 3 => .string ⟨#[]⟩
  | 4 => .string ⟨#[]⟩
  | _ => o

/-- element i of an array of expressions that begins at its block's head -/
def At6 (B : Nat) (w : World) (a : Option Addr) (i : Nat) (c : Nat → Value) : Prop := ∃ b, a = some ⟨b, 0, none⟩ ∧ B ≤ b ∧ ∀ j, j < 6 → w.cell? ⟨b, i * 6 + j, none⟩ = some (c j)
/-- v is a []Expression of n sets, the i-th of the []string 'U i' -/
def E1 (B : Nat) (w : World) (v : Value) (n : Nat) (U : Nat → Value) : Prop := ∃ a cap, v = .slice a n cap ∧ n ≤ maxLen ∧ ∀ i, i < n → At6 B w a i (cells6 0 (U i) (.slice none 0 0))
/-- v is a [][]Expression of such -/
def E2 (B : Nat) (w : World) (v : Value) (n : Nat) (m : Nat → Nat) (U : Nat → Nat → Value) : Prop := ∃ a cap, v = .slice a n cap ∧ n ≤ maxLen ∧ ∀ i, i < n → ∃ u, At B w a i u ∧ E1 B w u (m i) (U i)

theorem At6.kept {B : Nat} {w w' : World} {a : Option Addr} {i : Nat} {c : Nat → Value} (h : At6 B w a i c) (k : ∀ b, B ≤ b → b < w.heap.size → w'.heap[b]? = w.heap[b]?) : At6 B w' a i c := by
  obtain ⟨b, e, hb, hc⟩ := h
  exact ⟨b, e, hb, fun j hj => (World.cell?_of_block (w := w) (a := ⟨b, i * 6 + j, none⟩) (k b hb (block_lt_of_cell (hc j hj)))).trans (hc j hj)⟩
theorem At6.weak {B B' : Nat} {w : World} {a : Option Addr} {i : Nat} {c : Nat → Value} (h : At6 B w a i c) (hb : B' ≤ B) : At6 B' w a i c := by
  obtain ⟨b, e, hB, hc⟩ := h
  exact ⟨b, e, Nat.le_trans hb hB, hc⟩
theorem E1.kept {B : Nat} {w w' : World} {v : Value} {n : Nat} {U : Nat → Value} (h : E1 B w v n U) (k : ∀ b, B ≤ b → b < w.heap.size → w'.heap[b]? = w.heap[b]?) : E1 B w' v n U := by
  obtain ⟨a, cap, e, hn, hc⟩ := h
  exact ⟨a, cap, e, hn, fun i hi => (hc i hi).kept k⟩
theorem E1.weak {B B' : Nat} {w : World} {v : Value} {n : Nat} {U : Nat → Value} (h : E1 B w v n U) (hb : B' ≤ B) : E1 B' w v n U := by
  obtain ⟨a, cap, e, hn, hc⟩ := h
  exact ⟨a, cap, e, hn, fun i hi => (hc i hi).weak hb⟩
theorem E2.kept {B : Nat} {w w' : World} {v : Value} {n : Nat} {m : Nat → Nat} {U : Nat → Nat → Value} (h : E2 B w v n m U) (k : ∀ b, B ≤ b → b < w.heap.size → w'.heap[b]? = w.heap[b]?) : E2 B w' v n m U := by
  obtain ⟨a, cap, e, hn, hc⟩ := h
  refine ⟨a, cap, e, hn, fun i hi => ?_⟩
  obtain ⟨u, hu, hs⟩ := hc i hi
  exact ⟨u, hu.kept k, hs.kept k⟩
theorem E2.weak {B B' : Nat} {w : World} {v : Value} {n : Nat} {m : Nat → Nat} {U : Nat → Nat → Value} (h : E2 B w v n m U) (hb : B' ≤ B) : E2 B' w v n m U := by
  obtain ⟨a, cap, e, hn, hc⟩ := h
  refine ⟨a, cap, e, hn, fun i hi => ?_⟩
  obtain ⟨u, hu, hs⟩ := hc i hi
  exact ⟨u, hu.weak hb, hs.weak hb⟩
theorem E1.empty (B : Nat) (w : World) (a : Option Addr) (cap : Nat) (U : Nat → Value) : E1 B w (.slice a 0 cap) 0 U :=
  ⟨_, _, rfl, Nat.zero_le _, fun i hi => absurd hi (by omega)⟩
theorem E1.of_row {w : World} {b n B : Nat} {g U : Nat → Value} (h : w.rowIs b 35 (n * 6) g) (hn : n ≤ 4096) (hB : B ≤ b) (hg : ∀ j, j < n → ∀ c, c < 6 → g (j * 6 + c) = cells6 0 (U j) (.slice none 0 0) c) : E1 B w (.slice (some ⟨b, 0, none⟩) n n) n U :=
  ⟨_, _, rfl, by unfold maxLen; omega, fun i hi => ⟨b, rfl, hB, fun j hj => by rw [h.cell (by omega), hg i hi j hj]⟩⟩
theorem E2.of_row {w : World} {b n B : Nat} {g : Nat → Value} {m : Nat → Nat} {U : Nat → Nat → Value} (h : w.rowIs b 33 n g) (hn : n ≤ 4096) (hB : B ≤ b) (hg : ∀ i, i < n → E1 B w (g i) (m i) (U i)) : E2 B w (.slice (some ⟨b, 0, none⟩) n n) n m U :=
  ⟨_, _, rfl, by unfold maxLen; omega, fun i hi => ⟨g i, ⟨b, 0, rfl, hB, by rw [Nat.zero_add]; exact h.cell hi⟩, hg i hi⟩⟩

/-- any new block is a row of whatever it holds -/
theorem rowIs_new (w : World) (c : Array Value) (t : TypeId) (n : Nat) (hn : c.size = n) : (w.alloc (.cells c t)).rowIs w.heap.size t n (fun i => c[i]?.getD undef) := by
  subst hn
  refine World.rowIs_alloc w c t _ fun i hi => ?_
  simp [hi]

/-- six stores, one behind the other -/
theorem row6 {w : World} {R N k : Nat} {t : TypeId} {g : Nat → Value} (h : w.rowIs R t N g) (c0 c1 c2 c3 c4 c5 : Value) :
    ((((((w.setCell ⟨R, k * 6, none⟩ c0).setCell ⟨R, k * 6 + 1, none⟩ c1).setCell ⟨R, k * 6 + 2, none⟩ c2).setCell ⟨R, k * 6 + 3, none⟩ c3).setCell ⟨R, k * 6 + 4, none⟩ c4).setCell ⟨R, k * 6 + 5, none⟩ c5).rowIs R t N
      (fun x => if x = k * 6 + 5 then c5 else if x = k * 6 + 4 then c4 else if x = k * 6 + 3 then c3 else if x = k * 6 + 2 then c2 else if x = k * 6 + 1 then c1 else if x = k * 6 then c0 else g x) :=
  (((((h.set _ c0).set _ c1).set _ c2).set _ c3).set _ c4).set _ c5

/-- the inner rounds of buildTerms -/
theorem build_inner {k2 : Nat} {g2 U : Nat → Value} (hold : ∀ j, j < k2 → ∀ c, c < 6 → g2 (j * 6 + c) = cells6 0 (U j) (.slice none 0 0) c) :
    ∀ j, j < k2 + 1 → ∀ c, c < 6 → (if j * 6 + c = k2 * 6 + 5 then Value.slice none 0 0 else if j * 6 + c = k2 * 6 + 4 then .string ⟨#[]⟩ else if j * 6 + c = k2 * 6 + 3 then .string ⟨#[]⟩ else if j * 6 + c = k2 * 6 + 2 then .string ⟨#[]⟩ else if j * 6 + c = k2 * 6 + 1 then U k2 else if j * 6 + c = k2 * 6 then .int .i64 0 else g2 (j * 6 + c)) = cells6 0 (U j) (.slice none 0 0) c := by
  intro j hj c hc
  by_cases e : j = k2
  · subst e
    have : c = 0 ∨ c = 1 ∨ c = 2 ∨ c = 3 ∨ c = 4 ∨ c = 5 := by omega
    rcases this with rfl | rfl | rfl | rfl | rfl | rfl <;> simp [cells6]
  · rw [if_neg (by omega), if_neg (by omega), if_neg (by omega), if_neg (by omega), if_neg (by omega), if_neg (by omega)]
    exact hold j (by omega) c hc

/-- the outer rounds of buildTerms -/
theorem build_outer {wr w2 : World} {R n k : Nat} {g : Nat → Value} {v : Value} {m : Nat → Nat} {U : Nat → Nat → Value} (hrow : wr.rowIs R 33 n g) (hold : ∀ i, i < k → E1 (R + 1) wr (g i) (m i) (U i))
    (hv : E1 (R + 1) w2 v (m k) (U k)) (hb : Below wr.heap.size wr w2) :
    (w2.setCell ⟨R, k, none⟩ v).rowIs R 33 n (fun j => if j = k then v else g j) ∧ ∀ j, j < k + 1 → E1 (R + 1) (w2.setCell ⟨R, k, none⟩ v) (if j = k then v else g j) (m j) (U j) := by
  have hR := hrow.lt
  have hrow3 : w2.rowIs R 33 n g := hrow.of_block (hb.block _ hR)
  refine ⟨hrow3.set k v, fun j hj => ?_⟩
  have keep : ∀ b, R + 1 ≤ b → b < w2.heap.size → (w2.setCell ⟨R, k, none⟩ v).heap[b]? = w2.heap[b]? := fun b h1 _ => Below.heap_setCell _ _ _ _ (by simp only []; omega)
  by_cases e : j = k
  · rw [if_pos e, e]
    exact hv.kept keep
  · rw [if_neg e]
    exact ((hold j (by omega)).kept (fun b _ h2 => hb.block b h2)).kept keep
end Go.Proofs.Qxb6604686a
