import Derived.Test.Qxb6604686aRole
import Derived.Test.Qxb6604686aOnly
namespace Go.Proofs.Qxb6604686a
open Go.RowKit

/-- element i of the array at a, of one cell, holds u; the array lies in a block from B on -/
def At (B : Nat) (w : World) (a : Option Addr) (i : Nat) (u : Value) : Prop := ∃ b off, a = some ⟨b, off, none⟩ ∧ B ≤ b ∧ w.cell? ⟨b, off + i, none⟩ = some u
/-- v is a []string of n strings, the i-th 's i' -/
def S1 (B : Nat) (w : World) (v : Value) (n : Nat) (s : Nat → ByteArray) : Prop := ∃ a cap, v = .slice a n cap ∧ n ≤ maxLen ∧ ∀ i, i < n → At B w a i (.string (s i))
/-- v is a [][]string -/
def S2 (B : Nat) (w : World) (v : Value) (n : Nat) (l : Nat → Nat) (s : Nat → Nat → ByteArray) : Prop := ∃ a cap, v = .slice a n cap ∧ n ≤ maxLen ∧ ∀ i, i < n → ∃ u, At B w a i u ∧ S1 B w u (l i) (s i)
/-- v is a [][][]string -/
def S3 (B : Nat) (w : World) (v : Value) (n : Nat) (m : Nat → Nat) (l : Nat → Nat → Nat) (s : Nat → Nat → Nat → ByteArray) : Prop := ∃ a cap, v = .slice a n cap ∧ n ≤ maxLen ∧ ∀ i, i < n → ∃ u, At B w a i u ∧ S2 B w u (m i) (l i) (s i)

theorem At.kept {B : Nat} {w w' : World} {a : Option Addr} {i : Nat} {u : Value} (h : At B w a i u) (k : ∀ b, B ≤ b → b < w.heap.size → w'.heap[b]? = w.heap[b]?) : At B w' a i u := by
  obtain ⟨b, off, e, hb, hc⟩ := h
  exact ⟨b, off, e, hb, (World.cell?_of_block (w := w) (a := ⟨b, off + i, none⟩) (k b hb (block_lt_of_cell hc))).trans hc⟩
theorem At.weak {B B' : Nat} {w : World} {a : Option Addr} {i : Nat} {u : Value} (h : At B w a i u) (hb : B' ≤ B) : At B' w a i u := by
  obtain ⟨b, off, e, hB, hc⟩ := h
  exact ⟨b, off, e, Nat.le_trans hb hB, hc⟩
theorem S1.kept {B : Nat} {w w' : World} {v : Value} {n : Nat} {s : Nat → ByteArray} (h : S1 B w v n s) (k : ∀ b, B ≤ b → b < w.heap.size → w'.heap[b]? = w.heap[b]?) : S1 B w' v n s := by
  obtain ⟨a, cap, e, hn, hc⟩ := h
  exact ⟨a, cap, e, hn, fun i hi => (hc i hi).kept k⟩
theorem S1.weak {B B' : Nat} {w : World} {v : Value} {n : Nat} {s : Nat → ByteArray} (h : S1 B w v n s) (hb : B' ≤ B) : S1 B' w v n s := by
  obtain ⟨a, cap, e, hn, hc⟩ := h
  exact ⟨a, cap, e, hn, fun i hi => (hc i hi).weak hb⟩
theorem S2.kept {B : Nat} {w w' : World} {v : Value} {n : Nat} {l : Nat → Nat} {s : Nat → Nat → ByteArray} (h : S2 B w v n l s) (k : ∀ b, B ≤ b → b < w.heap.size → w'.heap[b]? = w.heap[b]?) : S2 B w' v n l s := by
  obtain ⟨a, cap, e, hn, hc⟩ := h
  refine ⟨a, cap, e, hn, fun i hi => ?_⟩
  obtain ⟨u, hu, hs⟩ := hc i hi
  exact ⟨u, hu.kept k, hs.kept k⟩
theorem S2.weak {B B' : Nat} {w : World} {v : Value} {n : Nat} {l : Nat → Nat} {s : Nat → Nat → ByteArray} (h : S2 B w v n l s) (hb : B' ≤ B) : S2 B' w v n l s := by
  obtain ⟨a, cap, e, hn, hc⟩ := h
  refine ⟨a, cap, e, hn, fun i hi => ?_⟩
  obtain ⟨u, hu, hs⟩ := hc i hi
  exact ⟨u, hu.weak hb, hs.weak hb⟩
theorem S3.kept {B : Nat} {w w' : World} {v : Value} {n : Nat} {m : Nat → Nat} {l : Nat → Nat → Nat} {s : Nat → Nat → Nat → ByteArray} (h : S3 B w v n m l s) (k : ∀ b, B ≤ b → b < w.heap.size → w'.heap[b]? = w.heap[b]?) : S3 B w' v n m l s := by
  obtain ⟨a, cap, e, hn, hc⟩ := h
  refine ⟨a, cap, e, hn, fun i hi => ?_⟩
  obtain ⟨u, hu, hs⟩ := hc i hi
  exact ⟨u, hu.kept k, hs.kept k⟩
theorem S3.weak {B B' : Nat} {w : World} {v : Value} {n : Nat} {m : Nat → Nat} {l : Nat → Nat → Nat} {s : Nat → Nat → Nat → ByteArray} (h : S3 B w v n m l s) (hb : B' ≤ B) : S3 B' w v n m l s := by
  obtain ⟨a, cap, e, hn, hc⟩ := h
  refine ⟨a, cap, e, hn, fun i hi => ?_⟩
  obtain ⟨u, hu, hs⟩ := hc i hi
  exact ⟨u, hu.weak hb, hs.weak hb⟩
end Go.Proofs.Qxb6604686a
