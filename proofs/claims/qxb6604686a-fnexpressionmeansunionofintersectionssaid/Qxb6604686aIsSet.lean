import Derived.Test.Qxb6604686aGroup
import Derived.Deep.Slices
namespace Go.Proofs.Qxb6604686a
open Go.RowKit

/-- the []string values of a [][][]string, named -/
theorem pickU {B : Nat} {w : World} {v : Value} {n : Nat} {m : Nat → Nat} {l : Nat → Nat → Nat} {s : Nat → Nat → Nat → ByteArray} (h : S3 B w v n m l s) :
    ∃ a cap, ∃ U : Nat → Nat → Value, v = .slice a n cap ∧ n ≤ maxLen ∧ (∀ i, i < n → ∃ a2 cap2, At B w a i (.slice a2 (m i) cap2) ∧ m i ≤ maxLen ∧ ∀ j, j < m i → At B w a2 j (U i j)) ∧ ∀ i j, i < n → j < m i → S1 B w (U i j) (l i j) (s i j) := by
  obtain ⟨a, cap, e, hn, hc⟩ := h
  have step : ∀ i, i < n → ∃ f : Nat → Value, (∃ a2 cap2, At B w a i (.slice a2 (m i) cap2) ∧ m i ≤ maxLen ∧ ∀ j, j < m i → At B w a2 j (f j)) ∧ ∀ j, j < m i → S1 B w (f j) (l i j) (s i j) := by
    intro i hi
    obtain ⟨u, hu, a2, cap2, rfl, hm, h2⟩ := hc i hi
    obtain ⟨f, hf⟩ := Deep.choose_lt (α := Value) (p := fun j x => At B w a2 j x ∧ S1 B w x (l i j) (s i j)) h2
    exact ⟨f, ⟨a2, cap2, hu, hm, fun j hj => (hf j hj).1⟩, fun j hj => (hf j hj).2⟩
  obtain ⟨U, hU⟩ := Deep.choose_lt (α := Nat → Value) (p := fun i f => (∃ a2 cap2, At B w a i (.slice a2 (m i) cap2) ∧ m i ≤ maxLen ∧ ∀ j, j < m i → At B w a2 j (f j)) ∧ ∀ j, j < m i → S1 B w (f j) (l i j) (s i j)) step
  exact ⟨a, cap, U, e, hn, fun i hi => (hU i hi).1, fun i j hi hj => (hU i hi).2 j hj⟩

theorem pickR {B : Nat} {w : World} {v : Value} {n : Nat} {m : Nat → Nat} {U : Nat → Nat → Value} (h : E2 B w v n m U) :
    ∃ a cap, ∃ R : Nat → Value, v = .slice a n cap ∧ ∀ i, i < n → At B w a i (R i) ∧ E1 B w (R i) (m i) (U i) := by
  obtain ⟨a, cap, e, hn, hc⟩ := h
  obtain ⟨R, hR⟩ := Deep.choose_lt (α := Value) (p := fun i x => At B w a i x ∧ E1 B w x (m i) (U i)) hc
  exact ⟨a, cap, R, e, hR⟩

theorem build_any (a : Option Addr) (n cap : Nat) (m : Nat → Nat) (l : Nat → Nat → Nat) (w : World) (hf : ∀ i, i < n → m i ≤ 4096) (hn : n ≤ 4096)
    (U : Nat → Nat → Value) (hU : ∀ i j, i < n → j < m i → ∃ a cap, U i j = .slice a (l i j) cap)
    (hc : ∀ i, i < n → ∃ a2 cap2, At 0 w a i (.slice a2 (m i) cap2) ∧ ∀ j, j < m i → At 0 w a2 j (U i j)) :
    Calls Try.prog 13 #[.slice a n cap] w fun e w' => Built w n m U e w' ∧ Below w.heap.size w w' := by
  by_cases h0 : n = 0
  · subst h0
    exact build_empty a cap m U w
  · obtain ⟨_, _, ⟨b, off, rfl, _, hc0⟩, _⟩ := hc 0 (by omega)
    refine build_main b off n cap m l w hf hn (block_lt_of_cell hc0) U hU fun i hi => ?_
    obtain ⟨a2, cap2, ⟨b', off', e, _, hci⟩, hs⟩ := hc i hi
    simp only [Option.some.injEq, Addr.mk.injEq, and_true] at e
    obtain ⟨rfl, rfl⟩ := e
    exact ⟨a2, cap2, hci, hs⟩

set_option maxRecDepth 100000 in
set_option maxHeartbeats 1000000 in
theorem isset_any (a : Option Addr) (n cap : Nat) (s : Nat → ByteArray) (w : World) (hn : n ≤ 4096) (h : S1 0 w (.slice a n cap) n s) :
    Calls Try.prog 18 #[.agg #[.int .i64 0, .slice a n cap, .string ⟨#[]⟩, .string ⟨#[]⟩, .string ⟨#[]⟩, .slice none 0 0], .slice a n cap] w fun e w' => e = .returned (.bool true) ∧ Below w.heap.size w w' := by
  obtain ⟨a', cap', e, _, hc⟩ := h
  simp only [Value.slice.injEq, true_and] at e
  obtain ⟨rfl, rfl⟩ := e
  have HC := hide hc
  clear hc
  have q1 : ((n : Int) != (n : Int)) = false := by simp
  go_enter Try.func18, Try.ntmps18
  go_wp2
  have hrow := rowIs_new w #[.int .i64 0, .slice a n cap, .string ⟨#[]⟩, .string ⟨#[]⟩, .string ⟨#[]⟩, .slice none 0 0] 35 6 rfl
  have hb0 : Below w.heap.size w (w.alloc (.cells #[.int .i64 0, .slice a n cap, .string ⟨#[]⟩, .string ⟨#[]⟩, .string ⟨#[]⟩, .slice none 0 0] 35)) := (Below.refl _ _).alloc (Nat.le_refl _) _
  have hs0 : (w.alloc (.cells #[.int .i64 0, .slice a n cap, .string ⟨#[]⟩, .string ⟨#[]⟩, .string ⟨#[]⟩, .slice none 0 0] 35)).heap.size = w.heap.size + 1 := by simp
  generalize w.alloc (.cells #[.int .i64 0, .slice a n cap, .string ⟨#[]⟩, .string ⟨#[]⟩, .string ⟨#[]⟩, .slice none 0 0] 35) = wb at *
  go_loopw [42] (fun i wr => ∃ k : Nat, k ≤ n ∧ i = .int .i64 k ∧ Below wb.heap.size wb wr) (fun i _ => n - (intOf i).toNat)
  case atStart => exact ⟨0, by omega, rfl, Below.refl _ _⟩
  case round =>
    obtain ⟨k, hk, rfl, hbel⟩ := hrel
    by_cases hlt : k < n
    · obtain ⟨b, off, rfl, _, hc⟩ := HC.out k hlt
      have hb := block_lt_of_cell hc
      have e1 : wr.cell? ⟨w.heap.size, 1, none⟩ = some (.slice (some ⟨b, off, none⟩) n cap) := (hbel.cell (by simp only []; omega)).trans (hrow.cell (by omega))
      have e2 : wr.cell? ⟨b, off + k, none⟩ = some (.string (s k)) := (hbel.cell (by simp only [] at hb ⊢; omega)).trans ((hb0.cell hb).trans hc)
      have hki : (k : Int) < n := by omega
      have ne : ((s k).toList == (s k).toList) = true := by simp
      clear hrow hc
      generalize s k = x at *
      go_wp2
      go_region
      go_wp2
      go_roundw
      case rel => exact ⟨k + 1, by omega, by go_num, hbel.drew⟩
      case measure => simp [intOf]; omega
    · obtain rfl : k = n := by omega
      go_wp2
      go_ret
      exact ⟨rfl, hb0.trans (hbel.mono (by omega))⟩
end Go.Proofs.Qxb6604686a
