import Derived.Test.Qxb6604686aExpr
namespace Go.Proofs.Qxb6604686a
open Go.RowKit

/-- what buildTerms hands back -/
def Built (w : World) (n : Nat) (m : Nat → Nat) (U : Nat → Nat → Value) (e : Ending) (w' : World) : Prop := ∃ a cap, e = .returned (.slice a n cap) ∧ E2 w.heap.size w' (.slice a n cap) n m U

set_option maxHeartbeats 400000 in
theorem build_empty (a : Option Addr) (cap : Nat) (m : Nat → Nat) (U : Nat → Nat → Value) (w : World) : Calls Try.prog 13 #[.slice a 0 cap] w fun e w' => Built w 0 m U e w' ∧ Below w.heap.size w w' := by
  have hmk : ∀ w : World, (Instr.makeSlice 27 (.int .i64 0) (.int .i64 0)).run Try.prog w = .ok (.slice (some ⟨w.heap.size, 0, none⟩) 0 0) (w.alloc (.cells (madeCells #[.slice none 0 0] 0) 33)) := run_make_row' (P := Try.prog) 27 33 (.slice none 0 0) 24 Try.underlying27 info33 rfl .i64 .i64 0 (by omega) (by omega)
  go_enter Try.func13, Try.ntmps13
  go_wp2
  refine wp_loop_rounds 1 ?_
  rw [rounds_succ]
  go_wp2
  go_ret
  exact ⟨⟨_, _, rfl, ⟨_, _, rfl, Nat.zero_le _, fun i hi => absurd hi (by omega)⟩⟩, (Below.refl _ _).alloc (Nat.le_refl _) _⟩

set_option maxRecDepth 100000 in
set_option maxHeartbeats 1000000 in
theorem build_main (b off n cap : Nat) (m : Nat → Nat) (l : Nat → Nat → Nat) (w : World) (hf : ∀ i, i < n → m i ≤ 4096) (hn : n ≤ 4096) (hb : b < w.heap.size)
    (U : Nat → Nat → Value) (hU : ∀ i j, i < n → j < m i → ∃ a cap, U i j = .slice a (l i j) cap)
    (hc : ∀ i, i < n → ∃ a2 cap2, w.cell? ⟨b, off + i, none⟩ = some (.slice a2 (m i) cap2) ∧ ∀ j, j < m i → At 0 w a2 j (U i j)) :
    Calls Try.prog 13 #[.slice (some ⟨b, off, none⟩) n cap] w fun e w' => Built w n m U e w' ∧ Below w.heap.size w w' := by
  have hmk := run_make_row' (P := Try.prog) 27 33 (.slice none 0 0) 24 Try.underlying27 info33 rfl .i64 .i64 n (by omega) (by omega)
  have HC := hide hc
  have HF := hide hf
  have HU := hide hU
  clear hc hf hU
  go_enter Try.func13, Try.ntmps13
  go_wp2
  clear hmk
  go_loopw [14] (fun i wr => ∃ (k : Nat) (g : Nat → Value), k ≤ n ∧ i = .int .i64 k ∧ wr.rowIs w.heap.size 33 n g ∧ Hid (∀ i, i < k → E1 (w.heap.size + 1) wr (g i) (m i) (U i)) ∧ Hid (∀ i, k ≤ i → g i = .slice none 0 0) ∧ Below w.heap.size w wr) (fun i _ => n - (intOf i).toNat)
  case atStart => exact ⟨0, _, by omega, rfl, World.rowIs_made w _ n 33, hide (fun i hi => absurd hi (by omega)), hide (fun _ _ => rfl), (Below.refl _ _).alloc (Nat.le_refl _) _⟩
  case round =>
    obtain ⟨k, g, hk, rfl, ht, HG, HN, hbel⟩ := hrel
    have hsz := hbel.size
    have hltN := ht.lt
    by_cases hlt : k < n
    · obtain ⟨a2, cap2, hcu, H2⟩ := HC.out k hlt
      have hm := (HF.out k hlt)
      have h1 := (hbel.cell (p := ⟨b, off + k, none⟩) hb).trans hcu
      clear hcu
      cases a2 with
      | none =>
        have hm0 : m k = 0 := by
          by_cases e : m k = 0
          · exact e
          · obtain ⟨_, _, e, _⟩ := H2 0 (by omega)
            cases e
        rw [hm0] at h1
        have hnil := fun w => Lib.run_eql_slice_nil (P := Try.prog) w 37 30 none 0 cap2 0 0 Try.underlying37
        go_wp2
        go_roundw
        case rel =>
          refine ⟨k + 1, g, by omega, by go_num, ht, hide (fun i hi => ?_), hide (fun i hi => HN.out i (by omega)), hbel⟩
          by_cases e : i = k
          · rw [e, HN.out k (Nat.le_refl _), hm0]; exact E1.empty _ _ _ _ _
          · exact HG.out i (by omega)
        case measure => simp [intOf]; omega
      | some x =>
        have hnil := fun w => Lib.run_eql_slice_nil (P := Try.prog) w 37 30 (some x) (m k) cap2 0 0 Try.underlying37
        obtain ⟨i0, hi0, hz0, hz1, hz2⟩ := info_parts info35
        have hmk : ∀ w : World, (Instr.makeSlice 33 (.int .i64 (m k)) (.int .i64 (m k))).run Try.prog w = .ok (.slice (some ⟨w.heap.size, 0, none⟩) (m k) (m k)) (w.alloc (.cells (madeCells #[.int .i64 0, .slice none 0 0, .string ⟨#[]⟩, .string ⟨#[]⟩, .string ⟨#[]⟩, .slice none 0 0] (m k * 6)) 35)) := by
          intro w
          have h := run_make (P := Try.prog) w 33 35 i0 _ Try.underlying33 hi0 hz0 .i64 .i64 (m k) (m k) (by omega) (by omega) (by rw [hz2]; omega) (by omega)
          rw [hz1] at h
          simpa [Value.cells] using h
        have HH2 := hide H2
        clear H2 hi0 hz0 hz1 hz2
        go_wp2
        clear hnil hmk
        obtain ⟨wo, hwo⟩ : ∃ wo : World, wo = wr := ⟨_, rfl⟩
        subst hwo
        have hmade := rowIs_new wo (madeCells #[.int .i64 0, .slice none 0 0, .string ⟨#[]⟩, .string ⟨#[]⟩, .string ⟨#[]⟩, .slice none 0 0] (m k * 6)) 35 (m k * 6) (size_madeCells _ _)
        have hbm : Below wo.heap.size wo (wo.alloc (.cells (madeCells #[.int .i64 0, .slice none 0 0, .string ⟨#[]⟩, .string ⟨#[]⟩, .string ⟨#[]⟩, .slice none 0 0] (m k * 6)) 35)) := (Below.refl _ _).alloc (Nat.le_refl _) _
        generalize wo.alloc (.cells (madeCells #[.int .i64 0, .slice none 0 0, .string ⟨#[]⟩, .string ⟨#[]⟩, .string ⟨#[]⟩, .slice none 0 0] (m k * 6)) 35) = wm at *
        go_loopw [26] (fun i wr => ∃ (k2 : Nat) (g2 : Nat → Value), k2 ≤ m k ∧ i = .int .i64 k2 ∧ wr.rowIs wo.heap.size 35 (m k * 6) g2 ∧ Hid (∀ j, j < k2 → ∀ c, c < 6 → g2 (j * 6 + c) = cells6 0 (U k j) (.slice none 0 0) c) ∧ Below wo.heap.size wo wr) (fun i _ => m k - (intOf i).toNat)
        case atStart => exact ⟨0, _, by omega, rfl, hmade, hide (fun i hi => absurd hi (by omega)), hbm⟩
        case round =>
          obtain ⟨k2, g2, hk2, rfl, ht2, HG2, hbel2⟩ := hrel
          have hsz2 := hbel2.size
          have hlt2N := ht2.lt
          by_cases hlt2 : k2 < m k
          · obtain ⟨b2, off2, hx, _, hc2⟩ := HH2.out k2 hlt2
            obtain rfl := Option.some.inj hx
            clear hx
            obtain ⟨a3, cap3, hu⟩ := HU.out k k2 hlt hlt2
            have HUK := hide hu
            rw [hu] at hc2
            have e2 := (hbel2.cell (p := ⟨b2, off2 + k2, none⟩) (by have := block_lt_of_cell hc2; simp only [] at this ⊢; omega)).trans ((hbel.cell (block_lt_of_cell hc2)).trans hc2)
            have hlk2 : (k2 : Int) < m k := by omega
            clear hu hc2
            have q0 : wr.cell? ⟨wo.heap.size, k2 * 6, none⟩ = some (g2 (k2 * 6)) := ht2.cell (by omega)
            have q1 : wr.cell? ⟨wo.heap.size, k2 * 6 + 1, none⟩ = some (g2 (k2 * 6 + 1)) := ht2.cell (by omega)
            have q2 : wr.cell? ⟨wo.heap.size, k2 * 6 + 2, none⟩ = some (g2 (k2 * 6 + 2)) := ht2.cell (by omega)
            have q3 : wr.cell? ⟨wo.heap.size, k2 * 6 + 3, none⟩ = some (g2 (k2 * 6 + 3)) := ht2.cell (by omega)
            have q4 : wr.cell? ⟨wo.heap.size, k2 * 6 + 4, none⟩ = some (g2 (k2 * 6 + 4)) := ht2.cell (by omega)
            have q5 : wr.cell? ⟨wo.heap.size, k2 * 6 + 5, none⟩ = some (g2 (k2 * 6 + 5)) := ht2.cell (by omega)
            have fz := ht2.frozen
            have R1 := row6 (k := k2) ht2 (.int .i64 0) (.slice a3 (l k k2) cap3) (.string ⟨#[]⟩) (.string ⟨#[]⟩) (.string ⟨#[]⟩) (.slice none 0 0)
            have Rb := (((((hbel2.setCell (p := ⟨wo.heap.size, k2 * 6, none⟩) (Nat.le_refl _) (.int .i64 0)).setCell (p := ⟨wo.heap.size, k2 * 6 + 1, none⟩) (Nat.le_refl _) (.slice a3 (l k k2) cap3)).setCell (p := ⟨wo.heap.size, k2 * 6 + 2, none⟩) (Nat.le_refl _) (.string ⟨#[]⟩)).setCell (p := ⟨wo.heap.size, k2 * 6 + 3, none⟩) (Nat.le_refl _) (.string ⟨#[]⟩)).setCell (p := ⟨wo.heap.size, k2 * 6 + 4, none⟩) (Nat.le_refl _) (.string ⟨#[]⟩)).setCell (p := ⟨wo.heap.size, k2 * 6 + 5, none⟩) (Nat.le_refl _) (.slice none 0 0)
            clear ht2 hbel2
            go_wp2
            go_roundw
            case rel =>
              refine ⟨k2 + 1, _, by omega, by go_num, R1, hide ?_, Rb⟩
              rw [← HUK.out]
              exact build_inner HG2.out
            case measure => simp [intOf]; omega
          · have hkm : k2 = m k := by omega
            rw [hkm] at HG2
            have hv : E1 (w.heap.size + 1) wr (.slice (some ⟨wo.heap.size, 0, none⟩) (m k) (m k)) (m k) (U k) := E1.of_row ht2 hm (by omega) HG2.out
            have f1 := (hbel2.cell (p := ⟨w.heap.size, k, none⟩) hltN).trans (ht.cell hlt)
            have f2 := (hbel2.frozen (p := ⟨w.heap.size, k, none⟩) hltN).trans (ht.frozen k)
            have R := build_outer ht HG.out hv hbel2
            have Rb := (hbel.trans (hbel2.mono (by omega))).setCell (p := ⟨w.heap.size, k, none⟩) (Nat.le_refl _) (.slice (some ⟨wo.heap.size, 0, none⟩) (m k) (m k))
            have R1 := R.1
            have R2 := hide R.2
            have HK := hide hkm
            have hge : ¬ (k2 : Int) < m k := by omega
            clear R hv hkm hbel2 ht ht2
            go_wp2
            go_roundw
            case rel => exact ⟨k + 1, _, by omega, by go_num, R1, R2, hide (fun i hi => by rw [if_neg (by omega)]; exact HN.out i (by omega)), Rb⟩
            case measure => simp [intOf]; omega
    · obtain rfl : k = n := by omega
      go_wp2
      go_ret
      exact ⟨⟨_, _, rfl, E2.of_row ht hn (Nat.le_refl _) (fun i hi => (HG.out i hi).weak (by omega))⟩, hbel⟩
end Go.Proofs.Qxb6604686a
