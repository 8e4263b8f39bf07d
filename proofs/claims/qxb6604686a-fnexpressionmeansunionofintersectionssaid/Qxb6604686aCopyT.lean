import Derived.Test.Qxb6604686aCopy
namespace Go.Proofs.Qxb6604686a
open Go.RowKit

theorem S2.empty (B : Nat) (w : World) (a : Option Addr) (cap : Nat) (l : Nat → Nat) (s : Nat → Nat → ByteArray) : S2 B w (.slice a 0 cap) 0 l s :=
  ⟨_, _, rfl, Nat.zero_le _, fun i hi => absurd hi (by omega)⟩
theorem S2.of_row {w : World} {b n B : Nat} {g : Nat → Value} {l : Nat → Nat} {s : Nat → Nat → ByteArray} (h : w.rowIs b 30 n g) (hn : n ≤ 4096) (hB : B ≤ b) (hg : ∀ i, i < n → S1 B w (g i) (l i) (s i)) : S2 B w (.slice (some ⟨b, 0, none⟩) n n) n l s :=
  ⟨_, _, rfl, by unfold maxLen; omega, fun i hi => ⟨g i, ⟨b, 0, rfl, hB, by rw [Nat.zero_add]; exact h.cell hi⟩, hg i hi⟩⟩
theorem S3.of_row {w : World} {b n B : Nat} {g : Nat → Value} {m : Nat → Nat} {l : Nat → Nat → Nat} {s : Nat → Nat → Nat → ByteArray} (h : w.rowIs b 37 n g) (hn : n ≤ 4096) (hB : B ≤ b) (hg : ∀ i, i < n → S2 B w (g i) (m i) (l i) (s i)) : S3 B w (.slice (some ⟨b, 0, none⟩) n n) n m l s :=
  ⟨_, _, rfl, by unfold maxLen; omega, fun i hi => ⟨g i, ⟨b, 0, rfl, hB, by rw [Nat.zero_add]; exact h.cell hi⟩, hg i hi⟩⟩

/-- one copy of a [][][]string -/
def Copied3 (w : World) (n : Nat) (m : Nat → Nat) (l : Nat → Nat → Nat) (s : Nat → Nat → Nat → ByteArray) (e : Ending) (w' : World) : Prop := ∃ a cap, e = .returned (.slice a n cap) ∧ S3 w.heap.size w' (.slice a n cap) n m l s

/-- the inner rounds, outside the walk: what is copied stays copied behind the store of the next -/
theorem inner_step {wr w3 : World} {R m2 k2 : Nat} {g2 : Nat → Value} {v : Value} {l2 : Nat → Nat} {s2 : Nat → Nat → ByteArray} (hrow : wr.rowIs R 30 m2 g2) (hold : ∀ j, j < k2 → S1 (R + 1) wr (g2 j) (l2 j) (s2 j))
    (hv : S1 wr.heap.size w3 v (l2 k2) (s2 k2)) (hb : Below wr.heap.size wr w3) :
    (w3.setCell ⟨R, k2, none⟩ v).rowIs R 30 m2 (fun j => if j = k2 then v else g2 j) ∧ ∀ j, j < k2 + 1 → S1 (R + 1) (w3.setCell ⟨R, k2, none⟩ v) (if j = k2 then v else g2 j) (l2 j) (s2 j) := by
  have hR := hrow.lt
  have hrow3 : w3.rowIs R 30 m2 g2 := hrow.of_block (hb.block _ hR)
  refine ⟨hrow3.set k2 v, fun j hj => ?_⟩
  have keep : ∀ b, R + 1 ≤ b → b < w3.heap.size → (w3.setCell ⟨R, k2, none⟩ v).heap[b]? = w3.heap[b]? := fun b h1 _ => Below.heap_setCell _ _ _ _ (by simp only []; omega)
  by_cases e : j = k2
  · rw [if_pos e, e]
    exact (hv.weak (by omega)).kept keep
  · rw [if_neg e]
    exact ((hold j (by omega)).kept (fun b _ h2 => hb.block b h2)).kept keep

/-- the outer rounds, likewise -/
theorem outer_step {wr w2 : World} {R n k : Nat} {g : Nat → Value} {v : Value} {m : Nat → Nat} {l : Nat → Nat → Nat} {s : Nat → Nat → Nat → ByteArray} (hrow : wr.rowIs R 37 n g) (hold : ∀ i, i < k → S2 (R + 1) wr (g i) (m i) (l i) (s i))
    (hv : S2 (R + 1) w2 v (m k) (l k) (s k)) (hb : Below wr.heap.size wr w2) :
    (w2.setCell ⟨R, k, none⟩ v).rowIs R 37 n (fun j => if j = k then v else g j) ∧ ∀ j, j < k + 1 → S2 (R + 1) (w2.setCell ⟨R, k, none⟩ v) (if j = k then v else g j) (m j) (l j) (s j) := by
  have hR := hrow.lt
  have hrow3 : w2.rowIs R 37 n g := hrow.of_block (hb.block _ hR)
  refine ⟨hrow3.set k v, fun j hj => ?_⟩
  have keep : ∀ b, R + 1 ≤ b → b < w2.heap.size → (w2.setCell ⟨R, k, none⟩ v).heap[b]? = w2.heap[b]? := fun b h1 _ => Below.heap_setCell _ _ _ _ (by simp only []; omega)
  by_cases e : j = k
  · rw [if_pos e, e]
    exact hv.kept keep
  · rw [if_neg e]
    exact ((hold j (by omega)).kept (fun b _ h2 => hb.block b h2)).kept keep

set_option maxHeartbeats 400000 in
theorem copyt_nil (cap : Nat) (m : Nat → Nat) (l : Nat → Nat → Nat) (s : Nat → Nat → Nat → ByteArray) (w : World) : Calls Try.prog 11 #[.slice none 0 cap] w fun e w' => Copied3 w 0 m l s e w' ∧ Below w.heap.size w w' := by
  have hnil := fun w => Lib.run_eql_slice_nil (P := Try.prog) w 22 37 none 0 cap 0 0 Try.underlying22
  go_enter Try.func11, Try.ntmps11
  go_wp2
  go_ret
  exact ⟨⟨none, 0, rfl, ⟨_, _, rfl, Nat.zero_le _, fun i hi => absurd hi (by omega)⟩⟩, Below.refl _ _⟩

set_option maxHeartbeats 400000 in
theorem copyt_empty (x : Addr) (cap : Nat) (m : Nat → Nat) (l : Nat → Nat → Nat) (s : Nat → Nat → Nat → ByteArray) (w : World) : Calls Try.prog 11 #[.slice (some x) 0 cap] w fun e w' => Copied3 w 0 m l s e w' ∧ Below w.heap.size w w' := by
  have hmk : ∀ w : World, (Instr.makeSlice 22 (.int .i64 0) (.int .i64 0)).run Try.prog w = .ok (.slice (some ⟨w.heap.size, 0, none⟩) 0 0) (w.alloc (.cells (madeCells #[.slice none 0 0] 0) 37)) := run_make_row' (P := Try.prog) 22 37 (.slice none 0 0) 24 Try.underlying22 info37 rfl .i64 .i64 0 (by omega) (by omega)
  have hnil := fun w => Lib.run_eql_slice_nil (P := Try.prog) w 22 37 (some x) 0 cap 0 0 Try.underlying22
  go_enter Try.func11, Try.ntmps11
  go_wp2
  refine wp_loop_rounds 1 ?_
  rw [rounds_succ]
  go_wp2
  go_ret
  exact ⟨⟨_, _, rfl, ⟨_, _, rfl, Nat.zero_le _, fun i hi => absurd hi (by omega)⟩⟩, (Below.refl _ _).alloc (Nat.le_refl _) _⟩

set_option maxRecDepth 100000 in
set_option maxHeartbeats 1000000 in
theorem copyt_main (b off n cap : Nat) (m : Nat → Nat) (l : Nat → Nat → Nat) (s : Nat → Nat → Nat → ByteArray) (w : World) (hf : ∀ i, i < n → m i ≤ 4096 ∧ ∀ j, j < m i → l i j ≤ 4096) (hn : n ≤ 4096) (hb : b < w.heap.size)
    (hc : ∀ i, i < n → ∃ u, w.cell? ⟨b, off + i, none⟩ = some u ∧ S2 0 w u (m i) (l i) (s i)) :
    Calls Try.prog 11 #[.slice (some ⟨b, off, none⟩) n cap] w fun e w' => Copied3 w n m l s e w' ∧ Below w.heap.size w w' := by
  have hmk := run_make_row' (P := Try.prog) 22 37 (.slice none 0 0) 24 Try.underlying22 info37 rfl .i64 .i64 n (by omega) (by omega)
  have hnil := fun w => Lib.run_eql_slice_nil (P := Try.prog) w 22 37 (some ⟨b, off, none⟩) n cap 0 0 Try.underlying22
  have HC := hide hc
  have HF := hide hf
  clear hc hf
  go_enter Try.func11, Try.ntmps11
  go_wp2
  clear hmk hnil
  go_loopw [4] (fun i wr => ∃ (k : Nat) (g : Nat → Value), k ≤ n ∧ i = .int .i64 k ∧ wr.rowIs w.heap.size 37 n g ∧ Hid (∀ i, i < k → S2 (w.heap.size + 1) wr (g i) (m i) (l i) (s i)) ∧ Hid (∀ i, k ≤ i → g i = .slice none 0 0) ∧ Below w.heap.size w wr) (fun i _ => n - (intOf i).toNat)
  case atStart => exact ⟨0, _, by omega, rfl, World.rowIs_made w _ n 37, hide (fun i hi => absurd hi (by omega)), hide (fun _ _ => rfl), (Below.refl _ _).alloc (Nat.le_refl _) _⟩
  case round =>
    obtain ⟨k, g, hk, rfl, ht, HG, HN, hbel⟩ := hrel
    have hsz := hbel.size
    have hltN := ht.lt
    by_cases hlt : k < n
    · obtain ⟨u, hcu, a2, cap2, rfl, hn2, H2⟩ := HC.out k hlt
      have hm := (HF.out k hlt).1
      have h1 := (hbel.cell (p := ⟨b, off + k, none⟩) hb).trans hcu
      clear hcu
      cases a2 with
      | none =>
        have hm0 : m k = 0 := by
          by_cases e : m k = 0
          · exact e
          · obtain ⟨_, ⟨_, _, e, _⟩, _⟩ := H2 0 (by omega)
            cases e
        rw [hm0] at h1
        have hnil := fun w => Lib.run_eql_slice_nil (P := Try.prog) w 37 30 none 0 cap2 0 0 Try.underlying37
        go_wp2
        go_roundw
        case rel =>
          refine ⟨k + 1, g, by omega, by go_num, ht, hide (fun i hi => ?_), hide (fun i hi => HN.out i (by omega)), hbel⟩
          by_cases e : i = k
          · rw [e, HN.out k (Nat.le_refl _), hm0]; exact S2.empty _ _ _ _ _ _
          · exact HG.out i (by omega)
        case measure => simp [intOf]; omega
      | some x =>
        have hnil := fun w => Lib.run_eql_slice_nil (P := Try.prog) w 37 30 (some x) (m k) cap2 0 0 Try.underlying37
        have hmk := run_make_row' (P := Try.prog) 37 30 (.slice none 0 0) 24 Try.underlying37 info30 rfl .i64 .i64 (m k) (by omega) (by omega)
        have HH2 := hide H2
        clear H2
        go_wp2
        clear hnil hmk
        obtain ⟨wo, hwo⟩ : ∃ wo : World, wo = wr := ⟨_, rfl⟩
        subst hwo
        have hmade := World.rowIs_made wo (.slice none 0 0) (m k) 30
        have hbm : Below wo.heap.size wo (wo.alloc (.cells (madeCells #[.slice none 0 0] (m k)) 30)) := (Below.refl _ _).alloc (Nat.le_refl _) _
        generalize wo.alloc (.cells (madeCells #[.slice none 0 0] (m k)) 30) = wm at *
        go_loopw [6] (fun i wr => ∃ (k2 : Nat) (g2 : Nat → Value), k2 ≤ m k ∧ i = .int .i64 k2 ∧ wr.rowIs wo.heap.size 30 (m k) g2 ∧ Hid (∀ j, j < k2 → S1 (wo.heap.size + 1) wr (g2 j) (l k j) (s k j)) ∧ Below wo.heap.size wo wr) (fun i _ => m k - (intOf i).toNat)
        case atStart => exact ⟨0, _, by omega, rfl, hmade, hide (fun i hi => absurd hi (by omega)), hbm⟩
        case round =>
          obtain ⟨k2, g2, hk2, rfl, ht2, HG2, hbel2⟩ := hrel
          have hsz2 := hbel2.size
          have hlt2N := ht2.lt
          have e1 := (hbel2.cell (p := ⟨b, off + k, none⟩) (by simp only []; omega)).trans h1
          by_cases hlt2 : k2 < m k
          · obtain ⟨u, ⟨b2, off2, hx, _, hc2⟩, a3, cap3, rfl, hn3, H3⟩ := HH2.out k2 hlt2
            obtain rfl := Option.some.inj hx
            clear hx
            have hl := (HF.out k hlt).2 k2 hlt2
            have hs3 : S1 0 wr (.slice a3 (l k k2) cap3) (l k k2) (s k k2) := (S1.kept ⟨a3, cap3, rfl, hn3, H3⟩ (fun b _ h => hbel.block b h)).kept (fun b _ h => hbel2.block b h)
            have e2 := (hbel2.cell (p := ⟨b2, off2 + k2, none⟩) (by have := block_lt_of_cell hc2; simp only [] at this ⊢; omega)).trans ((hbel.cell (block_lt_of_cell hc2)).trans hc2)
            clear H3 hc2 hn3
            have hcell := ht2.cell hlt2
            have hfr := ht2.frozen k2
            have hlk : (k : Int) < n := by omega
            have hlk2 : (k2 : Int) < m k := by omega
            go_wp2_with fail
            refine (copys_any a3 (l k k2) cap3 0 (s k k2) wr hl hs3).mono ?_
            rintro e w3 ⟨⟨a4, cap4, rfl, hs4⟩, hb3⟩
            have f1 := (hb3.cell (p := ⟨wo.heap.size, k2, none⟩) (by simp only []; omega)).trans hcell
            have f2 := (hb3.frozen (p := ⟨wo.heap.size, k2, none⟩) (by simp only []; omega)).trans hfr
            have R := inner_step ht2 HG2.out hs4 hb3
            have Rb := (hbel2.trans (hb3.mono (by omega))).setCell (p := ⟨wo.heap.size, k2, none⟩) (Nat.le_refl _) (.slice a4 (l k k2) cap4)
            have R1 := R.1
            have R2 := hide R.2
            clear R ht2 hs4 hb3 hbel2 hcell hfr e1 e2 hs3
            go_wp2
            go_roundw
            case rel => exact ⟨k2 + 1, _, by omega, by go_num, R1, R2, Rb⟩
            case measure => simp [intOf]; omega
          · have hkm : k2 = m k := by omega
            rw [hkm] at HG2
            have hv : S2 (w.heap.size + 1) wr (.slice (some ⟨wo.heap.size, 0, none⟩) (m k) (m k)) (m k) (l k) (s k) := S2.of_row ht2 hm (by omega) (fun i hi => (HG2.out i hi).weak (by omega))
            have f1 := (hbel2.cell (p := ⟨w.heap.size, k, none⟩) hltN).trans (ht.cell hlt)
            have f2 := (hbel2.frozen (p := ⟨w.heap.size, k, none⟩) hltN).trans (ht.frozen k)
            have R := outer_step ht HG.out hv hbel2
            have Rb := (hbel.trans (hbel2.mono (by omega))).setCell (p := ⟨w.heap.size, k, none⟩) (Nat.le_refl _) (.slice (some ⟨wo.heap.size, 0, none⟩) (m k) (m k))
            have R1 := R.1
            have R2 := hide R.2
            have HK := hide hkm
            have hge : ¬ (k2 : Int) < m k := by omega
            clear R hv hkm hbel2 ht ht2
            go_wp2
            go_roundw
            case rel => exact ⟨k + 1, _, by omega, by go_num, R1, R2, hide (fun i hi => by rw [if_neg (by omega)]; exact HN.out i (by omega)), Rb⟩
            case measure => simp [intOf]; omega
    · obtain rfl : k = n := by omega
      go_wp2
      go_ret
      exact ⟨⟨_, _, rfl, S3.of_row ht hn (Nat.le_refl _) (fun i hi => (HG.out i hi).weak (by omega))⟩, hbel⟩

theorem copyt_any (v : Value) (n : Nat) (m : Nat → Nat) (l : Nat → Nat → Nat) (s : Nat → Nat → Nat → ByteArray) (w : World) (hn : n ≤ 4096) (hf : ∀ i, i < n → m i ≤ 4096 ∧ ∀ j, j < m i → l i j ≤ 4096) (h : S3 0 w v n m l s) :
    Calls Try.prog 11 #[v] w fun e w' => Copied3 w n m l s e w' ∧ Below w.heap.size w w' := by
  obtain ⟨a, cap, rfl, _, hc⟩ := h
  by_cases h0 : n = 0
  · subst h0
    cases a with
    | none => exact copyt_nil cap m l s w
    | some x => exact copyt_empty x cap m l s w
  · obtain ⟨_, ⟨b, off, rfl, _, hc0⟩, _⟩ := hc 0 (by omega)
    refine copyt_main b off n cap m l s w hf hn (block_lt_of_cell hc0) fun i hi => ?_
    obtain ⟨u, ⟨b', off', e, _, hci⟩, hs⟩ := hc i hi
    simp only [Option.some.injEq, Addr.mk.injEq, and_true] at e
    obtain ⟨rfl, rfl⟩ := e
    exact ⟨u, hci, hs⟩
end Go.Proofs.Qxb6604686a
