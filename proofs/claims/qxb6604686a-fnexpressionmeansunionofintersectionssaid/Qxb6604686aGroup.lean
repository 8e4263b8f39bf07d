import Derived.Test.Qxb6604686aBuild
namespace Go.Proofs.Qxb6604686a
open Go.RowKit

/-- the cells of the i-th term's expression: the one factor, or the intersection of the factors -/
def tc (m : Nat → Nat) (U : Nat → Nat → Value) (R : Nat → Value) (i : Nat) : Nat → Value := if m i = 1 then cells6 0 (U i 0) (.slice none 0 0) else cells6 4 (.slice none 0 0) (R i)

/-- the cells of the first k terms, one behind the other -/
def uc (t : Nat → Nat → Value) : Nat → List Value
  | 0 => []
  | k + 1 => uc t k ++ [t k 0, t k 1, t k 2, t k 3, t k 4, t k 5]

theorem uc_length (t : Nat → Nat → Value) (k : Nat) : (uc t k).length = k * 6 := by
  induction k with
  | zero => rfl
  | succ k ih => simp [uc, ih]; omega

theorem uc_at (t : Nat → Nat → Value) (k i j : Nat) (hi : i < k) (hj : j < 6) : (uc t k)[i * 6 + j]? = some (t i j) := by
  induction k with
  | zero => omega
  | succ k ih =>
    unfold uc
    by_cases e : i = k
    · subst e
      rw [List.getElem?_append_right (by rw [uc_length]; omega), uc_length]
      have h : i * 6 + j - i * 6 = j := by omega
      rw [h]
      have : j = 0 ∨ j = 1 ∨ j = 2 ∨ j = 3 ∨ j = 4 ∨ j = 5 := by omega
      rcases this with rfl | rfl | rfl | rfl | rfl | rfl <;> rfl
    · rw [List.getElem?_append_left (by rw [uc_length]; omega)]
      exact ih (by omega)

theorem own_base {w : World} {base : Nat} {e : TypeId} {size : Nat} {v : Value} {n : Nat} {xs : List Value} (h : w.ownsRow base e size v n xs) : ∀ k, v.ownBlock = some k → base ≤ k := by
  intro k hk
  rcases h.2 with ⟨rfl, _⟩ | ⟨g, cap, cur, rfl, hb, _⟩
  · cases hk
  · have : g = k := by simpa [Value.ownBlock] using hk
    omega

theorem own_shape {w : World} {base : Nat} {e : TypeId} {size : Nat} {v : Value} {n : Nat} {xs : List Value} (h : w.ownsRow base e size v n xs) (hn : 0 < n) : ∃ g cap, v = .slice (some ⟨g, 0, none⟩) n cap ∧ base ≤ g := by
  rcases h.2 with ⟨_, h0⟩ | ⟨g, cap, cur, hv, hb, _⟩
  · omega
  · exact ⟨g, cap, hv, hb⟩

theorem cell_six_new (w : World) (c0 c1 c2 c3 c4 c5 : Value) (t : TypeId) : ∀ j u, [c0, c1, c2, c3, c4, c5][j]? = some u → (w.alloc (.cells #[c0, c1, c2, c3, c4, c5] t)).cell? ((⟨w.heap.size, 0, none⟩ : Addr).add j) = some u := by
  intro j u h
  rw [addr_add, Nat.zero_add]
  simpa using h
theorem one_six {c0 c1 c2 c3 c4 c5 : Value} (h0 : c0.oneCell' = true) (h1 : c1.oneCell' = true) (h2 : c2.oneCell' = true) (h3 : c3.oneCell' = true) (h4 : c4.oneCell' = true) (h5 : c5.oneCell' = true) : ∀ u ∈ [c0, c1, c2, c3, c4, c5], u.oneCell' = true := by
  intro u hu
  simp only [List.mem_cons, List.not_mem_nil, or_false] at hu
  rcases hu with rfl | rfl | rfl | rfl | rfl | rfl <;> assumption

/-- six stores into a block of six cells, and what they leave -/
theorem six_back {w : World} {N : Nat} {t : TypeId} {g : Nat → Value} (h : w.rowIs N t 6 g) (c0 c1 c2 c3 c4 c5 : Value) :
    ((((((w.setCell ⟨N, 0, none⟩ c0).setCell ⟨N, 1, none⟩ c1).setCell ⟨N, 2, none⟩ c2).setCell ⟨N, 3, none⟩ c3).setCell ⟨N, 4, none⟩ c4).setCell ⟨N, 5, none⟩ c5).rowIs N t 6
      (fun x => if x = 5 then c5 else if x = 4 then c4 else if x = 3 then c3 else if x = 2 then c2 else if x = 1 then c1 else if x = 0 then c0 else g x) :=
  (((((h.set _ c0).set _ c1).set _ c2).set _ c3).set _ c4).set _ c5

theorem tc_shape {m : Nat → Nat} {U : Nat → Nat → Value} {R : Nat → Value} {i : Nat} (hU : m i = 1 → ∃ a l c, U i 0 = .slice a l c) (hR : ∃ a l c, R i = .slice a l c) : ∃ kd a l c a' l' c', tc m U R i = cells6 kd (.slice a l c) (.slice a' l' c') := by
  unfold tc
  by_cases h : m i = 1
  · obtain ⟨a, l, c, e⟩ := hU h
    rw [if_pos h, e]
    exact ⟨_, _, _, _, _, _, _, rfl⟩
  · obtain ⟨a, l, c, e⟩ := hR
    rw [if_neg h, e]
    exact ⟨_, _, _, _, _, _, _, rfl⟩

/-- what an owned row of terms gives -/
theorem own_at6 {w : World} {base k cp : Nat} {ao : Option Addr} {t : Nat → Nat → Value} (h : w.ownsRow base 35 6 (.slice ao k cp) k (uc t k)) : ∀ i, i < k → At6 base w ao i (t i) := by
  intro i hi
  obtain ⟨g, cp', hv, hg⟩ := own_shape h (by omega)
  simp only [Value.slice.injEq, true_and] at hv
  obtain ⟨rfl, rfl⟩ := hv
  refine ⟨g, rfl, hg, fun j hj => ?_⟩
  rw [h.cellAt (i * 6 + j) (by omega), uc_at t k i j hi hj]

/-- the whole expression: the one term, or the union of the terms -/
def Top (B : Nat) (w : World) (n : Nat) (t : Nat → Nat → Value) (c : Nat → Value) : Prop :=
  (n = 1 ∧ c = t 0) ∨ (n ≠ 1 ∧ ∃ ao cp, c = cells6 3 (.slice none 0 0) (.slice ao n cp) ∧ ∀ i, i < n → At6 B w ao i (t i))
def TopPost (B : Nat) (n : Nat) (t : Nat → Nat → Value) (e : Ending) (w' : World) : Prop :=
  ∃ kd a1 l1 c1 a5 l5 c5, e = .returned (.agg #[.int .i64 kd, .slice a1 l1 c1, .string ⟨#[]⟩, .string ⟨#[]⟩, .string ⟨#[]⟩, .slice a5 l5 c5]) ∧ Top B w' n t (cells6 kd (.slice a1 l1 c1) (.slice a5 l5 c5))

set_option maxRecDepth 100000 in
set_option maxHeartbeats 1000000 in
theorem expr_any (r n cap : Nat) (a : Option Addr) (m : Nat → Nat) (U : Nat → Nat → Value) (R : Nat → Value) (w : World) (hn : n ≤ 4096) (hcell : w.cell? ⟨r, 0, none⟩ = some (.slice a n cap))
    (hR : ∀ i, i < n → At 0 w a i (R i) ∧ E1 0 w (R i) (m i) (U i)) (hU : ∀ i, i < n → m i = 1 → ∃ a l c, U i 0 = .slice a l c) :
    Calls Try.prog 41 #[.pointer (some ⟨r, 0, none⟩)] w fun e w' => TopPost (w.heap.size + 1) n (tc m U R) e w' ∧ Below w.heap.size w w' := by
  obtain ⟨i0, hi0, hz0, hz1, hz2⟩ := info_parts info35
  have hr := block_lt_of_cell hcell
  have HR := hide hR
  have HU := hide hU
  clear hR hU
  go_enter Try.func41, Try.ntmps41
  go_wp2
  go_loopw [3, 11] (fun v i wr => ∃ (k : Nat) (ao : Option Addr) (cp : Nat), k ≤ n ∧ i = .int .i64 k ∧ v = .slice ao k cp ∧ wr.ownsRow (w.heap.size + 1) 35 6 (.slice ao k cp) k (uc (tc m U R) k) ∧ Below (w.heap.size + 1) (w.alloc (.cells #[.int .i64 0, .slice none 0 0, .string ⟨#[]⟩, .string ⟨#[]⟩, .string ⟨#[]⟩, .slice none 0 0] 35)) wr) (fun _ i _ => n - (intOf i).toNat)
  case atStart => exact ⟨0, none, 0, by omega, rfl, rfl, World.ownsRow_nil _ _ _ _, Below.refl _ _⟩
  case round =>
    obtain ⟨k, ao, cp, hk, rfl, rfl, hown, hbel⟩ := hrel
    have hsz := hbel.size
    simp only [World.size_alloc] at hsz
    have hbw : Below w.heap.size w wr := ((Below.refl _ _).alloc (Nat.le_refl _) _).trans (hbel.mono (by omega))
    by_cases hlt : k < n
    · obtain ⟨⟨b, off, rfl, _, hc⟩, a2, cap2, hRk, hm2, H2⟩ := HR.out k hlt
      have HRK := hide hRk
      rw [hRk] at hc
      have e1 : wr.cell? ⟨b, off + k, none⟩ = some (.slice a2 (m k) cap2) := (hbw.cell (block_lt_of_cell hc)).trans hc
      clear hc hRk
      by_cases h1 : m k = 1
      · obtain ⟨a3, l3, c3, hu⟩ := HU.out k hlt h1
        obtain ⟨b2, rfl, _, hc2⟩ := H2 0 (by omega)
        rw [hu] at hc2
        have hb2 := block_lt_of_cell (hc2 0 (by omega))
        have keep : ∀ j, wr.cell? ⟨b2, j, none⟩ = w.cell? ⟨b2, j, none⟩ := fun j => hbw.cell hb2
        have q0 : wr.cell? ⟨b2, 0, none⟩ = some (.int .i64 0) := (keep 0).trans (hc2 0 (by omega))
        have q1 : wr.cell? ⟨b2, 1, none⟩ = some (.slice a3 l3 c3) := (keep 1).trans (hc2 1 (by omega))
        have q2 : wr.cell? ⟨b2, 2, none⟩ = some (.string ⟨#[]⟩) := (keep 2).trans (hc2 2 (by omega))
        have q3 : wr.cell? ⟨b2, 3, none⟩ = some (.string ⟨#[]⟩) := (keep 3).trans (hc2 3 (by omega))
        have q4 : wr.cell? ⟨b2, 4, none⟩ = some (.string ⟨#[]⟩) := (keep 4).trans (hc2 4 (by omega))
        have q5 : wr.cell? ⟨b2, 5, none⟩ = some (.slice none 0 0) := (keep 5).trans (hc2 5 (by omega))
        have hb1 : ((m k : Int) == 1) = true := by rw [beq_iff_eq]; omega
        have hp1 : 0 < m k := by omega
        clear keep hc2 hb2 H2
        go_wp2_with (at_builtin; refine wpList_append_own _ rfl _ _ 33 rfl (w.heap.size + 1) 35 i0 (.agg #[.int .i64 0, .slice none 0 0, .string ⟨#[]⟩, .string ⟨#[]⟩, .string ⟨#[]⟩, .slice none 0 0]) 6 104 Try.underlying33 hi0 hz0 hz1 hz2 rfl (by decide) _ _ _ rfl (hown.alloc _) ⟨wr.heap.size, 0, none⟩ 1 1 [.int .i64 0, .slice a3 l3 c3, .string ⟨#[]⟩, .string ⟨#[]⟩, .string ⟨#[]⟩, .slice none 0 0] rfl rfl ?c1 ?c2 ?c3 ?c4 ?c5 ?_)
        case c1 => exact cell_six_new _ _ _ _ _ _ _ _
        case c2 => exact one_six rfl rfl rfl rfl rfl rfl
        case c3 => unfold maxLen; omega
        case c4 => omega
        case c5 => simp; omega
        intro v' w5 hown' hgrow _
        have hbel' := (hbel.alloc hsz _).grown hgrow (by simp; omega) (own_base hown)
        obtain ⟨g, cp', hv, hg⟩ := own_shape hown' (by omega)
        have HT : Hid (uc (tc m U R) (k + 1) = uc (tc m U R) k ++ [.int .i64 0, .slice a3 l3 c3, .string ⟨#[]⟩, .string ⟨#[]⟩, .string ⟨#[]⟩, .slice none 0 0]) := by
          show uc (tc m U R) k ++ _ = _
          unfold tc
          rw [if_pos h1, hu]
          rfl
        rw [← HT.out] at hown'
        subst hv
        clear hown hgrow hu HT q0 q1 q2 q3 q4 q5
        go_wp2
        go_roundw
        case rel => exact ⟨k + 1, _, _, by omega, by go_num, rfl, hown', hbel'⟩
        case measure => simp [intOf]; omega
      · have hb1 : ((m k : Int) == 1) = false := by rw [beq_eq_false_iff_ne]; omega
        clear H2
        go_wp2_with (at_builtin; refine wpList_append_own _ rfl _ _ 33 rfl (w.heap.size + 1) 35 i0 (.agg #[.int .i64 0, .slice none 0 0, .string ⟨#[]⟩, .string ⟨#[]⟩, .string ⟨#[]⟩, .slice none 0 0]) 6 104 Try.underlying33 hi0 hz0 hz1 hz2 rfl (by decide) _ _ _ rfl (hown.alloc _) ⟨wr.heap.size, 0, none⟩ 1 1 [.int .i64 4, .slice none 0 0, .string ⟨#[]⟩, .string ⟨#[]⟩, .string ⟨#[]⟩, .slice a2 (m k) cap2] rfl rfl ?d1 ?d2 ?d3 ?d4 ?d5 ?_)
        case d1 => exact cell_six_new _ _ _ _ _ _ _ _
        case d2 => exact one_six rfl rfl rfl rfl rfl rfl
        case d3 => unfold maxLen; omega
        case d4 => omega
        case d5 => simp; omega
        intro v' w5 hown' hgrow _
        have hbel' := (hbel.alloc hsz _).grown hgrow (by simp; omega) (own_base hown)
        obtain ⟨g, cp', hv, hg⟩ := own_shape hown' (by omega)
        have HT : Hid (uc (tc m U R) (k + 1) = uc (tc m U R) k ++ [.int .i64 4, .slice none 0 0, .string ⟨#[]⟩, .string ⟨#[]⟩, .string ⟨#[]⟩, .slice a2 (m k) cap2]) := by
          show uc (tc m U R) k ++ _ = _
          unfold tc
          rw [if_neg h1, HRK.out]
          rfl
        rw [← HT.out] at hown'
        subst hv
        clear hown hgrow HT
        go_wp2
        go_roundw
        case rel => exact ⟨k + 1, _, _, by omega, by go_num, rfl, hown', hbel'⟩
        case measure => simp [intOf]; omega
    · obtain rfl : k = n := by omega
      have hres : wr.rowIs w.heap.size 35 6 (fun i => (#[.int .i64 0, .slice none 0 0, .string ⟨#[]⟩, .string ⟨#[]⟩, .string ⟨#[]⟩, .slice none 0 0] : Array Value)[i]?.getD undef) := (rowIs_new w _ 35 6 rfl).of_block (hbel.block _ (by omega))
      have z0 : wr.cell? ⟨w.heap.size, 0, none⟩ = some (.int .i64 0) := hres.cell (by omega)
      have z1 : wr.cell? ⟨w.heap.size, 1, none⟩ = some (.slice none 0 0) := hres.cell (by omega)
      have z2 : wr.cell? ⟨w.heap.size, 2, none⟩ = some (.string ⟨#[]⟩) := hres.cell (by omega)
      have z3 : wr.cell? ⟨w.heap.size, 3, none⟩ = some (.string ⟨#[]⟩) := hres.cell (by omega)
      have z4 : wr.cell? ⟨w.heap.size, 4, none⟩ = some (.string ⟨#[]⟩) := hres.cell (by omega)
      have z5 : wr.cell? ⟨w.heap.size, 5, none⟩ = some (.slice none 0 0) := hres.cell (by omega)
      have fz := hres.frozen
      by_cases h1 : k = 1
      · obtain ⟨g, cp', hv, hg⟩ := own_shape hown (by omega)
        simp only [Value.slice.injEq, true_and] at hv
        obtain ⟨rfl, rfl⟩ := hv
        obtain ⟨kd, a1, l1, c1, a5, l5, c5, ht⟩ := tc_shape (m := m) (U := U) (R := R) (i := 0) (HU.out 0 (by omega)) (by obtain ⟨_, a2, c2, e, _⟩ := HR.out 0 (by omega); exact ⟨_, _, _, e⟩)
        have key : ∀ j, j < 6 → wr.cell? ⟨g, j, none⟩ = some (cells6 kd (.slice a1 l1 c1) (.slice a5 l5 c5) j) := fun j hj => by
          have h := hown.cellAt j (by omega)
          have h2 := uc_at (tc m U R) k 0 j (by omega) hj
          rw [Nat.zero_mul, Nat.zero_add] at h2
          rw [h, h2, ht]
        have q0 : wr.cell? ⟨g, 0, none⟩ = some (.int .i64 kd) := key 0 (by omega)
        have q1 : wr.cell? ⟨g, 1, none⟩ = some (.slice a1 l1 c1) := key 1 (by omega)
        have q2 : wr.cell? ⟨g, 2, none⟩ = some (.string ⟨#[]⟩) := key 2 (by omega)
        have q3 : wr.cell? ⟨g, 3, none⟩ = some (.string ⟨#[]⟩) := key 3 (by omega)
        have q4 : wr.cell? ⟨g, 4, none⟩ = some (.string ⟨#[]⟩) := key 4 (by omega)
        have q5 : wr.cell? ⟨g, 5, none⟩ = some (.slice a5 l5 c5) := key 5 (by omega)
        have B := six_back hres (.int .i64 kd) (.slice a1 l1 c1) (.string ⟨#[]⟩) (.string ⟨#[]⟩) (.string ⟨#[]⟩) (.slice a5 l5 c5)
        have hb1 : ((k : Int) == 1) = true := by rw [beq_iff_eq]; omega
        have hkp : 0 < k := by omega
        have H1 := hide h1
        have p0 := B.cell (i := 0) (by omega)
        have p1 := B.cell (i := 1) (by omega)
        have p2 := B.cell (i := 2) (by omega)
        have p3 := B.cell (i := 3) (by omega)
        have p4 := B.cell (i := 4) (by omega)
        have p5 := B.cell (i := 5) (by omega)
        have BB := (((((hbw.setCell (p := ⟨w.heap.size, 0, none⟩) (Nat.le_refl _) (.int .i64 kd)).setCell (p := ⟨w.heap.size, 1, none⟩) (Nat.le_refl _) (.slice a1 l1 c1)).setCell (p := ⟨w.heap.size, 2, none⟩) (Nat.le_refl _) (.string ⟨#[]⟩)).setCell (p := ⟨w.heap.size, 3, none⟩) (Nat.le_refl _) (.string ⟨#[]⟩)).setCell (p := ⟨w.heap.size, 4, none⟩) (Nat.le_refl _) (.string ⟨#[]⟩)).setCell (p := ⟨w.heap.size, 5, none⟩) (Nat.le_refl _) (.slice a5 l5 c5)
        have HT := hide ht
        have P0 := hide p0
        have P1 := hide p1
        have P2 := hide p2
        have P3 := hide p3
        have P4 := hide p4
        have P5 := hide p5
        clear h1 key hown hres ht p0 p1 p2 p3 p4 p5 B
        go_wp2
        have p0 := P0.out
        have p1 := P1.out
        have p2 := P2.out
        have p3 := P3.out
        have p4 := P4.out
        have p5 := P5.out
        refine bodyPost_ret (v := .agg #[.int .i64 kd, .slice a1 l1 c1, .string ⟨#[]⟩, .string ⟨#[]⟩, .string ⟨#[]⟩, .slice a5 l5 c5]) (by simp [results, Try.results41, go_sem, p0, p1, p2, p3, p4, p5]) rfl ⟨⟨_, _, _, _, _, _, _, rfl, .inl ⟨H1.out, HT.out.symm⟩⟩, BB⟩
      · have hb1 : ((k : Int) == 1) = false := by rw [beq_eq_false_iff_ne]; omega
        have H1 := hide h1
        have B := six_back hres (.int .i64 3) (.slice none 0 0) (.string ⟨#[]⟩) (.string ⟨#[]⟩) (.string ⟨#[]⟩) (.slice ao k cp)
        have P0 := hide (B.cell (i := 0) (by omega))
        have P1 := hide (B.cell (i := 1) (by omega))
        have P2 := hide (B.cell (i := 2) (by omega))
        have P3 := hide (B.cell (i := 3) (by omega))
        have P4 := hide (B.cell (i := 4) (by omega))
        have P5 := hide (B.cell (i := 5) (by omega))
        have keep : ∀ b, w.heap.size + 1 ≤ b → b < wr.heap.size → ((((((wr.setCell ⟨w.heap.size, 0, none⟩ (.int .i64 3)).setCell ⟨w.heap.size, 1, none⟩ (.slice none 0 0)).setCell ⟨w.heap.size, 2, none⟩ (.string ⟨#[]⟩)).setCell ⟨w.heap.size, 3, none⟩ (.string ⟨#[]⟩)).setCell ⟨w.heap.size, 4, none⟩ (.string ⟨#[]⟩)).setCell ⟨w.heap.size, 5, none⟩ (.slice ao k cp)).heap[b]? = wr.heap[b]? := by
          intro b hb1 _
          rw [Below.heap_setCell _ _ _ _ (by simp only []; omega), Below.heap_setCell _ _ _ _ (by simp only []; omega), Below.heap_setCell _ _ _ _ (by simp only []; omega), Below.heap_setCell _ _ _ _ (by simp only []; omega), Below.heap_setCell _ _ _ _ (by simp only []; omega), Below.heap_setCell _ _ _ _ (by simp only []; omega)]
        have A6 := hide (fun i hi => (own_at6 hown i hi).kept keep)
        have BB := (((((hbw.setCell (p := ⟨w.heap.size, 0, none⟩) (Nat.le_refl _) (.int .i64 3)).setCell (p := ⟨w.heap.size, 1, none⟩) (Nat.le_refl _) (.slice none 0 0)).setCell (p := ⟨w.heap.size, 2, none⟩) (Nat.le_refl _) (.string ⟨#[]⟩)).setCell (p := ⟨w.heap.size, 3, none⟩) (Nat.le_refl _) (.string ⟨#[]⟩)).setCell (p := ⟨w.heap.size, 4, none⟩) (Nat.le_refl _) (.string ⟨#[]⟩)).setCell (p := ⟨w.heap.size, 5, none⟩) (Nat.le_refl _) (.slice ao k cp)
        clear h1 hown hres keep B
        go_wp2
        have p0 := P0.out
        have p1 := P1.out
        have p2 := P2.out
        have p3 := P3.out
        have p4 := P4.out
        have p5 := P5.out
        refine bodyPost_ret (v := .agg #[.int .i64 3, .slice none 0 0, .string ⟨#[]⟩, .string ⟨#[]⟩, .string ⟨#[]⟩, .slice ao k cp]) (by simp [results, Try.results41, go_sem, p0, p1, p2, p3, p4, p5]) rfl ⟨⟨_, _, _, _, _, _, _, rfl, .inr ⟨H1.out, ao, cp, rfl, A6.out⟩⟩, BB⟩

theorem Top.kept {B : Nat} {w w' : World} {n : Nat} {t : Nat → Nat → Value} {c : Nat → Value} (h : Top B w n t c) (k : ∀ b, B ≤ b → b < w.heap.size → w'.heap[b]? = w.heap[b]?) : Top B w' n t c := by
  rcases h with h | ⟨h1, ao, cp, hc, ha⟩
  · exact .inl h
  · exact .inr ⟨h1, ao, cp, hc, fun i hi => (ha i hi).kept k⟩
theorem Top.weak {B B' : Nat} {w : World} {n : Nat} {t : Nat → Nat → Value} {c : Nat → Value} (h : Top B w n t c) (hb : B' ≤ B) : Top B' w n t c := by
  rcases h with h | ⟨h1, ao, cp, hc, ha⟩
  · exact .inl h
  · exact .inr ⟨h1, ao, cp, hc, fun i hi => (ha i hi).weak hb⟩

set_option maxHeartbeats 400000 in
theorem group_any (a : Option Addr) (n cap : Nat) (w : World) : Calls Try.prog 12 #[.slice a n cap] w fun e w' => e = .returned (.pointer (some ⟨w.heap.size, 0, none⟩)) ∧ w'.cell? ⟨w.heap.size, 0, none⟩ = some (.slice a n cap) ∧ Below w.heap.size w w' := by
  go_enter Try.func12, Try.ntmps12
  go_wp2
  go_ret
  exact ⟨rfl, by simp, (Below.refl _ _).alloc (Nat.le_refl _) _⟩

set_option maxRecDepth 100000 in
set_option maxHeartbeats 1000000 in
theorem zexpr_any (r n cap : Nat) (a : Option Addr) (m : Nat → Nat) (U : Nat → Nat → Value) (R : Nat → Value) (w : World) (hn : n ≤ 4096) (hcell : w.cell? ⟨r, 0, none⟩ = some (.slice a n cap))
    (hR : ∀ i, i < n → At 0 w a i (R i) ∧ E1 0 w (R i) (m i) (U i)) (hU : ∀ i, i < n → m i = 1 → ∃ a l c, U i 0 = .slice a l c) :
    Calls Try.prog 14 #[.pointer (some ⟨r, 0, none⟩)] w fun e w' => TopPost (w.heap.size + 1) n (tc m U R) e w' ∧ Below w.heap.size w w' := by
  have hr := block_lt_of_cell hcell
  have hb0 : Below w.heap.size w (w.alloc (.cells #[.int .i64 0, .slice none 0 0, .string ⟨#[]⟩, .string ⟨#[]⟩, .string ⟨#[]⟩, .slice none 0 0] 35)) := (Below.refl _ _).alloc (Nat.le_refl _) _
  have hC := hide (expr_any r n cap a m U R (w.alloc (.cells #[.int .i64 0, .slice none 0 0, .string ⟨#[]⟩, .string ⟨#[]⟩, .string ⟨#[]⟩, .slice none 0 0] 35)) hn ((hb0.cell hr).trans hcell)
    (fun i hi => ⟨(hR i hi).1.kept (fun b _ h => hb0.block b h), (hR i hi).2.kept (fun b _ h => hb0.block b h)⟩) hU)
  have hrow := rowIs_new w #[.int .i64 0, .slice none 0 0, .string ⟨#[]⟩, .string ⟨#[]⟩, .string ⟨#[]⟩, .slice none 0 0] 35 6 rfl
  have HROW := hide hrow
  clear hR hU hrow
  go_enter Try.func14, Try.ntmps14
  go_wp2_with fail
  refine hC.out.mono ?_
  rintro e w1 ⟨⟨kd, a1, l1, c1, a5, l5, c5, rfl, htop⟩, hb1⟩
  simp only [World.size_alloc] at htop hb1
  have hsz := hb1.size
  simp only [World.size_alloc] at hsz
  have hres := HROW.out.of_block (hb1.block w.heap.size (by omega))
  have z0 : w1.cell? ⟨w.heap.size, 0, none⟩ = some (.int .i64 0) := hres.cell (by omega)
  have z1 : w1.cell? ⟨w.heap.size, 1, none⟩ = some (.slice none 0 0) := hres.cell (by omega)
  have z2 : w1.cell? ⟨w.heap.size, 2, none⟩ = some (.string ⟨#[]⟩) := hres.cell (by omega)
  have z3 : w1.cell? ⟨w.heap.size, 3, none⟩ = some (.string ⟨#[]⟩) := hres.cell (by omega)
  have z4 : w1.cell? ⟨w.heap.size, 4, none⟩ = some (.string ⟨#[]⟩) := hres.cell (by omega)
  have z5 : w1.cell? ⟨w.heap.size, 5, none⟩ = some (.slice none 0 0) := hres.cell (by omega)
  have fz := hres.frozen
  have B := six_back hres (.int .i64 kd) (.slice a1 l1 c1) (.string ⟨#[]⟩) (.string ⟨#[]⟩) (.string ⟨#[]⟩) (.slice a5 l5 c5)
  have P0 := hide (B.cell (i := 0) (by omega))
  have P1 := hide (B.cell (i := 1) (by omega))
  have P2 := hide (B.cell (i := 2) (by omega))
  have P3 := hide (B.cell (i := 3) (by omega))
  have P4 := hide (B.cell (i := 4) (by omega))
  have P5 := hide (B.cell (i := 5) (by omega))
  have keep : ∀ b, w.heap.size + 1 + 1 ≤ b → b < w1.heap.size → ((((((w1.setCell ⟨w.heap.size, 0, none⟩ (.int .i64 kd)).setCell ⟨w.heap.size, 1, none⟩ (.slice a1 l1 c1)).setCell ⟨w.heap.size, 2, none⟩ (.string ⟨#[]⟩)).setCell ⟨w.heap.size, 3, none⟩ (.string ⟨#[]⟩)).setCell ⟨w.heap.size, 4, none⟩ (.string ⟨#[]⟩)).setCell ⟨w.heap.size, 5, none⟩ (.slice a5 l5 c5)).heap[b]? = w1.heap[b]? := by
    intro b hb1 _
    rw [Below.heap_setCell _ _ _ _ (by simp only []; omega), Below.heap_setCell _ _ _ _ (by simp only []; omega), Below.heap_setCell _ _ _ _ (by simp only []; omega), Below.heap_setCell _ _ _ _ (by simp only []; omega), Below.heap_setCell _ _ _ _ (by simp only []; omega), Below.heap_setCell _ _ _ _ (by simp only []; omega)]
  have TT := (htop.kept keep).weak (B' := w.heap.size + 1) (by omega)
  have hbw := hb0.trans (hb1.mono (by omega))
  have BB := (((((hbw.setCell (p := ⟨w.heap.size, 0, none⟩) (Nat.le_refl _) (.int .i64 kd)).setCell (p := ⟨w.heap.size, 1, none⟩) (Nat.le_refl _) (.slice a1 l1 c1)).setCell (p := ⟨w.heap.size, 2, none⟩) (Nat.le_refl _) (.string ⟨#[]⟩)).setCell (p := ⟨w.heap.size, 3, none⟩) (Nat.le_refl _) (.string ⟨#[]⟩)).setCell (p := ⟨w.heap.size, 4, none⟩) (Nat.le_refl _) (.string ⟨#[]⟩)).setCell (p := ⟨w.heap.size, 5, none⟩) (Nat.le_refl _) (.slice a5 l5 c5)
  clear hres B keep htop hC
  go_wp2
  have p0 := P0.out
  have p1 := P1.out
  have p2 := P2.out
  have p3 := P3.out
  have p4 := P4.out
  have p5 := P5.out
  exact bodyPost_ret (v := .agg #[.int .i64 kd, .slice a1 l1 c1, .string ⟨#[]⟩, .string ⟨#[]⟩, .string ⟨#[]⟩, .slice a5 l5 c5]) (by simp [results, Try.results14, go_sem, p0, p1, p2, p3, p4, p5]) rfl ⟨⟨_, _, _, _, _, _, _, rfl, TT⟩, BB⟩
end Go.Proofs.Qxb6604686a
