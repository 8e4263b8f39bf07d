import Derived.Test.Qxb6604241aEst
namespace Go.Proofs.Qxb6604241a

/-- the least counter met by a scan of the first k slots of the table, at those slots that one of the probes hits -/
def scan (c : Nat → Int) (ps : List Nat) : Nat → Int
  | 0 => 15
  | k + 1 => if 0 < hitN ps k ∧ c k < scan c ps k then c k else scan c ps k

theorem hitN_pos (ps : List Nat) (i : Nat) : 0 < hitN ps i ↔ i ∈ ps := by
  unfold hitN
  constructor
  · intro h
    obtain ⟨x, hx⟩ := List.exists_mem_of_length_pos h
    simp at hx
    rw [← hx.2]; exact hx.1
  · intro h
    exact List.length_pos_of_mem (a := i) (by simp [h])

theorem scan_le (c : Nat → Int) (ps : List Nat) (k : Nat) : scan c ps k ≤ 15 ∧ ∀ p ∈ ps, p < k → scan c ps k ≤ c p := by
  induction k with
  | zero => exact ⟨by simp [scan], fun p _ h => absurd h (by omega)⟩
  | succ k ih =>
    unfold scan
    by_cases h : 0 < hitN ps k ∧ c k < scan c ps k
    · rw [if_pos h]
      refine ⟨by omega, fun p hp hk => ?_⟩
      by_cases e : p = k
      · subst e; omega
      · have := ih.2 p hp (by omega); omega
    · rw [if_neg h]
      refine ⟨ih.1, fun p hp hk => ?_⟩
      by_cases e : p = k
      · subst e
        have := (hitN_pos ps p).2 hp
        omega
      · exact ih.2 p hp (by omega)

theorem scan_is (c : Nat → Int) (ps : List Nat) (k : Nat) : scan c ps k = 15 ∨ ∃ p ∈ ps, scan c ps k = c p := by
  induction k with
  | zero => exact .inl rfl
  | succ k ih =>
    unfold scan
    by_cases h : 0 < hitN ps k ∧ c k < scan c ps k
    · rw [if_pos h]
      exact .inr ⟨k, (hitN_pos ps k).1 h.1, rfl⟩
    · rw [if_neg h]; exact ih

theorem est_le (c : Nat → Int) (s : Nat → Nat) (k : Nat) : est c s k ≤ 15 ∧ ∀ j, j < k → est c s k ≤ c (s j) := by
  induction k with
  | zero => exact ⟨by simp [est], fun p h => absurd h (by omega)⟩
  | succ k ih =>
    unfold est
    by_cases h : c (s k) < est c s k
    · rw [if_pos h]
      refine ⟨by omega, fun j hk => ?_⟩
      by_cases e : j = k
      · subst e; omega
      · have := ih.2 j (by omega); omega
    · rw [if_neg h]
      refine ⟨ih.1, fun j hk => ?_⟩
      by_cases e : j = k
      · subst e; omega
      · exact ih.2 j (by omega)

theorem est_is (c : Nat → Int) (s : Nat → Nat) (k : Nat) : est c s k = 15 ∨ ∃ j, j < k ∧ est c s k = c (s j) := by
  induction k with
  | zero => exact .inl rfl
  | succ k ih =>
    unfold est
    by_cases h : c (s k) < est c s k
    · rw [if_pos h]; exact .inr ⟨k, by omega, rfl⟩
    · rw [if_neg h]
      rcases ih with h | ⟨j, hj, h⟩
      · exact .inl h
      · exact .inr ⟨j, by omega, h⟩

theorem mem4 (s : Nat → Nat) (p : Nat) : p ∈ [s 0, s 1, s 2, s 3] ↔ ∃ j, j < 4 ∧ p = s j := by
  constructor
  · intro h
    simp at h
    rcases h with h | h | h | h
    · exact ⟨0, by omega, h⟩
    · exact ⟨1, by omega, h⟩
    · exact ⟨2, by omega, h⟩
    · exact ⟨3, by omega, h⟩
  · rintro ⟨j, hj, rfl⟩
    have : j = 0 ∨ j = 1 ∨ j = 2 ∨ j = 3 := by omega
    rcases this with rfl | rfl | rfl | rfl <;> simp

/-- THE LAW OF THE FIRST STATEMENT: the scan of the whole table finds what the four looks find. -/
theorem scan_est (c : Nat → Int) (s : Nat → Nat) (n : Nat) (h : ∀ j, j < 4 → s j < n) : est c s 4 = scan c [s 0, s 1, s 2, s 3] n := by
  have a := est_le c s 4
  have b := scan_le c [s 0, s 1, s 2, s 3] n
  have h1 : est c s 4 ≤ scan c [s 0, s 1, s 2, s 3] n := by
    rcases scan_is c [s 0, s 1, s 2, s 3] n with e | ⟨p, hp, e⟩
    · omega
    · obtain ⟨j, hj, rfl⟩ := (mem4 s p).1 hp
      have := a.2 j hj
      omega
  have h2 : scan c [s 0, s 1, s 2, s 3] n ≤ est c s 4 := by
    rcases est_is c s 4 with e | ⟨j, hj, e⟩
    · omega
    · have := b.2 (s j) ((mem4 s (s j)).2 ⟨j, hj, rfl⟩) (h j hj)
      omega
  omega
end Go.Proofs.Qxb6604241a
