import Derived.Test.Qxb6604241aAdd
namespace Go.Proofs.Qxb6604241a

/-- capAt -/
def capA (v c : Int) : Int := if c < v then c else v

/-- how many of the first k probes hit slot i -/
def cntH (s : Nat → Nat) (i : Nat) : Nat → Nat
  | 0 => 0
  | k + 1 => cntH s i k + if s k = i then 1 else 0

theorem cntH_le (s : Nat → Nat) (i k : Nat) : cntH s i k ≤ k := by
  induction k with
  | zero => simp [cntH]
  | succ k ih =>
    unfold cntH
    by_cases e : s k = i
    · rw [if_pos e]; omega
    · rw [if_neg e]; omega

theorem cntH_pos (s : Nat → Nat) (j k : Nat) (h : j < k) : 1 ≤ cntH s (s j) k := by
  induction k with
  | zero => omega
  | succ k ih =>
    unfold cntH
    by_cases e : s k = s j
    · rw [if_pos e]; omega
    · rw [if_neg e]
      by_cases e2 : j = k
      · subst e2; exact absurd rfl e
      · have := ih (by omega); omega

theorem hit4 (s : Nat → Nat) (i : Nat) : hitN [s 0, s 1, s 2, s 3] i = cntH s i 4 := by
  unfold hitN cntH cntH cntH cntH cntH
  by_cases a : s 0 = i <;> by_cases b : s 1 = i <;> by_cases c : s 2 = i <;> by_cases d : s 3 = i <;> simp [a, b, c, d]

/-- WHAT add LEAVES IN EACH SLOT, exactly. -/
theorem bumps_exact (c : Nat → Int) (s : Nat → Nat) (i k : Nat) : bumps c s k i = if c i < 15 then capA (c i + cntH s i k) 15 else c i := by
  induction k with
  | zero =>
    unfold bumps cntH capA
    by_cases h : c i < 15
    · rw [if_pos h, if_neg (by omega)]; omega
    · rw [if_neg h]
  | succ k ih =>
    unfold bumps bump cntH
    by_cases e : i = s k
    · rw [if_pos e, if_pos e.symm, ← e, ih]
      unfold capA
      by_cases h : c i < 15
      · rw [if_pos h, if_pos h]
        by_cases f : 15 < c i + (cntH s i k : Int)
        · rw [if_pos f, if_neg (by omega), if_pos (by omega)]
        · rw [if_neg f]
          by_cases g : c i + (cntH s i k : Int) < 15
          · rw [if_pos g, if_neg (by omega)]; omega
          · rw [if_neg g, if_pos (by omega)]; omega
      · rw [if_neg h, if_neg h, if_neg h]
    · have e' : ¬ s k = i := fun h => e h.symm
      rw [if_neg e, if_neg e', ih]
      simp

theorem bumps_ge (c : Nat → Int) (s : Nat → Nat) (i k : Nat) : c i ≤ bumps c s k i := by
  rw [bumps_exact]
  by_cases h : c i < 15
  · rw [if_pos h]
    unfold capA
    by_cases f : 15 < c i + (cntH s i k : Int)
    · rw [if_pos f]; omega
    · rw [if_neg f]; omega
  · rw [if_neg h]; omega

theorem est_nn (c : Nat → Int) (s : Nat → Nat) (h : ∀ i, 0 ≤ c i) (k : Nat) : 0 ≤ est c s k := by
  rcases est_is c s k with e | ⟨j, _, e⟩
  · omega
  · have := h (s j); omega

theorem est_mono (c d : Nat → Int) (s : Nat → Nat) (h : ∀ i, c i ≤ d i) (k : Nat) : est c s k ≤ est d s k := by
  have a := est_le c s k
  rcases est_is d s k with e | ⟨j, hj, e⟩
  · omega
  · have := a.2 j hj
    have := h (s j)
    omega

/-- THE LAW OF THE SECOND STATEMENT: the run's estimate rises by at least one (to no more than 15) and by at most four. -/
theorem raises_lo (c : Nat → Int) (s : Nat → Nat) : capA (est c s 4 + 1) 15 ≤ est (bumps c s 4) s 4 := by
  have a := est_le c s 4
  rcases est_is (bumps c s 4) s 4 with e | ⟨j, hj, e⟩
  · rw [e]; unfold capA
    by_cases f : 15 < est c s 4 + 1
    · rw [if_pos f]; omega
    · rw [if_neg f]; omega
  · rw [e, bumps_exact]
    have h1 := a.2 j hj
    have h2 := cntH_pos s j 4 hj
    unfold capA
    by_cases h : c (s j) < 15
    · rw [if_pos h]
      by_cases f : 15 < est c s 4 + 1
      · rw [if_pos f]; omega
      · rw [if_neg f]
        by_cases g : 15 < c (s j) + (cntH s (s j) 4 : Int)
        · rw [if_pos g]; omega
        · rw [if_neg g]; omega
    · rw [if_neg h]
      by_cases f : 15 < est c s 4 + 1
      · rw [if_pos f]; omega
      · rw [if_neg f]; omega

theorem raises_hi (c : Nat → Int) (s : Nat → Nat) : est (bumps c s 4) s 4 ≤ capA (est c s 4 + 4) 15 := by
  have a := est_le (bumps c s 4) s 4
  rcases est_is c s 4 with e | ⟨j, hj, e⟩
  · rw [e]; unfold capA; rw [if_pos (by omega)]; exact a.1
  · have h1 := a.2 j hj
    rw [bumps_exact] at h1
    have h2 := cntH_le s (s j) 4
    have h3 := (est_le c s 4).1
    unfold capA at h1 ⊢
    by_cases f : 15 < est c s 4 + 4
    · rw [if_pos f]; exact a.1
    · rw [if_neg f]
      rw [if_pos (by omega)] at h1
      by_cases g : 15 < c (s j) + (cntH s (s j) 4 : Int)
      · rw [if_pos g] at h1; omega
      · rw [if_neg g] at h1; omega
end Go.Proofs.Qxb6604241a
