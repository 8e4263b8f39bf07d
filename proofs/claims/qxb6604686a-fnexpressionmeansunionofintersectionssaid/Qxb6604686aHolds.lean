import Derived.Test.Qxb6604686aIsSet
namespace Go.Proofs.Qxb6604686a
open Go.RowKit

/-! ### the plain functions -/
/-- is x among the first k names? -/
def hasN (s : Nat → ByteArray) (x : ByteArray) : Nat → Bool
  | 0 => false
  | k + 1 => hasN s x k || ((s k).toList == x.toList)
/-- is x in each of the first k factors? -/
def allN (l : Nat → Nat) (s : Nat → Nat → ByteArray) (x : ByteArray) : Nat → Bool
  | 0 => true
  | k + 1 => allN l s x k && hasN (s k) x (l k)
/-- is x in all factors of one of the first k terms? -/
def anyN (m : Nat → Nat) (l : Nat → Nat → Nat) (s : Nat → Nat → Nat → ByteArray) (x : ByteArray) : Nat → Bool
  | 0 => false
  | k + 1 => anyN m l s x k || allN (l k) (s k) x (m k)

theorem hasN_up {s : Nat → ByteArray} {x : ByteArray} {k : Nat} (h : hasN s x k = true) : ∀ n, k ≤ n → hasN s x n = true := by
  intro n
  induction n with
  | zero => intro hk; obtain rfl : k = 0 := (by omega); exact h
  | succ n ih =>
    intro hk
    by_cases e : k = n + 1
    · rw [← e]; exact h
    · unfold hasN; rw [ih (by omega)]; rfl
theorem allN_down {l : Nat → Nat} {s : Nat → Nat → ByteArray} {x : ByteArray} {k : Nat} (h : allN l s x k = false) : ∀ n, k ≤ n → allN l s x n = false := by
  intro n
  induction n with
  | zero => intro hk; obtain rfl : k = 0 := (by omega); exact h
  | succ n ih =>
    intro hk
    by_cases e : k = n + 1
    · rw [← e]; exact h
    · unfold allN; rw [ih (by omega)]; rfl
theorem anyN_up {m : Nat → Nat} {l : Nat → Nat → Nat} {s : Nat → Nat → Nat → ByteArray} {x : ByteArray} {k : Nat} (h : anyN m l s x k = true) : ∀ n, k ≤ n → anyN m l s x n = true := by
  intro n
  induction n with
  | zero => intro hk; obtain rfl : k = 0 := (by omega); exact h
  | succ n ih =>
    intro hk
    by_cases e : k = n + 1
    · rw [← e]; exact h
    · unfold anyN; rw [ih (by omega)]; rfl

theorem ret_bool {a b : Bool} (h : a = b) : Ending.returned (.bool a) = .returned (.bool b) := by rw [h]

/-! ### namesHold -/
set_option maxHeartbeats 400000 in
theorem names_any (a : Option Addr) (n cap : Nat) (s : Nat → ByteArray) (x : ByteArray) (w : World) (hn : n ≤ 4096) (h : S1 0 w (.slice a n cap) n s) :
    Calls Try.prog 42 #[.slice a n cap, .string x] w fun e w' => e = .returned (.bool (hasN s x n)) ∧ w = w' := by
  obtain ⟨a', cap', e, _, hc⟩ := h
  simp only [Value.slice.injEq, true_and] at e
  obtain ⟨rfl, rfl⟩ := e
  have HC := hide hc
  clear hc
  go_enter Try.func42, Try.ntmps42
  go_wp2
  go_loop [9] (fun i => ∃ k : Nat, k ≤ n ∧ i = .int .i64 k ∧ Hid (hasN s x k = false)) (fun i => n - (intOf i).toNat)
  case atStart => exact ⟨0, by omega, rfl, hide rfl⟩
  case round =>
    obtain ⟨k, hk, rfl, HN⟩ := hrel
    by_cases hlt : k < n
    · obtain ⟨b, off, rfl, _, hcell⟩ := HC.out k hlt
      have HS : Hid (hasN s x (k + 1) = (hasN s x k || ((s k).toList == x.toList))) := rfl
      have HU : Hid (hasN s x (k + 1) = true → hasN s x n = true) := hide (fun h => hasN_up h n (by omega))
      generalize s k = y at *
      cases ht : (y.toList == x.toList)
      · have HT := hide ht
        go_wp2
        go_round
        case rel => exact ⟨k + 1, by omega, by go_num, hide (by rw [HS.out, HN.out, HT.out]; rfl)⟩
        case measure => simp [intOf]; omega
      · have HT := hide ht
        go_wp2
        go_ret
        exact ⟨ret_bool (HU.out (by rw [HS.out, HT.out, Bool.or_true])).symm, rfl⟩
    · obtain rfl : k = n := by omega
      go_wp2
      go_ret
      exact ⟨ret_bool HN.out.symm, rfl⟩

/-! ### termsHold -/
set_option maxRecDepth 100000 in
set_option maxHeartbeats 1000000 in
theorem terms_any (a : Option Addr) (n cap : Nat) (m : Nat → Nat) (l : Nat → Nat → Nat) (s : Nat → Nat → Nat → ByteArray) (U : Nat → Nat → Value) (x : ByteArray) (w : World) (hn : n ≤ 4096) (hf : ∀ i, i < n → m i ≤ 4096 ∧ ∀ j, j < m i → l i j ≤ 4096)
    (hT : ∀ i, i < n → ∃ a2 cap2, At 0 w a i (.slice a2 (m i) cap2) ∧ ∀ j, j < m i → At 0 w a2 j (U i j)) (hS : ∀ i j, i < n → j < m i → S1 0 w (U i j) (l i j) (s i j)) :
    Calls Try.prog 16 #[.slice a n cap, .string x] w fun e w' => e = .returned (.bool (anyN m l s x n)) ∧ w = w' := by
  have HT := hide hT
  have HS := hide hS
  have HF := hide hf
  clear hT hS hf
  go_enter Try.func16, Try.ntmps16
  go_wp2
  go_loop [12] (fun i => ∃ k : Nat, k ≤ n ∧ i = .int .i64 k ∧ Hid (anyN m l s x k = false)) (fun i => n - (intOf i).toNat)
  case atStart => exact ⟨0, by omega, rfl, hide rfl⟩
  case round =>
    obtain ⟨k, hk, rfl, HN⟩ := hrel
    by_cases hlt : k < n
    · obtain ⟨a2, cap2, ⟨b, off, rfl, _, hcell⟩, hin⟩ := HT.out k hlt
      have HIN := hide hin
      have hm := (HF.out k hlt).1
      have HA : Hid (anyN m l s x (k + 1) = (anyN m l s x k || allN (l k) (s k) x (m k))) := rfl
      have HU : Hid (anyN m l s x (k + 1) = true → anyN m l s x n = true) := hide (fun h => anyN_up h n (by omega))
      clear hin
      go_wp2
      go_loop [7, 18] (fun al i => ∃ q : Nat, q ≤ m k ∧ i = .int .i64 q ∧ al = .bool true ∧ Hid (allN (l k) (s k) x q = true)) (fun _ i => m k - (intOf i).toNat)
      case atStart => exact ⟨0, by omega, rfl, rfl, hide rfl⟩
      case round =>
        obtain ⟨q, hq, rfl, rfl, HQ⟩ := hrel
        by_cases hlq : q < m k
        · obtain ⟨b2, o2, rfl, _, hc2⟩ := HIN.out q hlq
          obtain ⟨a4, c4, hu4, hm4, hc4⟩ := HS.out k q hlt hlq
          have hs4 : S1 0 w (.slice a4 (l k q) c4) (l k q) (s k q) := ⟨a4, c4, rfl, hm4, hc4⟩
          have hl := (HF.out k hlt).2 q hlq
          rw [hu4] at hc2
          have HB : Hid (allN (l k) (s k) x (q + 1) = (allN (l k) (s k) x q && hasN (s k q) x (l k q))) := rfl
          have HD : Hid (allN (l k) (s k) x (q + 1) = false → allN (l k) (s k) x (m k) = false) := hide (fun h => allN_down h (m k) (by omega))
          clear hu4 hm4 hc4
          go_wp2_with fail
          refine (names_any a4 (l k q) c4 (s k q) x w hl hs4).mono ?_
          rintro e w' ⟨rfl, rfl⟩
          cases hh : hasN (s k q) x (l k q)
          · have HH := hide hh
            clear hh
            go_wp2
            go_round
            case rel => exact ⟨k + 1, by omega, by go_num, hide (by rw [HA.out, HN.out, HD.out (by rw [HB.out, HH.out, Bool.and_false])]; rfl)⟩
            case measure => simp [intOf]; omega
          · have HH := hide hh
            clear hh
            go_wp2
            go_round
            case rel => exact ⟨q + 1, by omega, by go_num, rfl, hide (by rw [HB.out, HQ.out, HH.out]; rfl)⟩
            case measure => simp [intOf]; omega
        · have HQE : Hid (q = m k) := hide (by omega)
          have hge : ¬ (q : Int) < m k := by omega
          go_wp2
          go_ret
          exact ⟨ret_bool (HU.out (by rw [HA.out, ← HQE.out, HQ.out, Bool.or_true])).symm, rfl⟩
    · obtain rfl : k = n := by omega
      go_wp2
      go_ret
      exact ⟨ret_bool HN.out.symm, rfl⟩
end Go.Proofs.Qxb6604686a
