import Derived.Test.Qxb6604686aHolds
namespace Go.Proofs.Qxb6604686a
open Go.RowKit

/-! ### exprHolds: at a set; at an intersection of sets; at a union of terms -/
set_option maxRecDepth 100000 in
set_option maxHeartbeats 400000 in
theorem eh_set (a : Option Addr) (n cap : Nat) (s : Nat → ByteArray) (x : ByteArray) (w : World) (hn : n ≤ 4096) (h : S1 0 w (.slice a n cap) n s) :
    Calls Try.prog 15 #[.agg #[.int .i64 0, .slice a n cap, .string ⟨#[]⟩, .string ⟨#[]⟩, .string ⟨#[]⟩, .slice none 0 0], .string x] w fun e w' => e = .returned (.bool (hasN s x n)) ∧ Below w.heap.size w w' := by
  have hb0 : Below w.heap.size w (w.alloc (.cells #[.int .i64 0, .slice a n cap, .string ⟨#[]⟩, .string ⟨#[]⟩, .string ⟨#[]⟩, .slice none 0 0] 35)) := (Below.refl _ _).alloc (Nat.le_refl _) _
  have C := hide (names_any a n cap s x _ hn (h.kept (fun b _ h => hb0.block b h)))
  clear h
  go_enter Try.func15, Try.ntmps15
  go_wp2_with fail
  refine C.out.mono ?_
  rintro e w' ⟨rfl, rfl⟩
  go_wp2
  go_ret
  exact ⟨rfl, hb0⟩

set_option maxRecDepth 100000 in
set_option maxHeartbeats 1000000 in
theorem eh_inter (a : Option Addr) (n cap : Nat) (U : Nat → Value) (l : Nat → Nat) (s : Nat → Nat → ByteArray) (x : ByteArray) (w : World) (hn : n ≤ 4096) (hf : ∀ j, j < n → l j ≤ 4096)
    (hE : ∀ j, j < n → At6 0 w a j (cells6 0 (U j) (.slice none 0 0))) (hS : ∀ j, j < n → S1 0 w (U j) (l j) (s j)) :
    Calls Try.prog 15 #[.agg #[.int .i64 4, .slice none 0 0, .string ⟨#[]⟩, .string ⟨#[]⟩, .string ⟨#[]⟩, .slice a n cap], .string x] w fun e w' => e = .returned (.bool (allN l s x n)) ∧ Below w.heap.size w w' := by
  have HE := hide hE
  have HS := hide hS
  have HF := hide hf
  clear hE hS hf
  go_enter Try.func15, Try.ntmps15
  go_wp2
  have hb0 : Below w.heap.size w (w.alloc (.cells #[.int .i64 4, .slice none 0 0, .string ⟨#[]⟩, .string ⟨#[]⟩, .string ⟨#[]⟩, .slice a n cap] 35)) := (Below.refl _ _).alloc (Nat.le_refl _) _
  generalize w.alloc (.cells #[.int .i64 4, .slice none 0 0, .string ⟨#[]⟩, .string ⟨#[]⟩, .string ⟨#[]⟩, .slice a n cap] 35) = wb at *
  go_loopw [35] (fun i wr => ∃ k : Nat, k ≤ n ∧ i = .int .i64 k ∧ Hid (allN l s x k = true) ∧ Below w.heap.size w wr) (fun i _ => n - (intOf i).toNat)
  case atStart => exact ⟨0, by omega, rfl, hide rfl, hb0⟩
  case round =>
    obtain ⟨k, hk, rfl, HN, hbel⟩ := hrel
    by_cases hlt : k < n
    · obtain ⟨b, rfl, _, hc⟩ := HE.out k hlt
      obtain ⟨a4, c4, hu4, hm4, hc4⟩ := HS.out k hlt
      rw [hu4] at hc
      have hb := block_lt_of_cell (hc 0 (by omega))
      have kf : ∀ j, wr.cell? ⟨b, j, none⟩ = w.cell? ⟨b, j, none⟩ := fun j => hbel.cell (p := ⟨b, j, none⟩) hb
      have q0 : wr.cell? ⟨b, k * 6, none⟩ = some (.int .i64 0) := (kf _).trans (hc 0 (by omega))
      have q1 : wr.cell? ⟨b, k * 6 + 1, none⟩ = some (.slice a4 (l k) c4) := (kf _).trans (hc 1 (by omega))
      have q2 : wr.cell? ⟨b, k * 6 + 2, none⟩ = some (.string ⟨#[]⟩) := (kf _).trans (hc 2 (by omega))
      have q3 : wr.cell? ⟨b, k * 6 + 3, none⟩ = some (.string ⟨#[]⟩) := (kf _).trans (hc 3 (by omega))
      have q4 : wr.cell? ⟨b, k * 6 + 4, none⟩ = some (.string ⟨#[]⟩) := (kf _).trans (hc 4 (by omega))
      have q5 : wr.cell? ⟨b, k * 6 + 5, none⟩ = some (.slice none 0 0) := (kf _).trans (hc 5 (by omega))
      have hb1 : Below wr.heap.size wr (wr.alloc (.cells #[.int .i64 0, .slice a4 (l k) c4, .string ⟨#[]⟩, .string ⟨#[]⟩, .string ⟨#[]⟩, .slice none 0 0] 35)) := (Below.refl _ _).alloc (Nat.le_refl _) _
      have C := hide (eh_set a4 (l k) c4 (s k) x (wr.alloc (.cells #[.int .i64 0, .slice a4 (l k) c4, .string ⟨#[]⟩, .string ⟨#[]⟩, .string ⟨#[]⟩, .slice none 0 0] 35)) (HF.out k hlt) ((S1.kept (B := 0) ⟨a4, c4, rfl, hm4, hc4⟩ (fun b _ h => hbel.block b h)).kept (fun b _ h => hb1.block b h)))
      have HB : Hid (allN l s x (k + 1) = (allN l s x k && hasN (s k) x (l k))) := rfl
      have HD : Hid (allN l s x (k + 1) = false → allN l s x n = false) := hide (fun h => allN_down h n (by omega))
      clear hu4 hm4 hc4 hc hb kf
      go_wp2_with fail
      refine C.out.mono ?_
      rintro e w2 ⟨rfl, hb2⟩
      have hbn := hbel.trans ((hb1.mono hbel.size).trans (hb2.mono (by have := hbel.size; simp; omega)))
      cases hh : hasN (s k) x (l k)
      · have HH := hide hh
        clear hh
        go_wp2
        go_ret
        exact ⟨ret_bool (HD.out (by rw [HB.out, HH.out, Bool.and_false])).symm, hbn⟩
      · have HH := hide hh
        clear hh
        go_wp2
        go_roundw
        case rel => exact ⟨k + 1, by omega, by go_num, hide (by rw [HB.out, HN.out, HH.out]; rfl), hbn⟩
        case measure => simp [intOf]; omega
    · obtain rfl : k = n := by omega
      go_wp2
      go_ret
      exact ⟨ret_bool HN.out.symm, hbel⟩

/-- at a term: the one factor, or the intersection -/
theorem eh_term (m : Nat → Nat) (l : Nat → Nat → Nat) (s : Nat → Nat → Nat → ByteArray) (U : Nat → Nat → Value) (R : Nat → Value) (i : Nat) (x : ByteArray) (w : World) (hm : m i ≤ 4096) (hf : ∀ j, j < m i → l i j ≤ 4096)
    (hE : E1 0 w (R i) (m i) (U i)) (hS : ∀ j, j < m i → S1 0 w (U i j) (l i j) (s i j)) (kd : Int) (a1 : Option Addr) (l1 c1 : Nat) (a5 : Option Addr) (l5 c5 : Nat) (hc : cells6 kd (.slice a1 l1 c1) (.slice a5 l5 c5) = tc m U R i) :
    Calls Try.prog 15 #[.agg #[.int .i64 kd, .slice a1 l1 c1, .string ⟨#[]⟩, .string ⟨#[]⟩, .string ⟨#[]⟩, .slice a5 l5 c5], .string x] w fun e w' => e = .returned (.bool (allN (l i) (s i) x (m i))) ∧ Below w.heap.size w w' := by
  unfold tc at hc
  by_cases h : m i = 1
  · rw [if_pos h] at hc
    have hu := hS 0 (by omega)
    obtain rfl : kd = 0 := by have e := congrFun hc 0; simpa [cells6] using e
    have e1 : Value.slice a1 l1 c1 = U i 0 := congrFun hc 1
    obtain ⟨rfl, rfl, rfl⟩ : a5 = none ∧ l5 = 0 ∧ c5 = 0 := by have e := congrFun hc 5; simpa [cells6] using e
    rw [← e1] at hu
    obtain ⟨a', c', e2, hn', hc'⟩ := hu
    simp only [Value.slice.injEq] at e2
    obtain ⟨rfl, rfl, rfl⟩ := e2
    refine (eh_set a1 (l i 0) c1 (s i 0) x w (hf 0 (by omega)) ⟨a1, c1, rfl, hn', hc'⟩).mono fun e w' hh => ⟨hh.1.trans ?_, hh.2⟩
    rw [h]
    rfl
  · rw [if_neg h] at hc
    obtain rfl : kd = 4 := by have e := congrFun hc 0; simpa [cells6] using e
    have e5 : Value.slice a5 l5 c5 = R i := congrFun hc 5
    obtain ⟨rfl, rfl, rfl⟩ : a1 = none ∧ l1 = 0 ∧ c1 = 0 := by have e := congrFun hc 1; simpa [cells6] using e
    rw [← e5] at hE
    obtain ⟨a', c', e2, _, hE'⟩ := hE
    simp only [Value.slice.injEq] at e2
    obtain ⟨rfl, rfl, rfl⟩ := e2
    exact eh_inter a5 (m i) c5 (U i) (l i) (s i) x w hm hf hE' hS

set_option maxRecDepth 100000 in
set_option maxHeartbeats 1000000 in
theorem eh_union (a1 : Option Addr) (l1 c1 : Nat) (a : Option Addr) (n cap : Nat) (m : Nat → Nat) (l : Nat → Nat → Nat) (s : Nat → Nat → Nat → ByteArray) (U : Nat → Nat → Value) (R : Nat → Value) (x : ByteArray) (w : World) (hn : n ≤ 4096) (hf : ∀ i, i < n → m i ≤ 4096 ∧ ∀ j, j < m i → l i j ≤ 4096)
    (hA : ∀ i, i < n → At6 0 w a i (tc m U R i)) (hE : ∀ i, i < n → E1 0 w (R i) (m i) (U i)) (hS : ∀ i j, i < n → j < m i → S1 0 w (U i j) (l i j) (s i j)) :
    Calls Try.prog 15 #[.agg #[.int .i64 3, .slice a1 l1 c1, .string ⟨#[]⟩, .string ⟨#[]⟩, .string ⟨#[]⟩, .slice a n cap], .string x] w fun e w' => e = .returned (.bool (anyN m l s x n)) ∧ Below w.heap.size w w' := by
  have HA := hide hA
  have HE := hide hE
  have HS := hide hS
  have HF := hide hf
  clear hA hE hS hf
  go_enter Try.func15, Try.ntmps15
  go_wp2
  have hb0 : Below w.heap.size w (w.alloc (.cells #[.int .i64 3, .slice a1 l1 c1, .string ⟨#[]⟩, .string ⟨#[]⟩, .string ⟨#[]⟩, .slice a n cap] 35)) := (Below.refl _ _).alloc (Nat.le_refl _) _
  generalize w.alloc (.cells #[.int .i64 3, .slice a1 l1 c1, .string ⟨#[]⟩, .string ⟨#[]⟩, .string ⟨#[]⟩, .slice a n cap] 35) = wb at *
  go_loopw [22] (fun i wr => ∃ k : Nat, k ≤ n ∧ i = .int .i64 k ∧ Hid (anyN m l s x k = false) ∧ Below w.heap.size w wr) (fun i _ => n - (intOf i).toNat)
  case atStart => exact ⟨0, by omega, rfl, hide rfl, hb0⟩
  case round =>
    obtain ⟨k, hk, rfl, HN, hbel⟩ := hrel
    by_cases hlt : k < n
    · obtain ⟨b, rfl, _, hc⟩ := HA.out k hlt
      obtain ⟨kd, a3, l3, c3, a5, l5, c5, ht⟩ := tc_shape (m := m) (U := U) (R := R) (i := k) (fun h1 => by obtain ⟨a, c, e, _⟩ := HS.out k 0 hlt (by omega); exact ⟨a, _, c, e⟩) (by obtain ⟨a2, c2, e, _⟩ := HE.out k hlt; exact ⟨_, _, _, e⟩)
      have hb := block_lt_of_cell (hc 0 (by omega))
      rw [ht] at hc
      have kf : ∀ j, wr.cell? ⟨b, j, none⟩ = w.cell? ⟨b, j, none⟩ := fun j => hbel.cell (p := ⟨b, j, none⟩) hb
      have q0 : wr.cell? ⟨b, k * 6, none⟩ = some (.int .i64 kd) := (kf _).trans (hc 0 (by omega))
      have q1 : wr.cell? ⟨b, k * 6 + 1, none⟩ = some (.slice a3 l3 c3) := (kf _).trans (hc 1 (by omega))
      have q2 : wr.cell? ⟨b, k * 6 + 2, none⟩ = some (.string ⟨#[]⟩) := (kf _).trans (hc 2 (by omega))
      have q3 : wr.cell? ⟨b, k * 6 + 3, none⟩ = some (.string ⟨#[]⟩) := (kf _).trans (hc 3 (by omega))
      have q4 : wr.cell? ⟨b, k * 6 + 4, none⟩ = some (.string ⟨#[]⟩) := (kf _).trans (hc 4 (by omega))
      have q5 : wr.cell? ⟨b, k * 6 + 5, none⟩ = some (.slice a5 l5 c5) := (kf _).trans (hc 5 (by omega))
      have hb1 : Below wr.heap.size wr (wr.alloc (.cells #[.int .i64 kd, .slice a3 l3 c3, .string ⟨#[]⟩, .string ⟨#[]⟩, .string ⟨#[]⟩, .slice a5 l5 c5] 35)) := (Below.refl _ _).alloc (Nat.le_refl _) _
      have C := hide (eh_term m l s U R k x (wr.alloc (.cells #[.int .i64 kd, .slice a3 l3 c3, .string ⟨#[]⟩, .string ⟨#[]⟩, .string ⟨#[]⟩, .slice a5 l5 c5] 35)) (HF.out k hlt).1 (HF.out k hlt).2
        (((HE.out k hlt).kept (fun b _ h => hbel.block b h)).kept (fun b _ h => hb1.block b h)) (fun j hj => ((HS.out k j hlt hj).kept (fun b _ h => hbel.block b h)).kept (fun b _ h => hb1.block b h)) kd a3 l3 c3 a5 l5 c5 ht.symm)
      have HB : Hid (anyN m l s x (k + 1) = (anyN m l s x k || allN (l k) (s k) x (m k))) := rfl
      have HD : Hid (anyN m l s x (k + 1) = true → anyN m l s x n = true) := hide (fun h => anyN_up h n (by omega))
      clear hc hb kf ht
      go_wp2_with fail
      refine C.out.mono ?_
      rintro e w2 ⟨rfl, hb2⟩
      have hbn := hbel.trans ((hb1.mono hbel.size).trans (hb2.mono (by have := hbel.size; simp; omega)))
      cases hh : allN (l k) (s k) x (m k)
      · have HH := hide hh
        clear hh
        go_wp2
        go_roundw
        case rel => exact ⟨k + 1, by omega, by go_num, hide (by rw [HB.out, HN.out, HH.out]; rfl), hbn⟩
        case measure => simp [intOf]; omega
      · have HH := hide hh
        clear hh
        go_wp2
        go_ret
        exact ⟨ret_bool (HD.out (by rw [HB.out, HH.out, Bool.or_true])).symm, hbn⟩
    · obtain rfl : k = n := by omega
      go_wp2
      go_ret
      exact ⟨ret_bool HN.out.symm, hbel⟩

/-- at the whole expression -/
theorem eh_top (n : Nat) (m : Nat → Nat) (l : Nat → Nat → Nat) (s : Nat → Nat → Nat → ByteArray) (U : Nat → Nat → Value) (R : Nat → Value) (x : ByteArray) (w : World) (hn : n ≤ 4096) (hf : ∀ i, i < n → m i ≤ 4096 ∧ ∀ j, j < m i → l i j ≤ 4096)
    (hE : ∀ i, i < n → E1 0 w (R i) (m i) (U i)) (hS : ∀ i j, i < n → j < m i → S1 0 w (U i j) (l i j) (s i j)) (kd : Int) (a1 : Option Addr) (l1 c1 : Nat) (a5 : Option Addr) (l5 c5 : Nat) (htop : Top 0 w n (tc m U R) (cells6 kd (.slice a1 l1 c1) (.slice a5 l5 c5))) :
    Calls Try.prog 15 #[.agg #[.int .i64 kd, .slice a1 l1 c1, .string ⟨#[]⟩, .string ⟨#[]⟩, .string ⟨#[]⟩, .slice a5 l5 c5], .string x] w fun e w' => e = .returned (.bool (anyN m l s x n)) ∧ Below w.heap.size w w' := by
  rcases htop with ⟨rfl, hc⟩ | ⟨_, ao, cp, hc, ha⟩
  · refine (eh_term m l s U R 0 x w (hf 0 (by omega)).1 (hf 0 (by omega)).2 (hE 0 (by omega)) (fun j hj => hS 0 j (by omega) hj) kd a1 l1 c1 a5 l5 c5 hc).mono fun e w' hh => ⟨hh.1.trans ?_, hh.2⟩
    rfl
  · obtain rfl : kd = 3 := by have e := congrFun hc 0; simpa [cells6] using e
    obtain ⟨rfl, rfl, rfl⟩ : a5 = ao ∧ l5 = n ∧ c5 = cp := by have e := congrFun hc 5; simpa [cells6] using e
    exact eh_union a1 l1 c1 a5 l5 c5 m l s U R x w hn hf ha hE hS
end Go.Proofs.Qxb6604686a
