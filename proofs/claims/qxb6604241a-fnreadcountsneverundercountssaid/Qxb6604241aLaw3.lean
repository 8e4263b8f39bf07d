import Derived.Test.Qxb6604241aLaw2
namespace Go.Proofs.Qxb6604241a
open Go.RowKit

theorem info23 : (Try.prog.info? 23).map (fun i => (i.zero, i.size, i.bytes)) = some (some (.int .u64 0), 1, 8) := by kernel_rfl

/-- block b is a row of n words, the i-th 'c i' -/
abbrev Wds (w : World) (b n : Nat) (c : Nat → Int) : Prop := w.rowIs b 23 n (fun i => .int .u64 (c i))

set_option maxHeartbeats 800000 in
theorem clonew_any (b off n cap : Nat) (c : Nat → Int) (w : World) (hn : n ≤ 4096) (hb : b < w.heap.size) (hc : ∀ i, i < n → w.cell? ⟨b, off + i, none⟩ = some (.int .u64 (c i))) :
    Calls Try.prog 17 #[.slice (some ⟨b, off, none⟩) n cap] w fun e w' => e = .returned (.slice (some ⟨w.heap.size, 0, none⟩) n n) ∧ Wds w' w.heap.size n c ∧ Below w.heap.size w w' := by
  have hmk := run_make_row' (P := Try.prog) 35 23 (.int .u64 0) 8 Try.underlying35 info23 rfl .i64 .i64 n (by omega) (by omega)
  have hnil := fun w => Lib.run_eql_slice_nil (P := Try.prog) w 35 23 (some ⟨b, off, none⟩) n cap 0 0 Try.underlying35
  go_enter Try.func17, Try.ntmps17
  go_wp2
  go_loopw [4] (fun i wr => ∃ k : Nat, k ≤ n ∧ i = .int .i64 k ∧ Wds wr w.heap.size n (fun j => if j < k then c j else 0) ∧ Below w.heap.size w wr) (fun i _ => n - (intOf i).toNat)
  case atStart => exact ⟨0, by omega, rfl, (World.rowIs_made w _ n 23).congr (by intro i _; simp), (Below.refl _ _).alloc (Nat.le_refl _) _⟩
  case round =>
    obtain ⟨k, hk, rfl, ht, hbel⟩ := hrel
    clear hmk hnil
    by_cases hlt : k < n
    · have h1 : wr.cell? ⟨b, off + k, none⟩ = some (.int .u64 (c k)) := (hbel.cell hb).trans (hc k hlt)
      have h2 := ht.cell hlt
      have h3 := ht.frozen k
      simp only [Nat.lt_irrefl, if_false] at h2
      have R : Wds (wr.setCell ⟨w.heap.size, k, none⟩ (.int .u64 (c k))) w.heap.size n (fun j => if j < k + 1 then c j else 0) := by
        refine (ht.set k (.int .u64 (c k))).congr ?_
        intro i hi
        by_cases e : i = k
        · subst e; simp
        · by_cases e2 : i < k
          · simp [e, e2, show i < k + 1 by omega]
          · simp [e, e2, show ¬ i < k + 1 by omega]
      have R2 := hbel.setCell (p := ⟨w.heap.size, k, none⟩) (Nat.le_refl _) (.int .u64 (c k))
      clear ht hbel hc
      go_wp2
      go_roundw
      case rel => exact ⟨k + 1, by omega, by go_num, R, R2⟩
      case measure => simp [intOf]; omega
    · obtain rfl : k = n := by omega
      go_wp2
      go_ret
      exact ⟨rfl, ht.congr (by intro i hi; simp [hi]), hbel⟩

set_option maxHeartbeats 400000 in
theorem zz16_yes (a : Option Addr) (n cap : Nat) (t : Int) (w : World) (_h : n ≤ 1048576) :
    Calls Try.prog 16 #[.int .u8 t, .slice a n cap] w fun e w' => e = .returned (.bool true) ∧ w = w' := by
  go_enter Try.func16, Try.ntmps16
  go_wp2
  go_ret
  exact ⟨rfl, rfl⟩

set_option maxHeartbeats 400000 in
theorem zz16_no (a : Option Addr) (n cap : Nat) (t : Int) (w : World) (_h : 1048576 < n) :
    Calls Try.prog 16 #[.int .u8 t, .slice a n cap] w fun e w' => e = .returned (.bool false) ∧ w = w' := by
  go_enter Try.func16, Try.ntmps16
  go_wp2
  go_ret
  exact ⟨rfl, rfl⟩

set_option maxHeartbeats 400000 in
theorem law3_huge (a : Option Addr) (n cap : Nat) (t : Int) (w : World) (hn : 1048576 < n) :
    Calls Try.prog 6 #[.int .u8 t, .slice a n cap] w fun e w' => e = .returned (.bool true) ∧ Below w.heap.size w w' := by
  go_enter Try.func6, Try.ntmps6
  go_wp2_with (go_at_call 16; refine (zz16_no _ _ _ _ _ hn).mono ?_; rintro e w1 ⟨rfl, rfl⟩)
  go_ret
  exact ⟨rfl, Below.refl _ _⟩

set_option maxHeartbeats 400000 in
theorem law3_big (a : Option Addr) (n cap : Nat) (t : Int) (w : World) (hn : n ≤ 1048576) (_h2 : 4096 < n) :
    Calls Try.prog 6 #[.int .u8 t, .slice a n cap] w fun e w' => e = .returned (.bool true) ∧ Below w.heap.size w w' := by
  go_enter Try.func6, Try.ntmps6
  go_wp2_with (go_at_call 16; refine (zz16_yes _ _ _ _ _ hn).mono ?_; rintro e w1 ⟨rfl, rfl⟩)
  go_ret
  exact ⟨rfl, Below.refl _ _⟩

set_option maxHeartbeats 400000 in
theorem law3_log (a : Option Addr) (n cap : Nat) (t : Int) (w : World) (hn : n ≤ 4096) (_h2 : 16 < t) :
    Calls Try.prog 6 #[.int .u8 t, .slice a n cap] w fun e w' => e = .returned (.bool true) ∧ Below w.heap.size w w' := by
  go_enter Try.func6, Try.ntmps6
  go_wp2_with (go_at_call 16; refine (zz16_yes _ _ _ _ _ (by omega)).mono ?_; rintro e w1 ⟨rfl, rfl⟩)
  go_ret
  exact ⟨rfl, Below.refl _ _⟩

/-- the table behind the first k reads -/
def tabs (c : Nat → Int) (mask : Int) : Nat → Nat → Int
  | 0 => fun _ => 0
  | k + 1 => bumps (tabs c mask k) (sl (c k) mask) 4

/-- how often x is among the first k -/
def occ (c : Nat → Int) (x : Int) : Nat → Nat
  | 0 => 0
  | k + 1 => occ c x k + if c k = x then 1 else 0

theorem occ_le (c : Nat → Int) (x : Int) (k : Nat) : occ c x k ≤ k := by
  induction k with
  | zero => simp [occ]
  | succ k ih =>
    unfold occ
    by_cases e : c k = x
    · rw [if_pos e]; omega
    · rw [if_neg e]; omega

theorem tabs_bd (c : Nat → Int) (mask : Int) (k : Nat) : ∀ i, 0 ≤ tabs c mask k i ∧ tabs c mask k i ≤ 255 := by
  induction k with
  | zero => intro i; simp [tabs]
  | succ k ih => exact bumps_bd _ _ ih 4

/-- THE LAW OF THE THIRD STATEMENT: no run's estimate is below min(15, how often it was read). -/
theorem never_under (c : Nat → Int) (mask x : Int) (k : Nat) : capA (occ c x k) 15 ≤ est (tabs c mask k) (sl x mask) 4 := by
  induction k with
  | zero =>
    have := est_nn (tabs c mask 0) (sl x mask) (fun i => (tabs_bd c mask 0 i).1) 4
    unfold occ capA
    rw [if_neg (by simp)]
    simpa using this
  | succ k ih =>
    unfold tabs occ
    by_cases e : c k = x
    · rw [if_pos e, e]
      have h := raises_lo (tabs c mask k) (sl x mask)
      refine Int.le_trans ?_ h
      unfold capA at ih ⊢
      by_cases f : 15 < (occ c x k : Int)
      · rw [if_pos f] at ih
        rw [if_pos (by omega), if_pos (by omega)]; omega
      · rw [if_neg f] at ih
        by_cases g : 15 < ((occ c x k + 1 : Nat) : Int)
        · rw [if_pos g, if_pos (by omega)]; omega
        · rw [if_neg g]
          by_cases h2 : 15 < est (tabs c mask k) (sl x mask) 4 + 1
          · rw [if_pos h2]; omega
          · rw [if_neg h2]; omega
    · rw [if_neg e]
      exact Int.le_trans ih (est_mono _ _ _ (fun i => bumps_ge _ _ i 4) 4)

theorem pow_bd (t : Nat) (ht : t ≤ 16) : ∃ S : Nat, 1 ≤ S ∧ S ≤ 65536 ∧ wrap64 ((2 : Int) ^ t) = S := by
  have h1 : 2 ^ t ≤ 2 ^ 16 := Nat.pow_le_pow_right (by omega) ht
  have h2 : 0 < 2 ^ t := Nat.pow_pos (by omega)
  refine ⟨2 ^ t, h2, h1, ?_⟩
  have e : (2 : Int) ^ t = ((2 ^ t : Nat) : Int) := by simp
  rw [e]
  generalize 2 ^ t = x at *
  exact IntWalk.wrap64_in _ ⟨by omega, by omega⟩

set_option maxHeartbeats 1000000 in
theorem law3_main (b off n cap : Nat) (c : Nat → Int) (t : Nat) (w : World) (hn0 : 0 < n) (hn : n ≤ 4096) (ht : t ≤ 16) (hb : b < w.heap.size) (hc : ∀ i, i < n → w.cell? ⟨b, off + i, none⟩ = some (.int .u64 (c i))) (hcb : ∀ i, 0 ≤ c i ∧ c i ≤ 18446744073709551615) :
    Calls Try.prog 6 #[.int .u8 t, .slice (some ⟨b, off, none⟩) n cap] w fun e w' => e = .returned (.bool true) ∧ Below w.heap.size w w' := by
  have d1 : decide ((4096 : Int) < (n : Int)) = false := by simp; omega
  have d2 : decide ((16 : Int) < (t : Int)) = false := by simp; omega
  obtain ⟨S, hS1, hS2, hp⟩ := pow_bd t ht
  have hmk := run_make_row' (P := Try.prog) 22 5 (.int .u8 0) 1 Try.underlying22 info5 rfl .i64 .i64 S (by omega) (by omega)
  go_enter Try.func6, Try.ntmps6
  go_wp2_with (go_at_call 16; refine (zz16_yes _ _ _ _ _ (by omega)).mono ?_; rintro e w1 ⟨rfl, rfl⟩)
  refine (clonew_any b off n cap c w hn hb hc).mono ?_
  rintro e w1 ⟨rfl, ht1, hb1⟩
  go_wp2_with fail
  clear hmk hp hc
  have ht1' := ht1.lt
  have htM := World.rowIs_made w1 (.int .u8 0) S 5
  have hsM : (w1.alloc (.cells (madeCells #[.int .u8 0] S) 5)).heap.size = w1.heap.size + 1 := by simp
  have htW := ht1.alloc (.cells (madeCells #[.int .u8 0] S) 5)
  have hbM : Below w.heap.size w (w1.alloc (.cells (madeCells #[.int .u8 0] S) 5)) := hb1.alloc (by omega) _
  generalize w1.alloc (.cells (madeCells #[.int .u8 0] S) 5) = W at *
  go_loopw [7, 8, 9] (fun v rd i wr => ∃ k : Nat, k ≤ n ∧ i = .int .i64 k ∧ rd = .int .i64 k ∧ v = .slice (some ⟨w1.heap.size, 0, none⟩) S S ∧ Tab wr w1.heap.size S (tabs c ((S : Int) - 1) k) ∧ Only (fun j => j = w1.heap.size) W wr) (fun _ _ i _ => n - (intOf i).toNat)
  case atStart => exact ⟨0, by omega, rfl, rfl, rfl, htM, Only.refl _ _⟩
  case round =>
    obtain ⟨k, hk, rfl, rfl, rfl, htr, hon⟩ := hrel
    have hwr : Wds wr w.heap.size n c := htW.of_block (hon.block _ (by omega) (by omega))
    have hsz := hon.size
    by_cases hlt : k < n
    · have hid := hcb k
      have gk := hwr.cell hlt
      have hne : (wrap64 ((k : Int) + 1) == 0) = false := by rw [IntWalk.wrap64_in _ ⟨by omega, by omega⟩]; simp; omega
      have HT : Hid (tabs c ((S : Int) - 1) (k + 1) = bumps (tabs c ((S : Int) - 1) k) (sl (c k) ((S : Int) - 1)) 4) := rfl
      have htb := tabs_bd c ((S : Int) - 1) k
      have hw1 : wrap64 ((k : Int) + 1) = (k : Int) + 1 := IntWalk.wrap64_in _ ⟨by omega, by omega⟩
      go_wp2_with fail
      refine (zadd_any w1.heap.size S (c k) ((S : Int) - 1) k 0 _ wr (by omega) hid.1 hid.2 (by omega) (by omega) htr htb hne).mono ?_
      rintro e w4 ⟨rfl, ht4, ho4⟩
      rw [hw1]
      clear htb hw1 hne hcb hid
      go_wp2
      go_roundw
      case rel => exact ⟨k + 1, by omega, by go_num, by go_num, rfl, by rw [HT.out]; exact ht4, hon.trans ho4⟩
      case measure => simp [intOf]; omega
    · obtain rfl : k = n := by omega
      have hnu := fun x => never_under c ((S : Int) - 1) x k
      have hee := fun x => (est_le (tabs c ((S : Int) - 1) k) (sl x ((S : Int) - 1)) 4).1
      have hnn := fun x => est_nn (tabs c ((S : Int) - 1) k) (sl x ((S : Int) - 1)) (fun i => (tabs_bd c ((S : Int) - 1) k i).1) 4
      generalize tabs c ((S : Int) - 1) k = d at *
      have hnu' : ∀ x, capA (occ c x k) 15 ≤ est d (sl x ((S : Int) - 1)) 4 := hnu
      have HN := hide hnu
      have HE := hide hee
      have HNN := hide hnn
      have HCB := hide hcb
      clear hnu hnu' hee hnn hcb
      go_wp2
      obtain ⟨wo, hwo⟩ : ∃ wo : World, wo = wr := ⟨_, rfl⟩
      subst hwo
      go_loopw [14] (fun i wr => ∃ m : Nat, m ≤ k ∧ i = .int .i64 m ∧ Below wo.heap.size wo wr) (fun i _ => k - (intOf i).toNat)
      case atStart => exact ⟨0, by omega, rfl, Below.refl _ _⟩
      case round =>
        obtain ⟨m, hm, rfl, hbel⟩ := hrel
        by_cases hmk : m < k
        · have hid := HCB.out m
          have hw2 : Wds wr w.heap.size k c := hwr.of_block (hbel.block _ (by omega))
          have hsz2 := hbel.size
          go_wp2
          obtain ⟨wp, hwp⟩ : ∃ wp : World, wp = wr := ⟨_, rfl⟩
          subst hwp
          have gm := hw2.cell hmk
          go_loopw [15, 16] (fun t j wr => ∃ q : Nat, q ≤ k ∧ j = .int .i64 q ∧ t = .int .i64 (occ c (c m) q) ∧ Below wp.heap.size wp wr) (fun _ j _ => k - (intOf j).toNat)
          case atStart => exact ⟨0, by omega, rfl, rfl, Below.refl _ _⟩
          case round =>
            obtain ⟨q, hq, rfl, rfl, hbel2⟩ := hrel
            have hoc := occ_le c (c m) q
            have hw3 : Wds wr w.heap.size k c := hw2.of_block (hbel2.block _ (by omega))
            by_cases hqk : q < k
            · have g1 := hw3.cell hqk
              have g2 := hw3.cell hmk
              have HO : Hid (occ c (c m) (q + 1) = occ c (c m) q + if c q = c m then 1 else 0) := rfl
              have hmk' : (m : Int) < k := by omega
              have hqk' : (q : Int) < k := by omega
              generalize occ c (c m) q = o at *
              generalize c q = x at *
              generalize c m = y at *
              clear hw3 hw2 hwr htr hon gm
              by_cases e : x = y
              · have e1 : (x == y) = true := by simp [e]
                have E := hide e
                clear e
                go_wp2
                go_region
                go_wp2
                go_roundw
                case rel => exact ⟨q + 1, by omega, by go_num, by rw [HO.out, if_pos E.out]; go_num, hbel2.drew⟩
                case measure => simp [intOf]; omega
              · have e1 : (x == y) = false := by simp [e]
                have E := hide e
                clear e
                go_wp2
                go_region
                go_wp2
                go_roundw
                case rel => exact ⟨q + 1, by omega, by go_num, by rw [HO.out, if_neg E.out]; go_num, hbel2.drew⟩
                case measure => simp [intOf]; omega
            · obtain rfl : q = k := by omega
              have g2 := hw3.cell hmk
              have hmk' : (m : Int) < q := by omega
              have htr3 : Tab wr w1.heap.size S d := htr.of_block ((hbel2.block _ (by omega)).trans (hbel.block _ (by omega)))
              have hsz3 := hbel2.size
              have a1 := HN.out (c m)
              have a2 := HE.out (c m)
              have a3 := HNN.out (c m)
              go_wp2_with fail
              refine (zest_any w1.heap.size S (c m) ((S : Int) - 1) d wr (by omega) hid.1 hid.2 (by omega) (by omega) htr3).mono ?_
              rintro e w5 ⟨rfl, hb5⟩
              generalize est d (sl (c m) ((S : Int) - 1)) 4 = A at *
              go_wp2_with fail
              refine (cap_any _ _ _).mono ?_
              rintro e w6 ⟨rfl, rfl⟩
              generalize capA (occ c (c m) q) 15 = L at *
              have k1 : decide (A < L) = false := by simp; omega
              have k2 : decide (15 < A) = false := by simp; omega
              clear hw3 hw2 hwr htr hon gm
              go_wp2
              go_roundw
              case rel => exact ⟨m + 1, by omega, by go_num, (hbel.trans (hbel2.mono (by omega))).trans (hb5.mono (by omega))⟩
              case measure => simp [intOf]; omega
        · obtain rfl : m = k := by omega
          go_wp2
          go_ret
          exact ⟨rfl, (hbM.trans (hon.toBelow (by omega) (fun k hk e => by omega))).trans (hbel.mono (by omega))⟩

/-! ### no reads at all: ids is nil, or empty -/
set_option maxHeartbeats 400000 in
theorem clonew_nil (w : World) : Calls Try.prog 17 #[.slice none 0 0] w fun e w' => e = .returned (.slice none 0 0) ∧ w = w' := by
  have hnil := fun w => Lib.run_eql_slice_nil (P := Try.prog) w 35 23 none 0 0 0 0 Try.underlying35
  go_enter Try.func17, Try.ntmps17
  go_wp2
  go_ret
  exact ⟨rfl, rfl⟩

set_option maxHeartbeats 400000 in
theorem clonew_empty (x : Addr) (cap : Nat) (w : World) : Calls Try.prog 17 #[.slice (some x) 0 cap] w fun e w' => e = .returned (.slice (some ⟨w.heap.size, 0, none⟩) 0 0) ∧ Below w.heap.size w w' := by
  have hmk : ∀ w : World, (Instr.makeSlice 35 (.int .i64 0) (.int .i64 0)).run Try.prog w = .ok (.slice (some ⟨w.heap.size, 0, none⟩) 0 0) (w.alloc (.cells (madeCells #[.int .u64 0] 0) 23)) := run_make_row' (P := Try.prog) 35 23 (.int .u64 0) 8 Try.underlying35 info23 rfl .i64 .i64 0 (by omega) (by omega)
  have hnil := fun w => Lib.run_eql_slice_nil (P := Try.prog) w 35 23 (some x) 0 cap 0 0 Try.underlying35
  go_enter Try.func17, Try.ntmps17
  go_wp2
  refine wp_loop_rounds 1 ?_
  rw [rounds_succ]
  go_wp2
  go_ret
  exact ⟨rfl, (Below.refl _ _).alloc (Nat.le_refl _) _⟩

set_option maxHeartbeats 1000000 in
theorem law3_empty (a : Option Addr) (cap : Nat) (t : Nat) (w : World) (ht : t ≤ 16) (ha : a = none → cap = 0) :
    Calls Try.prog 6 #[.int .u8 t, .slice a 0 cap] w fun e w' => e = .returned (.bool true) ∧ Below w.heap.size w w' := by
  have d2 : decide ((16 : Int) < (t : Int)) = false := by simp; omega
  obtain ⟨S, hS1, hS2, hp⟩ := pow_bd t ht
  have hmk := run_make_row' (P := Try.prog) 22 5 (.int .u8 0) 1 Try.underlying22 info5 rfl .i64 .i64 S (by omega) (by omega)
  have hcl : ∀ w, Calls Try.prog 17 #[.slice a 0 cap] w fun e w' => (∃ a', e = .returned (.slice a' 0 0)) ∧ Below w.heap.size w w' := by
    intro w
    cases a with
    | none =>
      obtain rfl := ha rfl
      exact (clonew_nil w).mono fun e w' h => ⟨⟨none, h.1⟩, h.2 ▸ Below.refl _ _⟩
    | some x => exact (clonew_empty x cap w).mono fun e w' h => ⟨⟨_, h.1⟩, h.2⟩
  have HC := hide hcl
  clear hcl ha
  go_enter Try.func6, Try.ntmps6
  go_wp2_with (go_at_call 16; refine (zz16_yes _ _ _ _ _ (by omega)).mono ?_; rintro e w1 ⟨rfl, rfl⟩)
  refine (HC.out w).mono ?_
  rintro e w1 ⟨⟨a', rfl⟩, hb1⟩
  go_wp2_with fail
  refine wp_loop_rounds 1 ?_
  rw [rounds_succ]
  go_wp2
  refine wp_loop_rounds 1 ?_
  rw [rounds_succ]
  go_wp2
  go_ret
  exact ⟨rfl, hb1.alloc hb1.size _⟩
end Go.Proofs.Qxb6604241a
