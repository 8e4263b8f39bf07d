import Derived.Test.Qxb6604241aPlain
namespace Go.Proofs.Qxb6604241a
open Go.RowKit

/-- From w to w': no block has gone, and of those that were there only blocks in S may have turned. -/
structure Only (S : Nat → Prop) (w w' : World) : Prop where
  os : w'.os = w.os
  tape : w'.tape = w.tape
  output : w'.output = w.output
  size : w.heap.size ≤ w'.heap.size
  block : ∀ k, k < w.heap.size → ¬ S k → w'.heap[k]? = w.heap[k]?

theorem Only.refl (S : Nat → Prop) (w : World) : Only S w w := ⟨rfl, rfl, rfl, Nat.le_refl _, fun _ _ _ => rfl⟩
theorem Only.trans {S : Nat → Prop} {a b c : World} (h : Only S a b) (k : Only S b c) : Only S a c :=
  ⟨k.os.trans h.os, k.tape.trans h.tape, k.output.trans h.output, Nat.le_trans h.size k.size, fun i hi hs => (k.block i (Nat.lt_of_lt_of_le hi h.size) hs).trans (h.block i hi hs)⟩
theorem Only.mono {S T : Nat → Prop} {w w' : World} (h : Only S w w') (hs : ∀ k, k < w.heap.size → S k → T k) : Only T w w' := ⟨h.os, h.tape, h.output, h.size, fun k hk ht => h.block k hk (fun s => ht (hs k hk s))⟩
theorem Only.drew {S : Nat → Prop} {a w : World} (h : Only S a w) : Only S a w.drew := ⟨h.os, h.tape, h.output, h.size, h.block⟩
theorem Only.alloc {S : Nat → Prop} {a w : World} (h : Only S a w) (o : Obj) : Only S a (w.alloc o) :=
  h.trans ⟨rfl, rfl, rfl, by simp, fun k hk _ => Below.heap_alloc _ _ _ hk⟩
theorem Only.setCell {S : Nat → Prop} {a w : World} (h : Only S a w) {p : Addr} (hp : S p.block) (u : Value) : Only S a (w.setCell p u) :=
  h.trans ⟨rfl, rfl, rfl, by simp [World.setCell], fun k _ hs => Below.heap_setCell _ _ _ _ (fun e => hs (e ▸ hp))⟩
theorem Only.below {S : Nat → Prop} {a w : World} (h : Below a.heap.size a w) : Only S a w := ⟨h.os, h.tape, h.output, h.size, fun k hk _ => h.block k hk⟩
theorem Only.toBelow {S : Nat → Prop} {a w : World} (h : Only S a w) {B : Nat} (hB : B ≤ a.heap.size) (hS : ∀ k, k < B → ¬ S k) : Below B a w := ⟨h.os, h.tape, h.output, h.size, fun k hk => h.block k (Nat.lt_of_lt_of_le hk hB) (hS k hk)⟩

/-- one probe's count -/
def bump (c : Nat → Int) (p : Nat) : Nat → Int := fun j => if j = p then (if c p < 15 then c p + 1 else c p) else c j
def bumps (c : Nat → Int) (s : Nat → Nat) : Nat → Nat → Int
  | 0 => c
  | k + 1 => bump (bumps c s k) (s k)
def halved (c : Nat → Int) : Nat → Int := fun j => c j / 2

theorem bumps_bd (c : Nat → Int) (s : Nat → Nat) (h : ∀ i, 0 ≤ c i ∧ c i ≤ 255) (k : Nat) : ∀ i, 0 ≤ bumps c s k i ∧ bumps c s k i ≤ 255 := by
  induction k with
  | zero => exact h
  | succ k ih =>
    intro i
    unfold bumps bump
    have a := ih i
    have b := ih (s k)
    by_cases e : i = s k
    · rw [if_pos e]
      by_cases f : bumps c s k (s k) < 15
      · rw [if_pos f]; omega
      · rw [if_neg f]; omega
    · rw [if_neg e]; omega

theorem row_of_block {w : World} {r : Nat} {cs : Array Value} {t : TypeId} (h : w.heap[r]? = some (.cells cs t (0, 0))) (j : Nat) : w.cell? ⟨r, j, none⟩ = cs[j]? := cell_of_row w r j cs t (0, 0) h

theorem tab_bump {w : World} {b n : Nat} {d : Nat → Int} {s : Nat} (h : Tab w b n d) (hv : d s < 15) : Tab (w.setCell ⟨b, s, none⟩ (.int .u8 (d s + 1))) b n (bump d s) := by
  refine (h.set s _).congr fun i _ => ?_
  unfold bump
  by_cases e : i = s
  · rw [if_pos e, if_pos e, if_pos hv]
  · rw [if_neg e, if_neg e]

theorem tab_keep {w : World} {b n : Nat} {d : Nat → Int} {s : Nat} (h : Tab w b n d) (hv : ¬ d s < 15) : Tab w b n (bump d s) := by
  refine h.congr fun i _ => ?_
  unfold bump
  by_cases e : i = s
  · rw [if_pos e, if_neg hv, e]
  · rw [if_neg e]

set_option maxHeartbeats 1000000 in
theorem add_any (r b n : Nat) (id mask rd ha : Int) (c : Nat → Int) (w : World) (hn : n ≤ 1048576) (h0 : 0 ≤ id) (h1 : id ≤ 18446744073709551615) (m0 : 0 ≤ mask) (m1 : mask < n)
    (hrb : b ≠ r) (hr : w.heap[r]? = some (.cells #[.slice (some ⟨b, 0, none⟩) n n, .int .u64 mask, .int .i64 rd, .int .i64 ha] 41 (0, 0))) (ht : Tab w b n c) (hcb : ∀ i, 0 ≤ c i ∧ c i ≤ 255)
    (hne : (wrap64 (rd + 1) == ha) = false) :
    Calls Try.prog 19 #[.pointer (some ⟨r, 0, none⟩), .int .u64 id] w fun e w' => e = .returned (.tuple #[]) ∧
      w'.heap[r]? = some (.cells #[.slice (some ⟨b, 0, none⟩) n n, .int .u64 mask, .int .i64 (wrap64 (rd + 1)), .int .i64 ha] 41 (0, 0)) ∧ Tab w' b n (bumps c (sl id mask) 4) ∧ Only (fun k => k = r ∨ k = b) w w' := by
  have hlt := lt_of_block hr
  have hbb := bumps_bd c (sl id mask) hcb
  go_enter Try.func19, Try.ntmps19
  go_wp2_with (go_at_call 21; refine (hash_any _ _ h0 h1).mono ?_; rintro e w1 ⟨rfl, rfl⟩)
  go_loopw [4, 13] (fun at_ i wr => ∃ k : Nat, k ≤ 4 ∧ i = .int .i64 k ∧ at_ = .int .u64 (atJ id k) ∧ Tab wr b n (bumps c (sl id mask) k) ∧ Only (fun k => k = b) w wr) (fun _ i _ => 4 - (intOf i).toNat)
  case atStart => exact ⟨0, by omega, rfl, rfl, ht, Only.refl _ _⟩
  case round =>
    obtain ⟨k, hk, rfl, rfl, htr, hon⟩ := hrel
    have hbk := hbb k
    clear hbb
    have hrr := (hon.block r hlt (fun e => hrb e.symm)).trans hr
    have e0 : wr.cell? ⟨r, 0, none⟩ = some (.slice (some ⟨b, 0, none⟩) n n) := row_of_block hrr 0
    have e1 : wr.cell? ⟨r, 1, none⟩ = some (.int .u64 mask) := row_of_block hrr 1
    have e2 : wr.cell? ⟨r, 2, none⟩ = some (.int .i64 rd) := row_of_block hrr 2
    have e3 : wr.cell? ⟨r, 3, none⟩ = some (.int .i64 ha) := row_of_block hrr 3
    by_cases hlt4 : k < 4
    · have hs := sl_eq id mask k m0 (by omega)
      have hsl := sl_le id mask k m0 (by omega)
      have hsi : ((sl id mask k : Nat) : Int) < n := by omega
      have f2 := htr.cell (i := sl id mask k) (by omega)
      have f3 := htr.frozen (sl id mask k)
      have hbs := hbk (sl id mask k)
      have HA : Hid (atJ id (k + 1) = IntKind.u64.wrap (atJ id k + hSt id)) := rfl
      have HB : Hid (bumps c (sl id mask) (k + 1) = bump (bumps c (sl id mask) k) (sl id mask k)) := rfl
      clear hbk
      generalize atJ id k = a at *
      generalize bumps c (sl id mask) k = d at *
      generalize sl id mask k = s at *
      by_cases hv : d s < 15
      · have R := tab_bump htr hv
        go_wp2
        go_region
        go_wp2
        go_roundw
        case rel => exact ⟨k + 1, by omega, by go_num, by rw [HA.out], by rw [HB.out]; exact R, (hon.setCell (p := ⟨b, s, none⟩) rfl _).drew⟩
        case measure => simp [intOf]; omega
      · have R := tab_keep htr hv
        go_wp2
        go_region
        go_wp2
        go_roundw
        case rel => exact ⟨k + 1, by omega, by go_num, by rw [HA.out], by rw [HB.out]; exact R, hon.drew⟩
        case measure => simp [intOf]; omega
    · obtain rfl : k = 4 := by omega
      have fr := frozen_of_row wr r 2 _ _ hrr
      have R1 := heap_setCell_same wr r 2 _ _ (.int .i64 (wrap64 (rd + 1))) hrr
      have R2 := htr.setOther (a := ⟨r, 2, none⟩) hrb (.int .i64 (wrap64 (rd + 1)))
      clear hbk hrr
      go_wp2
      go_region
      go_wp2
      go_end0
      exact ⟨rfl, R1, R2, ((hon.mono (T := fun k => k = r ∨ k = b) fun k _ h => Or.inr h).setCell (p := ⟨r, 2, none⟩) (Or.inl rfl) _).drew⟩

/-- The same where the reads come to halveAt: every counter is halved. -/
theorem tab_half {w : World} {b n : Nat} {d : Nat → Int} {k : Nat} (h : Tab w b n (fun j => if j < k then d j / 2 else d j)) : Tab (w.setCell ⟨b, k, none⟩ (.int .u8 (d k / 2))) b n (fun j => if j < k + 1 then d j / 2 else d j) := by
  refine (h.set k _).congr fun i _ => ?_
  by_cases e : i = k
  · subst e; simp
  · by_cases e2 : i < k
    · simp [e, e2, show i < k + 1 by omega]
    · simp [e, e2, show ¬ i < k + 1 by omega]

set_option maxHeartbeats 1000000 in
theorem add_half (r b n : Nat) (id mask rd ha : Int) (c : Nat → Int) (w : World) (hn : n ≤ 1048576) (h0 : 0 ≤ id) (h1 : id ≤ 18446744073709551615) (m0 : 0 ≤ mask) (m1 : mask < n)
    (hrb : b ≠ r) (hr : w.heap[r]? = some (.cells #[.slice (some ⟨b, 0, none⟩) n n, .int .u64 mask, .int .i64 rd, .int .i64 ha] 41 (0, 0))) (ht : Tab w b n c) (hcb : ∀ i, 0 ≤ c i ∧ c i ≤ 255)
    (hne : (wrap64 (rd + 1) == ha) = true) :
    Calls Try.prog 19 #[.pointer (some ⟨r, 0, none⟩), .int .u64 id] w fun e w' => e = .returned (.tuple #[]) ∧
      w'.heap[r]? = some (.cells #[.slice (some ⟨b, 0, none⟩) n n, .int .u64 mask, .int .i64 0, .int .i64 ha] 41 (0, 0)) ∧ Tab w' b n (halved (bumps c (sl id mask) 4)) ∧ Only (fun k => k = r ∨ k = b) w w' := by
  have hlt := lt_of_block hr
  have hbb := bumps_bd c (sl id mask) hcb
  go_enter Try.func19, Try.ntmps19
  go_wp2_with (go_at_call 21; refine (hash_any _ _ h0 h1).mono ?_; rintro e w1 ⟨rfl, rfl⟩)
  go_loopw [4, 13] (fun at_ i wr => ∃ k : Nat, k ≤ 4 ∧ i = .int .i64 k ∧ at_ = .int .u64 (atJ id k) ∧ Tab wr b n (bumps c (sl id mask) k) ∧ Only (fun k => k = b) w wr) (fun _ i _ => 4 - (intOf i).toNat)
  case atStart => exact ⟨0, by omega, rfl, rfl, ht, Only.refl _ _⟩
  case round =>
    obtain ⟨k, hk, rfl, rfl, htr, hon⟩ := hrel
    have hbk := hbb k
    clear hbb
    have hrr := (hon.block r hlt (fun e => hrb e.symm)).trans hr
    have e0 : wr.cell? ⟨r, 0, none⟩ = some (.slice (some ⟨b, 0, none⟩) n n) := row_of_block hrr 0
    have e1 : wr.cell? ⟨r, 1, none⟩ = some (.int .u64 mask) := row_of_block hrr 1
    have e2 : wr.cell? ⟨r, 2, none⟩ = some (.int .i64 rd) := row_of_block hrr 2
    have e3 : wr.cell? ⟨r, 3, none⟩ = some (.int .i64 ha) := row_of_block hrr 3
    by_cases hlt4 : k < 4
    · have hs := sl_eq id mask k m0 (by omega)
      have hsl := sl_le id mask k m0 (by omega)
      have hsi : ((sl id mask k : Nat) : Int) < n := by omega
      have f2 := htr.cell (i := sl id mask k) (by omega)
      have f3 := htr.frozen (sl id mask k)
      have hbs := hbk (sl id mask k)
      have HA : Hid (atJ id (k + 1) = IntKind.u64.wrap (atJ id k + hSt id)) := rfl
      have HB : Hid (bumps c (sl id mask) (k + 1) = bump (bumps c (sl id mask) k) (sl id mask k)) := rfl
      clear hbk
      generalize atJ id k = a at *
      generalize bumps c (sl id mask) k = d at *
      generalize sl id mask k = s at *
      by_cases hv : d s < 15
      · have R := tab_bump htr hv
        go_wp2
        go_region
        go_wp2
        go_roundw
        case rel => exact ⟨k + 1, by omega, by go_num, by rw [HA.out], by rw [HB.out]; exact R, (hon.setCell (p := ⟨b, s, none⟩) rfl _).drew⟩
        case measure => simp [intOf]; omega
      · have R := tab_keep htr hv
        go_wp2
        go_region
        go_wp2
        go_roundw
        case rel => exact ⟨k + 1, by omega, by go_num, by rw [HA.out], by rw [HB.out]; exact R, hon.drew⟩
        case measure => simp [intOf]; omega
    · obtain rfl : k = 4 := by omega
      have fr := frozen_of_row wr r 2 _ _ hrr
      have R1 : (wr.setCell ⟨r, 2, none⟩ (.int .i64 (wrap64 (rd + 1)))).drew.heap[r]? = some (.cells #[.slice (some ⟨b, 0, none⟩) n n, .int .u64 mask, .int .i64 (wrap64 (rd + 1)), .int .i64 ha] 41 (0, 0)) := heap_setCell_same wr r 2 _ _ (.int .i64 (wrap64 (rd + 1))) hrr
      have R2 : Tab (wr.setCell ⟨r, 2, none⟩ (.int .i64 (wrap64 (rd + 1)))).drew b n (bumps c (sl id mask) 4) := (htr.setOther (a := ⟨r, 2, none⟩) hrb (.int .i64 (wrap64 (rd + 1)))).drew
      have R3 := ((hon.mono (T := fun k => k = r ∨ k = b) fun k _ h => Or.inr h).setCell (p := ⟨r, 2, none⟩) (Or.inl rfl) (.int .i64 (wrap64 (rd + 1)))).drew
      clear hrr htr hon
      go_wp2
      go_region
      go_wp2
      generalize hd : bumps c (sl id mask) 4 = d at *
      have HD := hide hd
      clear hd
      clear e0 e1 e2 e3 fr ht hr
      generalize (wr.setCell ⟨r, 2, none⟩ (.int .i64 (wrap64 (rd + 1)))).drew = wo at *
      have hltr := lt_of_block R1
      go_loopw [60] (fun i wr => ∃ k : Nat, k ≤ n ∧ i = .int .i64 k ∧ Tab wr b n (fun j => if j < k then d j / 2 else d j) ∧ Only (fun k => k = b) wo wr) (fun i _ => n - (intOf i).toNat)
      case atStart => exact ⟨0, by omega, rfl, R2.congr (by intro i _; simp), Only.refl _ _⟩
      case round =>
        obtain ⟨k, hk, rfl, htr, hon⟩ := hrel
        have hrr := (hon.block r hltr (fun e => hrb e.symm)).trans R1
        by_cases hkn : k < n
        · have e0 : wr.cell? ⟨r, 0, none⟩ = some (.slice (some ⟨b, 0, none⟩) n n) := row_of_block hrr 0
          have f2 := htr.cell (i := k) hkn
          have f3 := htr.frozen k
          simp only [Nat.lt_irrefl, if_false] at f2
          have hbs := hbk k
          have R := tab_half htr
          have Ro := hon.setCell (p := ⟨b, k, none⟩) rfl (.int .u8 (d k / 2))
          clear hbk htr hon hrr R1 R2 R3
          go_wp2
          go_roundw
          case rel => exact ⟨k + 1, by omega, by go_num, R, Ro⟩
          case measure => simp [intOf]; omega
        · obtain rfl : k = n := by omega
          have fr := frozen_of_row wr r 2 _ _ hrr
          have f2 : wr.cell? ⟨r, 2, none⟩ = some (.int .i64 (wrap64 (rd + 1))) := row_of_block hrr 2
          have T1 : (wr.setCell ⟨r, 2, none⟩ (.int .i64 0)).heap[r]? = some (.cells #[.slice (some ⟨b, 0, none⟩) k k, .int .u64 mask, .int .i64 0, .int .i64 ha] 41 (0, 0)) := heap_setCell_same wr r 2 _ _ (.int .i64 0) hrr
          have T2 : Tab (wr.setCell ⟨r, 2, none⟩ (.int .i64 0)) b k (halved d) := (htr.setOther (a := ⟨r, 2, none⟩) hrb (.int .i64 0)).congr (by intro i hi; simp [halved, hi])
          have T3 := (R3.trans (hon.mono (T := fun k => k = r ∨ k = b) fun k _ h => Or.inr h)).setCell (p := ⟨r, 2, none⟩) (Or.inl rfl) (.int .i64 0)
          clear hbk htr hon hrr R1 R2 R3
          go_wp2
          go_end0
          exact ⟨rfl, T1, by rw [HD.out]; exact T2, T3⟩

end Go.Proofs.Qxb6604241a
