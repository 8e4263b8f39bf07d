import Derived.Test.Qxb6604686aProg
import Derived.WalkKit
import Derived.WalkSpells
import Derived.WalkLawsBesides
import Derived.OpenShut
import Derived.Deep.OwnRows
namespace Go.Proofs.Qxb6604686a
open Go.RowKit

theorem hide {p : Prop} (h : p) : Hid p := h
theorem addr_add (b off i : Nat) : (⟨b, off, none⟩ : Addr).add i = ⟨b, off + i, none⟩ := by
  unfold Addr.add
  by_cases h : i = 0
  · subst h; rfl
  · rw [if_neg h]

theorem info67 : (Try.prog.info? 67).map (fun i => (i.zero, i.size, i.bytes)) = some (some (.int .u64 0), 1, 8) := by kernel_rfl

/-- block b is a row of n words, the i-th 'c i' -/
abbrev Wds (w : World) (b n : Nat) (c : Nat → Int) : Prop := w.rowIs b 67 n (fun i => .int .u64 (c i))

set_option maxHeartbeats 800000 in
theorem copyw_any (b off n cap : Nat) (c : Nat → Int) (w : World) (hn : n ≤ 131072) (hb : b < w.heap.size) (hc : ∀ i, i < n → w.cell? ⟨b, off + i, none⟩ = some (.int .u64 (c i))) :
    Calls Try.prog 22 #[.slice (some ⟨b, off, none⟩) n cap] w fun e w' => e = .returned (.slice (some ⟨w.heap.size, 0, none⟩) n n) ∧ Wds w' w.heap.size n c ∧ Below w.heap.size w w' := by
  have hmk := run_make_row' (P := Try.prog) 41 67 (.int .u64 0) 8 Try.underlying41 info67 rfl .i64 .i64 n (by omega) (by omega)
  have hnil := fun w => Lib.run_eql_slice_nil (P := Try.prog) w 41 67 (some ⟨b, off, none⟩) n cap 0 0 Try.underlying41
  go_enter Try.func22, Try.ntmps22
  go_wp2
  go_loopw [4] (fun i wr => ∃ k : Nat, k ≤ n ∧ i = .int .i64 k ∧ Wds wr w.heap.size n (fun j => if j < k then c j else 0) ∧ Below w.heap.size w wr) (fun i _ => n - (intOf i).toNat)
  case atStart => exact ⟨0, by omega, rfl, (World.rowIs_made w _ n 67).congr (by intro i _; simp), (Below.refl _ _).alloc (Nat.le_refl _) _⟩
  case round =>
    obtain ⟨k, hk, rfl, ht, hbel⟩ := hrel
    clear hmk hnil
    by_cases hlt : k < n
    · have h1 : wr.cell? ⟨b, off + k, none⟩ = some (.int .u64 (c k)) := (hbel.cell hb).trans (hc k hlt)
      have h2 := ht.cell hlt
      have h3 := ht.frozen k
      simp only [Nat.lt_irrefl, if_false] at h2
      have R : Wds (wr.setCell ⟨w.heap.size, k, none⟩ (.int .u64 (c k))) w.heap.size n (fun j => if j < k + 1 then c j else 0) := by
        refine (ht.set k (.int .u64 (c k))).congr ?_
        intro i hi
        by_cases e : i = k
        · subst e; simp
        · by_cases e2 : i < k
          · simp [e, e2, show i < k + 1 by omega]
          · simp [e, e2, show ¬ i < k + 1 by omega]
      have R2 := hbel.setCell (p := ⟨w.heap.size, k, none⟩) (Nat.le_refl _) (.int .u64 (c k))
      clear ht hbel hc
      go_wp2
      go_roundw
      case rel => exact ⟨k + 1, by omega, by go_num, R, R2⟩
      case measure => simp [intOf]; omega
    · obtain rfl : k = n := by omega
      go_wp2
      go_ret
      exact ⟨rfl, ht.congr (by intro i hi; simp [hi]), hbel⟩

set_option maxHeartbeats 400000 in
theorem copyw_nil (w : World) : Calls Try.prog 22 #[.slice none 0 0] w fun e w' => e = .returned (.slice none 0 0) ∧ w = w' := by
  have hnil := fun w => Lib.run_eql_slice_nil (P := Try.prog) w 41 67 none 0 0 0 0 Try.underlying41
  go_enter Try.func22, Try.ntmps22
  go_wp2
  go_ret
  exact ⟨rfl, rfl⟩

set_option maxHeartbeats 400000 in
theorem copyw_empty (x : Addr) (cap : Nat) (w : World) : Calls Try.prog 22 #[.slice (some x) 0 cap] w fun e w' => e = .returned (.slice (some ⟨w.heap.size, 0, none⟩) 0 0) ∧ Below w.heap.size w w' := by
  have hmk : ∀ w : World, (Instr.makeSlice 41 (.int .i64 0) (.int .i64 0)).run Try.prog w = .ok (.slice (some ⟨w.heap.size, 0, none⟩) 0 0) (w.alloc (.cells (madeCells #[.int .u64 0] 0) 67)) := run_make_row' (P := Try.prog) 41 67 (.int .u64 0) 8 Try.underlying41 info67 rfl .i64 .i64 0 (by omega) (by omega)
  have hnil := fun w => Lib.run_eql_slice_nil (P := Try.prog) w 41 67 (some x) 0 cap 0 0 Try.underlying41
  go_enter Try.func22, Try.ntmps22
  go_wp2
  refine wp_loop_rounds 1 ?_
  rw [rounds_succ]
  go_wp2
  go_ret
  exact ⟨rfl, (Below.refl _ _).alloc (Nat.le_refl _) _⟩

set_option maxHeartbeats 400000 in
theorem space_any (p : Int) (w : World) : Calls Try.prog 37 #[.int .i64 p] w fun e w' => e = .returned (.pointer (some ⟨w.heap.size, 0, none⟩)) ∧ w'.cell? ⟨w.heap.size, 1, none⟩ = some (.int .i64 p) ∧ Below w.heap.size w w' := by
  go_enter Try.func37, Try.ntmps37
  go_wp2
  go_ret
  exact ⟨rfl, by simp, (Below.refl _ _).alloc (Nat.le_refl _) _⟩

set_option maxHeartbeats 400000 in
theorem roles_any (r b n u p lo hi : Nat) (w : World) (hn : n ≤ 131072) (h1 : (u : Int) * (p : Int) = lo) (h2 : ((u : Int) + 1) * (p : Int) = hi) (hlo : lo + p = hi) (hhi : hi ≤ n) (hp : 1 ≤ p) (hu : u ≤ 131072) (hc : w.cell? ⟨r, 1, none⟩ = some (.int .i64 p)) :
    Calls Try.prog 46 #[.pointer (some ⟨r, 0, none⟩), .slice (some ⟨b, 0, none⟩) n n, .int .i64 u] w fun e w' => e = .returned (.slice (some ⟨b, lo, none⟩) p (n - lo)) ∧ Below w.heap.size w w' := by
  go_enter Try.func46, Try.ntmps46
  go_wp2
  go_region
  go_wp2
  go_ret
  refine ⟨?_, (Below.refl _ _).drew⟩
  show Ending.returned (.slice (some ⟨b, lo, none⟩) (hi - lo) (n - lo)) = _
  rw [show hi - lo = p by omega]

set_option maxHeartbeats 400000 in
theorem zroles_any (r b n u p lo hi : Nat) (w : World) (hn : n ≤ 131072) (h1 : (u : Int) * (p : Int) = lo) (h2 : ((u : Int) + 1) * (p : Int) = hi) (hlo : lo + p = hi) (hhi : hi ≤ n) (hp : 1 ≤ p) (hu : u ≤ 131072) (hc : w.cell? ⟨r, 1, none⟩ = some (.int .i64 p)) :
    Calls Try.prog 38 #[.pointer (some ⟨r, 0, none⟩), .slice (some ⟨b, 0, none⟩) n n, .int .i64 u] w fun e w' => e = .returned (.slice (some ⟨b, lo, none⟩) p (n - lo)) ∧ Below w.heap.size w w' := by
  have H := hide (roles_any r b n u p lo hi w hn h1 h2 hlo hhi hp hu hc)
  clear h1 h2 hlo
  go_enter Try.func38, Try.ntmps38
  go_wp2_with fail
  refine H.out.mono ?_
  rintro e w1 ⟨rfl, hb⟩
  go_wp2
  go_ret
  exact ⟨rfl, hb⟩

set_option maxHeartbeats 400000 in
theorem zz36_yes (a : Option Addr) (n cap : Nat) (p : Int) (w : World) (_h : n ≤ 1048576) :
    Calls Try.prog 36 #[.slice a n cap, .int .i64 p] w fun e w' => e = .returned (.bool true) ∧ w = w' := by
  go_enter Try.func36, Try.ntmps36
  go_wp2
  go_ret
  exact ⟨rfl, rfl⟩

set_option maxHeartbeats 400000 in
theorem zz36_no (a : Option Addr) (n cap : Nat) (p : Int) (w : World) (_h : 1048576 < n) :
    Calls Try.prog 36 #[.slice a n cap, .int .i64 p] w fun e w' => e = .returned (.bool false) ∧ w = w' := by
  go_enter Try.func36, Try.ntmps36
  go_wp2
  go_ret
  exact ⟨rfl, rfl⟩

set_option maxHeartbeats 400000 in
theorem zz39_yes (a : Option Addr) (n cap : Nat) (p u : Int) (w : World) (_h : n ≤ 1048576) :
    Calls Try.prog 39 #[.slice a n cap, .int .i64 p, .int .i64 u] w fun e w' => e = .returned (.bool true) ∧ w = w' := by
  go_enter Try.func39, Try.ntmps39
  go_wp2
  go_ret
  exact ⟨rfl, rfl⟩

set_option maxHeartbeats 400000 in
theorem zz39_no (a : Option Addr) (n cap : Nat) (p u : Int) (w : World) (_h : 1048576 < n) :
    Calls Try.prog 39 #[.slice a n cap, .int .i64 p, .int .i64 u] w fun e w' => e = .returned (.bool false) ∧ w = w' := by
  go_enter Try.func39, Try.ntmps39
  go_wp2
  go_ret
  exact ⟨rfl, rfl⟩
end Go.Proofs.Qxb6604686a
