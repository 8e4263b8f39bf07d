import Derived.Test.Qxb6604686aMem
namespace Go.Proofs.Qxb6604686a
open Go.RowKit

theorem info9 : (Try.prog.info? 9).map (fun i => (i.zero, i.size, i.bytes)) = some (some (.string ⟨#[]⟩), 1, 16) := by kernel_rfl
theorem info30 : (Try.prog.info? 30).map (fun i => (i.zero, i.size, i.bytes)) = some (some (.slice none 0 0), 1, 24) := by kernel_rfl
theorem info37 : (Try.prog.info? 37).map (fun i => (i.zero, i.size, i.bytes)) = some (some (.slice none 0 0), 1, 24) := by kernel_rfl

/-- what a row of strings of the call's own gives -/
theorem S1.of_row {w : World} {b n B : Nat} {s : Nat → ByteArray} (h : w.rowIs b 9 n (fun i => .string (s i))) (hn : n ≤ 4096) (hB : B ≤ b) : S1 B w (.slice (some ⟨b, 0, none⟩) n n) n s :=
  ⟨_, _, rfl, by unfold maxLen; omega, fun i hi => ⟨b, 0, rfl, hB, by rw [Nat.zero_add]; exact h.cell hi⟩⟩
theorem S1.empty (B : Nat) (w : World) (a : Option Addr) (cap : Nat) (s : Nat → ByteArray) : S1 B w (.slice a 0 cap) 0 s :=
  ⟨_, _, rfl, Nat.zero_le _, fun i hi => absurd hi (by omega)⟩

/-- one copy of a []string -/
def Copied1 (w : World) (n : Nat) (s : Nat → ByteArray) (e : Ending) (w' : World) : Prop := ∃ a cap, e = .returned (.slice a n cap) ∧ S1 w.heap.size w' (.slice a n cap) n s

set_option maxHeartbeats 400000 in
theorem copys_nil (cap : Nat) (s : Nat → ByteArray) (w : World) : Calls Try.prog 40 #[.slice none 0 cap] w fun e w' => Copied1 w 0 s e w' ∧ Below w.heap.size w w' := by
  have hnil := fun w => Lib.run_eql_slice_nil (P := Try.prog) w 30 9 none 0 cap 0 0 Try.underlying30
  go_enter Try.func40, Try.ntmps40
  go_wp2
  go_ret
  exact ⟨⟨none, 0, rfl, S1.empty _ _ _ _ _⟩, Below.refl _ _⟩

set_option maxHeartbeats 400000 in
theorem copys_empty (x : Addr) (cap : Nat) (s : Nat → ByteArray) (w : World) : Calls Try.prog 40 #[.slice (some x) 0 cap] w fun e w' => Copied1 w 0 s e w' ∧ Below w.heap.size w w' := by
  have hmk : ∀ w : World, (Instr.makeSlice 30 (.int .i64 0) (.int .i64 0)).run Try.prog w = .ok (.slice (some ⟨w.heap.size, 0, none⟩) 0 0) (w.alloc (.cells (madeCells #[.string ⟨#[]⟩] 0) 9)) := run_make_row' (P := Try.prog) 30 9 (.string ⟨#[]⟩) 16 Try.underlying30 info9 rfl .i64 .i64 0 (by omega) (by omega)
  have hnil := fun w => Lib.run_eql_slice_nil (P := Try.prog) w 30 9 (some x) 0 cap 0 0 Try.underlying30
  go_enter Try.func40, Try.ntmps40
  go_wp2
  refine wp_loop_rounds 1 ?_
  rw [rounds_succ]
  go_wp2
  go_ret
  exact ⟨⟨_, _, rfl, S1.empty _ _ _ _ _⟩, (Below.refl _ _).alloc (Nat.le_refl _) _⟩

set_option maxHeartbeats 800000 in
theorem copys_main (b off n cap : Nat) (s : Nat → ByteArray) (w : World) (hn : n ≤ 4096) (hb : b < w.heap.size) (hc : ∀ i, i < n → w.cell? ⟨b, off + i, none⟩ = some (.string (s i))) :
    Calls Try.prog 40 #[.slice (some ⟨b, off, none⟩) n cap] w fun e w' => Copied1 w n s e w' ∧ Below w.heap.size w w' := by
  have hmk := run_make_row' (P := Try.prog) 30 9 (.string ⟨#[]⟩) 16 Try.underlying30 info9 rfl .i64 .i64 n (by omega) (by omega)
  have hnil := fun w => Lib.run_eql_slice_nil (P := Try.prog) w 30 9 (some ⟨b, off, none⟩) n cap 0 0 Try.underlying30
  go_enter Try.func40, Try.ntmps40
  go_wp2
  go_loopw [4] (fun i wr => ∃ k : Nat, k ≤ n ∧ i = .int .i64 k ∧ wr.rowIs w.heap.size 9 n (fun j => if j < k then .string (s j) else .string ⟨#[]⟩) ∧ Below w.heap.size w wr) (fun i _ => n - (intOf i).toNat)
  case atStart => exact ⟨0, by omega, rfl, (World.rowIs_made w _ n 9).congr (by intro i _; simp), (Below.refl _ _).alloc (Nat.le_refl _) _⟩
  case round =>
    obtain ⟨k, hk, rfl, ht, hbel⟩ := hrel
    clear hmk hnil
    by_cases hlt : k < n
    · have h1 : wr.cell? ⟨b, off + k, none⟩ = some (.string (s k)) := (hbel.cell hb).trans (hc k hlt)
      have h2 := ht.cell hlt
      have h3 := ht.frozen k
      simp only [Nat.lt_irrefl, if_false] at h2
      have R : (wr.setCell ⟨w.heap.size, k, none⟩ (.string (s k))).rowIs w.heap.size 9 n (fun j => if j < k + 1 then .string (s j) else .string ⟨#[]⟩) := by
        refine (ht.set k (.string (s k))).congr ?_
        intro i hi
        by_cases e : i = k
        · subst e; simp
        · by_cases e2 : i < k
          · simp [e, e2, show i < k + 1 by omega]
          · simp [e, e2, show ¬ i < k + 1 by omega]
      have R2 := hbel.setCell (p := ⟨w.heap.size, k, none⟩) (Nat.le_refl _) (.string (s k))
      clear ht hbel hc
      go_wp2
      go_roundw
      case rel => exact ⟨k + 1, by omega, by go_num, R, R2⟩
      case measure => simp [intOf]; omega
    · obtain rfl : k = n := by omega
      go_wp2
      go_ret
      exact ⟨⟨_, _, rfl, S1.of_row (ht.congr (by intro i hi; simp [hi])) hn (Nat.le_refl _)⟩, hbel⟩

theorem copys_any (a : Option Addr) (n cap B : Nat) (s : Nat → ByteArray) (w : World) (hn : n ≤ 4096) (h : S1 B w (.slice a n cap) n s) :
    Calls Try.prog 40 #[.slice a n cap] w fun e w' => Copied1 w n s e w' ∧ Below w.heap.size w w' := by
  obtain ⟨a', cap', e, _, hc⟩ := h
  simp only [Value.slice.injEq, true_and] at e
  obtain ⟨rfl, rfl⟩ := e
  by_cases h0 : n = 0
  · subst h0
    cases a with
    | none => exact copys_nil cap s w
    | some x => exact copys_empty x cap s w
  · obtain ⟨b, off, rfl, _, hc0⟩ := hc 0 (by omega)
    refine copys_main b off n cap s w hn (block_lt_of_cell hc0) fun i hi => ?_
    obtain ⟨b', off', e, _, hci⟩ := hc i hi
    simp only [Option.some.injEq, Addr.mk.injEq, and_true] at e
    obtain ⟨rfl, rfl⟩ := e
    exact hci
end Go.Proofs.Qxb6604686a
