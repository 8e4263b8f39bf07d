import Derived.Test.Qxb6604241aProg
import Derived.WalkKit
import Derived.WalkSpells
import Derived.WalkLawsBesides
import Derived.OpenShut
import Derived.Deep.OwnRows
namespace Go.Proofs.Qxb6604241a
open Go.RowKit

theorem hide {p : Prop} (h : p) : Hid p := h
theorem addr_add (b off i : Nat) : (⟨b, off, none⟩ : Addr).add i = ⟨b, off + i, none⟩ := by
  unfold Addr.add
  by_cases h : i = 0
  · subst h; rfl
  · rw [if_neg h]

/-! ### the hash, and the run's four slots -/
def hx1 (id : Int) : Int := IntKind.u64.wrap (id + 11400714819323198485)
def hx2 (id : Int) : Int := IntKind.u64.wrap (bits BinOp.xor IntKind.u64 (hx1 id) (hx1 id / 1073741824) * 13787848793156543929)
def hx3 (id : Int) : Int := IntKind.u64.wrap (bits BinOp.xor IntKind.u64 (hx2 id) (hx2 id / 134217728) * 10723151780598845931)
def hAt (id : Int) : Int := bits BinOp.xor IntKind.u64 (hx3 id) (hx3 id / 2147483648)
def hSt (id : Int) : Int := bits BinOp.or IntKind.u64 (hAt id / 4294967296) 1

theorem hAt_bd (id : Int) : 0 ≤ hAt id ∧ hAt id ≤ 18446744073709551615 := bounds_u64 (wf_bits _ _ _ _)
theorem hSt_bd (id : Int) : 0 ≤ hSt id ∧ hSt id ≤ 18446744073709551615 := bounds_u64 (wf_bits _ _ _ _)

/-- where the j-th probe stands, one step after the other -/
def atJ (id : Int) : Nat → Int
  | 0 => hAt id
  | j + 1 => IntKind.u64.wrap (atJ id j + hSt id)

theorem atJ_bd (id : Int) (j : Nat) : 0 ≤ atJ id j ∧ atJ id j ≤ 18446744073709551615 := by
  cases j with
  | zero => exact hAt_bd id
  | succ j => exact bounds_u64 (wf_wrap _ _)

/-- the j-th slot -/
def sl (id mask : Int) (j : Nat) : Nat := (bits BinOp.and IntKind.u64 (atJ id j) mask).toNat

theorem and_le (x m : Int) (h0 : 0 ≤ m) (h1 : m ≤ 18446744073709551615) : 0 ≤ bits BinOp.and IntKind.u64 x m ∧ bits BinOp.and IntKind.u64 x m ≤ m := by
  have hb := bounds_u64 (wf_bits BinOp.and IntKind.u64 x m)
  refine ⟨hb.1, ?_⟩
  have hm : (BitVec.ofInt 64 m).toNat = m.toNat := by
    rw [BitVec.toNat_ofInt]; omega
  have hle : ((BitVec.ofInt 64 x) &&& (BitVec.ofInt 64 m)).toNat ≤ m.toNat := by
    rw [BitVec.toNat_and, hm]; exact Nat.and_le_right
  have e : bits BinOp.and IntKind.u64 x m = (((BitVec.ofInt 64 x) &&& (BitVec.ofInt 64 m)).toNat : Int) := by
    have hlt : ((BitVec.ofInt 64 x) &&& (BitVec.ofInt 64 m)).toNat < 2 ^ 64 := BitVec.isLt _
    show IntKind.u64.wrap (((BitVec.ofInt 64 x) &&& (BitVec.ofInt 64 m)).toNat : Int) = _
    generalize ((BitVec.ofInt 64 x) &&& (BitVec.ofInt 64 m)).toNat = t at *
    simp [IntKind.wrap, IntKind.bits, IntKind.signed]
    omega
  rw [e]; omega

theorem sl_eq (id mask : Int) (j : Nat) (h0 : 0 ≤ mask) (h1 : mask ≤ 18446744073709551615) : bits BinOp.and IntKind.u64 (atJ id j) mask = (sl id mask j : Int) := by
  have := (and_le (atJ id j) mask h0 h1).1
  unfold sl; omega

theorem sl_le (id mask : Int) (j : Nat) (h0 : 0 ≤ mask) (h1 : mask ≤ 18446744073709551615) : (sl id mask j : Int) ≤ mask := by
  have := (and_le (atJ id j) mask h0 h1)
  unfold sl; omega

theorem wrap_u64 (x : Int) : IntKind.u64.wrap x = x % 18446744073709551616 := by
  simp [IntKind.wrap, IntKind.bits, IntKind.signed]

set_option maxHeartbeats 400000 in
theorem hash_any (id : Int) (w : World) (_h0 : 0 ≤ id) (_h1 : id ≤ 18446744073709551615) :
    Calls Try.prog 21 #[.int .u64 id] w fun e w' => e = .returned (.tuple #[.int .u64 (hAt id), .int .u64 (hSt id)]) ∧ w = w' := by
  go_enter Try.func21, Try.ntmps21
  go_wp2
  go_ret2
  exact ⟨rfl, rfl⟩

set_option maxHeartbeats 400000 in
theorem zhash_any (id : Int) (w : World) (h0 : 0 ≤ id) (h1 : id ≤ 18446744073709551615) :
    Calls Try.prog 18 #[.int .u64 id] w fun e w' => e = .returned (.tuple #[.int .u64 (hAt id), .int .u64 (hSt id)]) ∧ w = w' := by
  go_enter Try.func18, Try.ntmps18
  go_wp2_with (go_at_call 21; refine (hash_any _ _ h0 h1).mono ?_; rintro e w' ⟨rfl, rfl⟩)
  go_ret2
  exact ⟨rfl, rfl⟩

theorem at1 (id : Int) : IntKind.u64.wrap (hAt id + hSt id) = atJ id 1 := rfl
theorem at2 (id : Int) : IntKind.u64.wrap (hAt id + IntKind.u64.wrap (2 * hSt id)) = atJ id 2 := by
  show _ = IntKind.u64.wrap (IntKind.u64.wrap (hAt id + hSt id) + hSt id)
  simp only [wrap_u64]; omega
theorem at3 (id : Int) : IntKind.u64.wrap (hAt id + IntKind.u64.wrap (3 * hSt id)) = atJ id 3 := by
  show _ = IntKind.u64.wrap (IntKind.u64.wrap (IntKind.u64.wrap (hAt id + hSt id) + hSt id) + hSt id)
  simp only [wrap_u64]; omega

/-- the array of the four slots, as a Go value -/
def slots (id mask : Int) : Value := .agg #[.int .u64 (sl id mask 0), .int .u64 (sl id mask 1), .int .u64 (sl id mask 2), .int .u64 (sl id mask 3)]

set_option maxHeartbeats 800000 in
theorem probe_any (id mask : Int) (w : World) (h0 : 0 ≤ id) (h1 : id ≤ 18446744073709551615) (m0 : 0 ≤ mask) (m1 : mask ≤ 18446744073709551615) :
    Calls Try.prog 9 #[.int .u64 id, .int .u64 mask] w fun e w' => e = .returned (slots id mask) ∧ Below w.heap.size w w' := by
  have ha := hAt_bd id
  have hs := hSt_bd id
  go_enter Try.func9, Try.ntmps9
  go_wp2_with (go_at_call 18; refine (zhash_any _ _ h0 h1).mono ?_; rintro e w' ⟨rfl, rfl⟩)
  refine wp_loop_rounds 5 ?_
  rw [rounds_succ]; go_wp2
  rw [rounds_succ]; go_wp2
  rw [rounds_succ]; go_wp2
  rw [rounds_succ]; go_wp2
  rw [rounds_succ]; go_wp2
  refine bodyPost_ret (v := slots id mask) (by simp [results, Try.results9, go_sem, slots]; exact ⟨sl_eq id mask 0 m0 m1, sl_eq id mask 1 m0 m1, by rw [at2]; exact sl_eq id mask 2 m0 m1, by rw [at3]; exact sl_eq id mask 3 m0 m1⟩) rfl ⟨rfl, ?_⟩
  exact ((Below.refl _ _).alloc (Nat.le_refl _) _).alloc (by simp) _

theorem eqT {a b : Nat} (h : ((a : Int) == (b : Int)) = true) : a = b := by have := beq_iff_eq.1 h; omega
theorem neF {a b : Nat} (h : ((a : Int) == (b : Int)) = false) : ¬ a = b := by have := beq_eq_false_iff_ne.1 h; omega

/-- how many of the four slots are i -/
def hitN (ps : List Nat) (i : Nat) : Nat := (ps.filter (fun p => p == i)).length

theorem hit_step (ps : List Nat) (i k p : Nat) (h : ps[k]? = some p) : hitN (ps.take (k + 1)) i = hitN (ps.take k) i + if p = i then 1 else 0 := by
  unfold hitN
  obtain ⟨hk, rfl⟩ := List.getElem?_eq_some_iff.1 h
  rw [List.take_succ_eq_append_getElem hk, List.filter_append]
  by_cases e : ps[k] = i <;> simp [e]

theorem hit_le (ps : List Nat) (i k : Nat) : hitN (ps.take k) i ≤ k := by
  unfold hitN
  have := List.length_filter_le (fun p => p == i) (ps.take k)
  have := List.length_take_le k ps
  omega

set_option maxHeartbeats 800000 in
theorem hits_any (p0 p1 p2 p3 i : Nat) (w : World) (hi : i ≤ 1048576) :
    Calls Try.prog 12 #[.agg #[.int .u64 p0, .int .u64 p1, .int .u64 p2, .int .u64 p3], .int .i64 i] w fun e w' => e = .returned (.int .i64 (hitN [p0, p1, p2, p3] i)) ∧ Below w.heap.size w w' := by
  go_enter Try.func12, Try.ntmps12
  go_wp2
  go_loop [5, 6] (fun t j => ∃ k : Nat, k ≤ 4 ∧ j = .int .i64 k ∧ t = .int .i64 (hitN ([p0, p1, p2, p3].take k) i)) (fun _ j => 4 - (intOf j).toNat)
  case atStart => exact ⟨0, by omega, rfl, rfl⟩
  case round =>
    obtain ⟨k, hk, rfl, rfl⟩ := hrel
    by_cases hk4 : k < 4
    · obtain ⟨pk, hpk, hcp⟩ : ∃ pk : Nat, [p0, p1, p2, p3][k]? = some pk ∧ [Value.int IntKind.u64 p0, Value.int IntKind.u64 p1, Value.int IntKind.u64 p2, Value.int IntKind.u64 p3][k]? = some (.int .u64 pk) := by
        match k, hk4 with
        | 0, _ => exact ⟨p0, rfl, rfl⟩
        | 1, _ => exact ⟨p1, rfl, rfl⟩
        | 2, _ => exact ⟨p2, rfl, rfl⟩
        | 3, _ => exact ⟨p3, rfl, rfl⟩
      have hle := hit_le [p0, p1, p2, p3] i k
      have HS : Hid (hitN ([p0, p1, p2, p3].take (k + 1)) i = hitN ([p0, p1, p2, p3].take k) i + if pk = i then 1 else 0) := hit_step _ _ _ _ hpk
      clear hpk
      generalize hitN ([p0, p1, p2, p3].take k) i = n at *
      have hki : (k : Int) < 4 := by omega
      clear hk4
      go_wp2
      · go_round
        case rel => exact ⟨k + 1, by omega, by go_num, by rw [HS.out, if_pos (eqT ‹_›)]; go_num⟩
        case measure => simp [intOf]; omega
      · go_round
        case rel => exact ⟨k + 1, by omega, by go_num, by rw [HS.out, if_neg (neF ‹_›)]; go_num⟩
        case measure => simp [intOf]; omega
    · obtain rfl : k = 4 := by omega
      go_wp2
      go_ret
      exact ⟨rfl, (Below.refl _ _).alloc (Nat.le_refl _) _⟩

theorem info5 : (Try.prog.info? 5).map (fun i => (i.zero, i.size, i.bytes)) = some (some (.int .u8 0), 1, 1) := by kernel_rfl

/-- block b is a table of n counters, the i-th 'c i' -/
abbrev Tab (w : World) (b n : Nat) (c : Nat → Int) : Prop := w.rowIs b 5 n (fun i => .int .u8 (c i))

set_option maxHeartbeats 800000 in
theorem clone_any (b off n cap : Nat) (c : Nat → Int) (w : World) (hn : n ≤ 1048576) (hb : b < w.heap.size) (hc : ∀ i, i < n → w.cell? ⟨b, off + i, none⟩ = some (.int .u8 (c i))) :
    Calls Try.prog 8 #[.slice (some ⟨b, off, none⟩) n cap] w fun e w' => e = .returned (.slice (some ⟨w.heap.size, 0, none⟩) n n) ∧ Tab w' w.heap.size n c ∧ Below w.heap.size w w' := by
  have hmk := run_make_row' (P := Try.prog) 22 5 (.int .u8 0) 1 Try.underlying22 info5 rfl .i64 .i64 n (by omega) (by omega)
  have hnil := fun w => Lib.run_eql_slice_nil (P := Try.prog) w 22 5 (some ⟨b, off, none⟩) n cap 0 0 Try.underlying22
  go_enter Try.func8, Try.ntmps8
  go_wp2
  go_loopw [4] (fun i wr => ∃ k : Nat, k ≤ n ∧ i = .int .i64 k ∧ Tab wr w.heap.size n (fun j => if j < k then c j else 0) ∧ Below w.heap.size w wr) (fun i _ => n - (intOf i).toNat)
  case atStart => exact ⟨0, by omega, rfl, (World.rowIs_made w _ n 5).congr (by intro i _; simp), (Below.refl _ _).alloc (Nat.le_refl _) _⟩
  case round =>
    obtain ⟨k, hk, rfl, ht, hbel⟩ := hrel
    clear hmk hnil
    by_cases hlt : k < n
    · have h1 : wr.cell? ⟨b, off + k, none⟩ = some (.int .u8 (c k)) := (hbel.cell hb).trans (hc k hlt)
      have h2 := ht.cell hlt
      have h3 := ht.frozen k
      simp only [Nat.lt_irrefl, if_false] at h2
      have R : Tab (wr.setCell ⟨w.heap.size, k, none⟩ (.int .u8 (c k))) w.heap.size n (fun j => if j < k + 1 then c j else 0) := by
        refine (ht.set k (.int .u8 (c k))).congr ?_
        intro i hi
        by_cases e : i = k
        · subst e; simp
        · by_cases e2 : i < k
          · simp [e, e2, show i < k + 1 by omega]
          · simp [e, e2, show ¬ i < k + 1 by omega]
      have R2 := hbel.setCell (p := ⟨w.heap.size, k, none⟩) (Nat.le_refl _) (.int .u8 (c k))
      clear ht hbel hc
      go_wp2
      go_roundw
      case rel => exact ⟨k + 1, by omega, by go_num, R, R2⟩
      case measure => simp [intOf]; omega
    · obtain rfl : k = n := by omega
      go_wp2
      go_ret
      exact ⟨rfl, ht.congr (by intro i hi; simp [hi]), hbel⟩
end Go.Proofs.Qxb6604241a
