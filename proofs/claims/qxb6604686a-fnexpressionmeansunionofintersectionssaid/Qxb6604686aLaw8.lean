import Derived.Test.Qxb6604686aZz
import Derived.Test.Qxb6604686aFit
import Derived.Test.Qxb6604686aHolds2
namespace Go.Proofs.Qxb6604686a
open Go.RowKit

set_option maxRecDepth 100000 in
set_option maxHeartbeats 2000000 in
theorem law8_main (v : Value) (n : Nat) (m : Nat → Nat) (l : Nat → Nat → Nat) (s : Nat → Nat → Nat → ByteArray) (w : World) (h : S3 0 w v n m l s) :
    Calls Try.prog 3 #[v] w fun e w' => e = .returned (.bool true) ∧ Below w.heap.size w w' := by
  have Z := hide (zz9_any v n m l s w h)
  have F := hide (fit_any v n m l s w h)
  have HS3 := hide h
  clear h
  go_enter Try.func3, Try.ntmps3
  go_wp2_with fail
  refine Z.out.mono ?_
  rintro e w0 ⟨⟨b, rfl⟩, rfl⟩
  clear Z
  cases b
  · go_wp2
    go_ret
    exact ⟨rfl, Below.refl _ _⟩
  go_wp2_with fail
  refine F.out.mono ?_
  rintro e w0 ⟨⟨b, rfl, hfit⟩, rfl⟩
  clear F
  cases b
  · clear hfit
    go_wp2
    go_ret
    exact ⟨rfl, Below.refl _ _⟩
  obtain ⟨hn, hf⟩ := hfit rfl
  have HF := hide hf
  clear hfit
  go_wp2_with fail
  refine (copyt_any v n m l s w hn hf HS3.out).mono ?_
  rintro e w1 ⟨⟨a, cap, rfl, hs1⟩, hb1⟩
  obtain ⟨a', cap', U, hv, _, hT, hS⟩ := pickU (hs1.weak (Nat.zero_le _))
  simp only [Value.slice.injEq, true_and] at hv
  obtain ⟨rfl, rfl⟩ := hv
  have HT := hide hT
  have HS := hide hS
  clear hT hS hs1 hf
  go_wp2_with fail
  refine (build_any a n cap m l w1 (fun i hi => (HF.out i hi).1) hn U (fun i j hi hj => by obtain ⟨a, c, e, _⟩ := HS.out i j hi hj; exact ⟨a, c, e⟩) (fun i hi => by obtain ⟨a2, c2, h1, _, h2⟩ := HT.out i hi; exact ⟨a2, c2, h1, h2⟩)).mono ?_
  rintro e w2 ⟨⟨ae, cape, rfl, he2⟩, hb2⟩
  obtain ⟨a', cap', R, hv, hR⟩ := pickR (he2.weak (Nat.zero_le _))
  simp only [Value.slice.injEq, true_and] at hv
  obtain ⟨rfl, rfl⟩ := hv
  have HR := hide hR
  clear hR he2
  go_wp2_with fail
  refine (group_any ae n cape w2).mono ?_
  rintro e w3 ⟨rfl, hg3, hb3⟩
  go_wp2_with fail
  refine (zexpr_any w2.heap.size n cape ae m U R w3 hn hg3 (fun i hi => ⟨(HR.out i hi).1.kept (fun b _ h => hb3.block b h), (HR.out i hi).2.kept (fun b _ h => hb3.block b h)⟩) (fun i hi h1 => by obtain ⟨a, c, e, _⟩ := HS.out i 0 hi (by omega); exact ⟨a, _, c, e⟩)).mono ?_
  rintro e w4 ⟨⟨kd, a1, l1, c1, a5, l5, c5, rfl, htop⟩, hb4⟩
  have hs1 := hb1.size
  have hs2 := hb2.size
  have hs3 := hb3.size
  have hs4 := hb4.size
  have hbw4 : Below w.heap.size w w4 := ((hb1.trans (hb2.mono (by omega))).trans (hb3.mono (by omega))).trans (hb4.mono (by omega))
  have k14 : ∀ b, 0 ≤ b → b < w1.heap.size → w4.heap[b]? = w1.heap[b]? := fun b _ h => ((hb4.block b (by omega)).trans (hb3.block b (by omega))).trans (hb2.block b h)
  have k24 : ∀ b, 0 ≤ b → b < w2.heap.size → w4.heap[b]? = w2.heap[b]? := fun b _ h => (hb4.block b (by omega)).trans (hb3.block b h)
  have HT4 : Hid (∀ i, i < n → ∃ a2 cap2, At 0 w4 a i (.slice a2 (m i) cap2) ∧ ∀ j, j < m i → At 0 w4 a2 j (U i j)) := hide (fun i hi => by obtain ⟨a2, c2, h1, _, h2⟩ := HT.out i hi; exact ⟨a2, c2, h1.kept k14, fun j hj => (h2 j hj).kept k14⟩)
  have HS4 : Hid (∀ i j, i < n → j < m i → S1 0 w4 (U i j) (l i j) (s i j)) := hide (fun i j hi hj => (HS.out i j hi hj).kept k14)
  have HE4 : Hid (∀ i, i < n → E1 0 w4 (R i) (m i) (U i)) := hide (fun i hi => (HR.out i hi).2.kept k24)
  have HTOP := hide (htop.weak (Nat.zero_le _))
  clear HT HS HR k14 k24 htop hb1 hb2 hb3 hb4 hg3 hs1 hs2 hs3 hs4 HS3

  go_wp2
  have hrow := rowIs_new w4 #[.int .i64 kd, .slice a1 l1 c1, .string ⟨#[]⟩, .string ⟨#[]⟩, .string ⟨#[]⟩, .slice a5 l5 c5] 35 6 rfl
  have hb5 : Below w4.heap.size w4 (w4.alloc (.cells #[.int .i64 kd, .slice a1 l1 c1, .string ⟨#[]⟩, .string ⟨#[]⟩, .string ⟨#[]⟩, .slice a5 l5 c5] 35)) := (Below.refl _ _).alloc (Nat.le_refl _) _
  have e0 : (w4.alloc (.cells #[.int .i64 kd, .slice a1 l1 c1, .string ⟨#[]⟩, .string ⟨#[]⟩, .string ⟨#[]⟩, .slice a5 l5 c5] 35)).cell? ⟨w4.heap.size, 0, none⟩ = some (.int .i64 kd) := hrow.cell (by omega)
  have e1 : (w4.alloc (.cells #[.int .i64 kd, .slice a1 l1 c1, .string ⟨#[]⟩, .string ⟨#[]⟩, .string ⟨#[]⟩, .slice a5 l5 c5] 35)).cell? ⟨w4.heap.size, 1, none⟩ = some (.slice a1 l1 c1) := hrow.cell (by omega)
  have e2 : (w4.alloc (.cells #[.int .i64 kd, .slice a1 l1 c1, .string ⟨#[]⟩, .string ⟨#[]⟩, .string ⟨#[]⟩, .slice a5 l5 c5] 35)).cell? ⟨w4.heap.size, 2, none⟩ = some (.string ⟨#[]⟩) := hrow.cell (by omega)
  have e3 : (w4.alloc (.cells #[.int .i64 kd, .slice a1 l1 c1, .string ⟨#[]⟩, .string ⟨#[]⟩, .string ⟨#[]⟩, .slice a5 l5 c5] 35)).cell? ⟨w4.heap.size, 3, none⟩ = some (.string ⟨#[]⟩) := hrow.cell (by omega)
  have e4 : (w4.alloc (.cells #[.int .i64 kd, .slice a1 l1 c1, .string ⟨#[]⟩, .string ⟨#[]⟩, .string ⟨#[]⟩, .slice a5 l5 c5] 35)).cell? ⟨w4.heap.size, 4, none⟩ = some (.string ⟨#[]⟩) := hrow.cell (by omega)
  have e5 : (w4.alloc (.cells #[.int .i64 kd, .slice a1 l1 c1, .string ⟨#[]⟩, .string ⟨#[]⟩, .string ⟨#[]⟩, .slice a5 l5 c5] 35)).cell? ⟨w4.heap.size, 5, none⟩ = some (.slice a5 l5 c5) := hrow.cell (by omega)
  have hs5 : w4.heap.size < (w4.alloc (.cells #[.int .i64 kd, .slice a1 l1 c1, .string ⟨#[]⟩, .string ⟨#[]⟩, .string ⟨#[]⟩, .slice a5 l5 c5] 35)).heap.size := by simp
  clear hrow
  generalize w4.alloc (.cells #[.int .i64 kd, .slice a1 l1 c1, .string ⟨#[]⟩, .string ⟨#[]⟩, .string ⟨#[]⟩, .slice a5 l5 c5] 35) = W at *
  have hbW := hbw4.trans (hb5.mono hbw4.size)
  have HTW : Hid (∀ i, i < n → ∃ a2 cap2, At 0 W a i (.slice a2 (m i) cap2) ∧ ∀ j, j < m i → At 0 W a2 j (U i j)) := hide (fun i hi => by obtain ⟨a2, c2, h1, h2⟩ := HT4.out i hi; exact ⟨a2, c2, h1.kept (fun b _ h => hb5.block b h), fun j hj => (h2 j hj).kept (fun b _ h => hb5.block b h)⟩)
  have HSW : Hid (∀ i j, i < n → j < m i → S1 0 W (U i j) (l i j) (s i j)) := hide (fun i j hi hj => (HS4.out i j hi hj).kept (fun b _ h => hb5.block b h))
  have HEW : Hid (∀ i, i < n → E1 0 W (R i) (m i) (U i)) := hide (fun i hi => (HE4.out i hi).kept (fun b _ h => hb5.block b h))
  have HTOPW := hide (HTOP.out.kept (fun b _ h => hb5.block b h))
  have E0 := hide e0
  have E1' := hide e1
  have E2' := hide e2
  have E3 := hide e3
  have E4 := hide e4
  have E5 := hide e5
  clear HT4 HS4 HE4 HTOP hb5 hbw4 e0 e1 e2 e3 e4 e5
  go_loopw [26] (fun i wr => ∃ k : Nat, k ≤ n ∧ i = .int .i64 k ∧ Below W.heap.size W wr) (fun i _ => n - (intOf i).toNat)
  case atStart => exact ⟨0, by omega, rfl, Below.refl _ _⟩
  case round =>
    obtain ⟨k, hk, rfl, hbel⟩ := hrel
    by_cases hlt : k < n
    · obtain ⟨a2, cap2, hat1, hin⟩ := HTW.out k hlt
      have hat2 := hat1.kept (fun b _ h => hbel.block b h)
      obtain ⟨bs, os, rfl, _, hcs⟩ := hat2
      have HIN := hide hin
      have hm := (HF.out k hlt).1
      clear hin hat1
      go_wp2
      obtain ⟨wo, hwo⟩ : ∃ wo : World, wo = wr := ⟨_, rfl⟩
      subst hwo
      go_loopw [32] (fun i wr => ∃ q : Nat, q ≤ m k ∧ i = .int .i64 q ∧ Below W.heap.size W wr) (fun i _ => m k - (intOf i).toNat)
      case atStart => exact ⟨0, by omega, rfl, hbel⟩
      case round =>
        obtain ⟨q, hq, rfl, hbel2⟩ := hrel
        by_cases hlq : q < m k
        · obtain ⟨b2, o2, rfl, _, hc2⟩ := (HIN.out q hlq).kept (fun b _ h => hbel2.block b h)
          obtain ⟨a4, c4, hu4, hm4, hc4⟩ := HSW.out k q hlt hlq
          rw [hu4] at hc2
          have hl := (HF.out k hlt).2 q hlq
          have HC4 := hide hc4
          clear hu4 hm4 hc4
          go_wp2
          obtain ⟨wp, hwp⟩ : ∃ wp : World, wp = wr := ⟨_, rfl⟩
          subst hwp
          go_loopw [38] (fun i wr => ∃ p : Nat, p ≤ l k q ∧ i = .int .i64 p ∧ Below W.heap.size W wr) (fun i _ => l k q - (intOf i).toNat)
          case atStart => exact ⟨0, by omega, rfl, hbel2⟩
          case round =>
            obtain ⟨p, hp, rfl, hbel3⟩ := hrel
            by_cases hlp : p < l k q
            · obtain ⟨b3, o3, rfl, _, hc3⟩ := (HC4.out p hlp).kept (fun b _ h => hbel3.block b h)
              have z0 := (hbel3.cell (p := ⟨w4.heap.size, 0, none⟩) hs5).trans E0.out
              have z1 := (hbel3.cell (p := ⟨w4.heap.size, 1, none⟩) hs5).trans E1'.out
              have z2 := (hbel3.cell (p := ⟨w4.heap.size, 2, none⟩) hs5).trans E2'.out
              have z3 := (hbel3.cell (p := ⟨w4.heap.size, 3, none⟩) hs5).trans E3.out
              have z4 := (hbel3.cell (p := ⟨w4.heap.size, 4, none⟩) hs5).trans E4.out
              have z5 := (hbel3.cell (p := ⟨w4.heap.size, 5, none⟩) hs5).trans E5.out
              have C := hide (eh_top n m l s U R (s k q p) wr hn HF.out (fun i hi => (HEW.out i hi).kept (fun b _ h => hbel3.block b h)) (fun i j hi hj => (HSW.out i j hi hj).kept (fun b _ h => hbel3.block b h)) kd a1 l1 c1 a5 l5 c5 (HTOPW.out.kept (fun b _ h => hbel3.block b h)))
              generalize s k q p = x at *
              go_wp2_with fail
              refine C.out.mono ?_
              rintro e w6 ⟨rfl, hb6⟩
              have hbel4 := hbel3.trans (hb6.mono hbel3.size)
              clear z0 z1 z2 z3 z4 z5 hc3 C
              have D := hide (terms_any (some ⟨bs, os, none⟩) n cap m l s U x w6 hn HF.out (fun i hi => by obtain ⟨a2, c2, h1, h2⟩ := HTW.out i hi; exact ⟨a2, c2, h1.kept (fun b _ h => hbel4.block b h), fun j hj => (h2 j hj).kept (fun b _ h => hbel4.block b h)⟩) (fun i j hi hj => (HSW.out i j hi hj).kept (fun b _ h => hbel4.block b h)))
              go_wp2_with fail
              refine D.out.mono ?_
              rintro e w7 ⟨rfl, rfl⟩
              clear D
              generalize anyN m l s x n = bb at *
              have hne : (bb != bb) = false := by cases bb <;> rfl
              go_wp2
              go_roundw
              case rel => exact ⟨p + 1, by omega, by go_num, hbel4⟩
              case measure => simp [intOf]; omega
            · have hge : ¬ (p : Int) < l k q := by omega
              go_wp2
              go_roundw
              case rel => exact ⟨q + 1, by omega, by go_num, hbel3⟩
              case measure => simp [intOf]; omega
        · have hge : ¬ (q : Int) < m k := by omega
          go_wp2
          go_roundw
          case rel => exact ⟨k + 1, by omega, by go_num, hbel2⟩
          case measure => simp [intOf]; omega
    · have hge : ¬ (k : Int) < n := by omega
      go_wp2
      go_ret
      exact ⟨rfl, hbW.trans (hbel.mono hbW.size)⟩
end Go.Proofs.Qxb6604686a
