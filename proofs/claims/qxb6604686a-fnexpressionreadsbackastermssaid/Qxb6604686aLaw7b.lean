import Derived.Test.Qxb6604686aZz
import Derived.Test.Qxb6604686aFit
import Derived.Test.Qxb6604686aIsSet
import Derived.Deep.RegionWith
import Derived.Test.Qxb6604686aLaw7
namespace Go.Proofs.Qxb6604686a
open Go.RowKit

set_option maxRecDepth 100000 in
set_option maxHeartbeats 2000000 in
theorem law7_many (v : Value) (n : Nat) (m : Nat → Nat) (l : Nat → Nat → Nat) (s : Nat → Nat → Nat → ByteArray) (w : World) (h : S3 0 w v n m l s) (hcond : n ≠ 1) :
    Calls Try.prog 4 #[v] w fun e w' => e = .returned (.bool true) ∧ Below w.heap.size w w' := by
  have Z := hide (zz17_any v n m l s w h)
  have F := hide (fit_any v n m l s w h)
  have HS3 := hide h
  have H1 := hide hcond
  clear h hcond
  go_enter Try.func4, Try.ntmps4
  go_wp2_with fail
  refine Z.out.mono ?_
  rintro e w0 ⟨⟨b, rfl⟩, rfl⟩
  clear Z
  cases b
  · go_wp2
    go_ret
    exact ⟨rfl, Below.refl _ _⟩
  go_wp2_with fail
  refine F.out.mono ?_
  rintro e w0 ⟨⟨b, rfl, hfit⟩, rfl⟩
  clear F
  cases b
  · clear hfit
    go_wp2
    go_ret
    exact ⟨rfl, Below.refl _ _⟩
  obtain ⟨hn, hf⟩ := hfit rfl
  have HF := hide hf
  clear hfit
  go_wp2_with fail
  refine (copyt_any v n m l s w hn hf HS3.out).mono ?_
  rintro e w1 ⟨⟨a, cap, rfl, hs1⟩, hb1⟩
  obtain ⟨a', cap', U, hv, _, hT, hS⟩ := pickU (hs1.weak (Nat.zero_le _))
  simp only [Value.slice.injEq, true_and] at hv
  obtain ⟨rfl, rfl⟩ := hv
  have HT := hide hT
  have HS := hide hS
  clear hT hS hs1 hf
  go_wp2_with fail
  refine (build_any a n cap m l w1 (fun i hi => (HF.out i hi).1) hn U (fun i j hi hj => by obtain ⟨a, c, e, _⟩ := HS.out i j hi hj; exact ⟨a, c, e⟩) (fun i hi => by obtain ⟨a2, c2, h1, _, h2⟩ := HT.out i hi; exact ⟨a2, c2, h1, h2⟩)).mono ?_
  rintro e w2 ⟨⟨ae, cape, rfl, he2⟩, hb2⟩
  obtain ⟨a', cap', R, hv, hR⟩ := pickR (he2.weak (Nat.zero_le _))
  simp only [Value.slice.injEq, true_and] at hv
  obtain ⟨rfl, rfl⟩ := hv
  have HR := hide hR
  clear hR he2
  go_wp2_with fail
  refine (group_any ae n cape w2).mono ?_
  rintro e w3 ⟨rfl, hg3, hb3⟩
  go_wp2_with fail
  refine (zexpr_any w2.heap.size n cape ae m U R w3 hn hg3 (fun i hi => ⟨(HR.out i hi).1.kept (fun b _ h => hb3.block b h), (HR.out i hi).2.kept (fun b _ h => hb3.block b h)⟩) (fun i hi h1 => by obtain ⟨a, c, e, _⟩ := HS.out i 0 hi (by omega); exact ⟨a, _, c, e⟩)).mono ?_
  rintro e w4 ⟨⟨kd, a1, l1, c1, a5, l5, c5, rfl, htop⟩, hb4⟩
  have hs1 := hb1.size
  have hs2 := hb2.size
  have hs3 := hb3.size
  have hs4 := hb4.size
  have hbw4 : Below w.heap.size w w4 := ((hb1.trans (hb2.mono (by omega))).trans (hb3.mono (by omega))).trans (hb4.mono (by omega))
  have k14 : ∀ b, 0 ≤ b → b < w1.heap.size → w4.heap[b]? = w1.heap[b]? := fun b _ h => ((hb4.block b (by omega)).trans (hb3.block b (by omega))).trans (hb2.block b h)
  have k24 : ∀ b, 0 ≤ b → b < w2.heap.size → w4.heap[b]? = w2.heap[b]? := fun b _ h => (hb4.block b (by omega)).trans (hb3.block b h)
  have HT4 : Hid (∀ i, i < n → ∃ a2 cap2, At 0 w4 a i (.slice a2 (m i) cap2) ∧ ∀ j, j < m i → At 0 w4 a2 j (U i j)) := hide (fun i hi => by obtain ⟨a2, c2, h1, _, h2⟩ := HT.out i hi; exact ⟨a2, c2, h1.kept k14, fun j hj => (h2 j hj).kept k14⟩)
  have HS4 : Hid (∀ i j, i < n → j < m i → S1 0 w4 (U i j) (l i j) (s i j)) := hide (fun i j hi hj => (HS.out i j hi hj).kept k14)
  have HE4 : Hid (∀ i, i < n → E1 0 w4 (R i) (m i) (U i)) := hide (fun i hi => (HR.out i hi).2.kept k24)
  have HTOP := hide (htop.weak (Nat.zero_le _))
  clear HT HS HR k14 k24 htop hb1 hb2 hb3 hb4 hg3 hs1 hs2 hs3 hs4 HS3

  obtain hx | ⟨_, ao, cp, hc, ha⟩ := HTOP.out
  · exact absurd hx.1 H1.out
  obtain rfl : kd = 3 := by have h := congrFun hc 0; simpa [cells6] using h
  obtain ⟨rfl, rfl, rfl⟩ : a5 = ao ∧ l5 = n ∧ c5 = cp := by have h := congrFun hc 5; simpa [cells6] using h
  have HA := hide ha
  clear hc ha
  have hn1 : ((l5 : Int) == 1) = false := by have := H1.out; rw [beq_eq_false_iff_ne]; omega
  have hl1 : ((l5 : Int) != (l5 : Int)) = false := by simp
  go_wp2
  have hb5 : Below w4.heap.size w4 (w4.alloc (.cells #[.int .i64 3, .slice a1 l1 c1, .string ⟨#[]⟩, .string ⟨#[]⟩, .string ⟨#[]⟩, .slice a5 l5 c5] 35)) := (Below.refl _ _).alloc (Nat.le_refl _) _
  generalize w4.alloc (.cells #[.int .i64 3, .slice a1 l1 c1, .string ⟨#[]⟩, .string ⟨#[]⟩, .string ⟨#[]⟩, .slice a5 l5 c5] 35) = W at *
  have HTP : Hid (∀ i, i < l5 → At6 0 W a5 i (tc m U R i)) := hide (fun i hi => (HA.out i hi).kept (fun b _ h => hb5.block b h))

  have hbW := hbw4.trans (hb5.mono hbw4.size)
  have HTW : Hid (∀ i, i < l5 → ∃ a2 cap2, At 0 W a i (.slice a2 (m i) cap2) ∧ ∀ j, j < m i → At 0 W a2 j (U i j)) := hide (fun i hi => by obtain ⟨a2, c2, h1, h2⟩ := HT4.out i hi; exact ⟨a2, c2, h1.kept (fun b _ h => hb5.block b h), fun j hj => (h2 j hj).kept (fun b _ h => hb5.block b h)⟩)
  have HSW : Hid (∀ i j, i < l5 → j < m i → S1 0 W (U i j) (l i j) (s i j)) := hide (fun i j hi hj => (HS4.out i j hi hj).kept (fun b _ h => hb5.block b h))
  have HEW : Hid (∀ i, i < l5 → E1 0 W (R i) (m i) (U i)) := hide (fun i hi => (HE4.out i hi).kept (fun b _ h => hb5.block b h))
  clear HT4 HS4 HE4 HTOP hb5 hbw4
  go_loopw [42] (fun i wr => ∃ k : Nat, k ≤ l5 ∧ i = .int .i64 k ∧ Below W.heap.size W wr) (fun i _ => l5 - (intOf i).toNat)
  case atStart => exact ⟨0, by omega, rfl, Below.refl _ _⟩
  case round =>
    obtain ⟨k, hk, rfl, hbel⟩ := hrel
    by_cases hlt : k < l5
    · have hltL : (k : Int) < l5 := by omega
      obtain ⟨bt, hat, _, hct⟩ := HTP.out k hlt
      subst hat
      obtain ⟨a2, cap2, ⟨bs, os, rfl, _, hcs⟩, hin⟩ := HTW.out k hlt
      have HIN := hide hin
      have hcs' := (hbel.cell (block_lt_of_cell hcs)).trans hcs
      have hbt := block_lt_of_cell (hct 0 (by omega))
      have KEEP : Hid (∀ j, j < 6 → wr.cell? ⟨bt, k * 6 + j, none⟩ = some (tc m U R k j)) := hide (fun j hj => (hbel.cell (p := ⟨bt, k * 6 + j, none⟩) hbt).trans (hct j hj))
      have hm := (HF.out k hlt).1
      clear hin hct hcs hbt
      by_cases h1 : m k = 1
      · obtain ⟨a3, c3, hu, _, _⟩ := HSW.out k 0 hlt (by omega)
        have htc : tc m U R k = cells6 0 (.slice a3 (l k 0) c3) (.slice none 0 0) := by unfold tc; rw [if_pos h1, hu]
        have q0 : wr.cell? ⟨bt, k * 6, none⟩ = some (.int .i64 0) := by have := KEEP.out 0 (by omega); rw [htc] at this; exact this
        have q1 : wr.cell? ⟨bt, k * 6 + 1, none⟩ = some (.slice a3 (l k 0) c3) := by have := KEEP.out 1 (by omega); rw [htc] at this; exact this
        have q2 : wr.cell? ⟨bt, k * 6 + 2, none⟩ = some (.string ⟨#[]⟩) := by have := KEEP.out 2 (by omega); rw [htc] at this; exact this
        have q3 : wr.cell? ⟨bt, k * 6 + 3, none⟩ = some (.string ⟨#[]⟩) := by have := KEEP.out 3 (by omega); rw [htc] at this; exact this
        have q4 : wr.cell? ⟨bt, k * 6 + 4, none⟩ = some (.string ⟨#[]⟩) := by have := KEEP.out 4 (by omega); rw [htc] at this; exact this
        have q5 : wr.cell? ⟨bt, k * 6 + 5, none⟩ = some (.slice none 0 0) := by have := KEEP.out 5 (by omega); rw [htc] at this; exact this
        have hl2 : ((1 : Int) != (m k : Int)) = false := by rw [bne_eq_false_iff_eq]; omega
        have HU0 := hide hu
        have HM1 := hide h1
        clear h1 hu htc KEEP
        have cs2 : ∀ o1 o2 : Obj, ((wr.alloc o1).alloc o2).cell? ⟨bs, os + k, none⟩ = some (.slice a2 (m k) cap2) := fun o1 o2 => by
          rw [World.cell?_alloc_lt _ _ _ (by have := block_lt_of_cell hcs'; simp only [World.size_alloc] at this ⊢; omega), World.cell?_alloc_lt _ _ _ (block_lt_of_cell hcs')]
          exact hcs'
        go_wp2
        obtain ⟨wo, hwo⟩ : ∃ wo : World, wo = wr := ⟨_, rfl⟩
        subst hwo
        have hb6 : Below wo.heap.size wo ((wo.alloc (.cells #[.int .i64 0, .slice a3 (l k 0) c3, .string ⟨#[]⟩, .string ⟨#[]⟩, .string ⟨#[]⟩, .slice none 0 0] 35)).alloc (.cells #[.int .i64 0, .slice a3 (l k 0) c3, .string ⟨#[]⟩, .string ⟨#[]⟩, .string ⟨#[]⟩, .slice none 0 0] 35)) := ((Below.refl _ _).alloc (Nat.le_refl _) _).alloc (by simp) _
        have T6 := At6.new (wo.alloc (.cells #[.int .i64 0, .slice a3 (l k 0) c3, .string ⟨#[]⟩, .string ⟨#[]⟩, .string ⟨#[]⟩, .slice none 0 0] 35)) (.int .i64 0) (.slice a3 (l k 0) c3) (.string ⟨#[]⟩) (.string ⟨#[]⟩) (.string ⟨#[]⟩) (.slice none 0 0) (cells6 0 (U k 0) (.slice none 0 0)) (by rw [HU0.out]; exact ⟨rfl, rfl, rfl, rfl, rfl, rfl⟩)
        simp only [World.size_alloc] at T6
        clear q0 q1 q2 q3 q4 q5 cs2
        generalize ((wo.alloc (.cells #[.int .i64 0, .slice a3 (l k 0) c3, .string ⟨#[]⟩, .string ⟨#[]⟩, .string ⟨#[]⟩, .slice none 0 0] 35)).alloc (.cells #[.int .i64 0, .slice a3 (l k 0) c3, .string ⟨#[]⟩, .string ⟨#[]⟩, .string ⟨#[]⟩, .slice none 0 0] 35)) = W2 at *
        have HFP : Hid (∀ j, j < m k → At6 0 W2 (some ⟨wo.heap.size + 1, 0, none⟩) j (cells6 0 (U k j) (.slice none 0 0))) := hide (fun j hj => by have := HM1.out; obtain rfl : j = 0 := (by omega); exact T6)
        clear T6
        generalize wo.heap.size + 1 = fb0 at *

        have hbo := hbel.trans (hb6.mono hbel.size)
        go_loopw [68] (fun i wr => ∃ q : Nat, q ≤ m k ∧ i = .int .i64 q ∧ Below W2.heap.size W2 wr) (fun i _ => m k - (intOf i).toNat)
        case atStart => exact ⟨0, by omega, rfl, Below.refl _ _⟩
        case round =>
          obtain ⟨q, hq, rfl, hbel2⟩ := hrel
          by_cases hlq : q < m k
          · have hltF : (q : Int) < 1 := by have := HM1.out; omega
            obtain ⟨fb, haf, _, hcf⟩ := HFP.out q hlq
            obtain rfl : fb = fb0 := by simpa using haf.symm
            obtain ⟨b2, o2, hx, _, hc2⟩ := HIN.out q hlq
            subst hx
            obtain ⟨a4, c4, hu4, hm4, hc4⟩ := HSW.out k q hlt hlq
            have hbb := hbo.trans (hbel2.mono hbo.size)
            have HSX : Hid (∀ W', Below wr.heap.size wr W' → S1 0 W' (.slice a4 (l k q) c4) (l k q) (s k q)) := hide (fun W' hB => (S1.kept (B := 0) ⟨a4, c4, rfl, hm4, hc4⟩ (fun b _ h => hbb.block b h)).kept (fun b _ h => hB.block b h))
            have hl := (HF.out k hlt).2 q hlq
            rw [hu4] at hc2 hcf
            have hfb := block_lt_of_cell (hcf 0 (by omega))
            have kf : ∀ j, wr.cell? ⟨fb, j, none⟩ = W2.cell? ⟨fb, j, none⟩ := fun j => hbel2.cell (p := ⟨fb, j, none⟩) hfb
            have q0 : wr.cell? ⟨fb, q * 6, none⟩ = some (.int .i64 0) := (kf _).trans (hcf 0 (by omega))
            have q1 : wr.cell? ⟨fb, q * 6 + 1, none⟩ = some (.slice a4 (l k q) c4) := (kf _).trans (hcf 1 (by omega))
            have q2 : wr.cell? ⟨fb, q * 6 + 2, none⟩ = some (.string ⟨#[]⟩) := (kf _).trans (hcf 2 (by omega))
            have q3 : wr.cell? ⟨fb, q * 6 + 3, none⟩ = some (.string ⟨#[]⟩) := (kf _).trans (hcf 3 (by omega))
            have q4 : wr.cell? ⟨fb, q * 6 + 4, none⟩ = some (.string ⟨#[]⟩) := (kf _).trans (hcf 4 (by omega))
            have q5 : wr.cell? ⟨fb, q * 6 + 5, none⟩ = some (.slice none 0 0) := (kf _).trans (hcf 5 (by omega))
            have r1 : wr.cell? ⟨bs, os + k, none⟩ = some (.slice (some ⟨b2, o2, none⟩) (m k) cap2) := ((hbel2.cell (by have := block_lt_of_cell hcs'; have := hb6.size; simp only [] at *; omega)).trans (hb6.cell (block_lt_of_cell hcs'))).trans hcs'
            have r2 : wr.cell? ⟨b2, o2 + q, none⟩ = some (.slice a4 (l k q) c4) := (hbb.cell (block_lt_of_cell hc2)).trans hc2
            have s1 := block_lt_of_cell r1
            have s2 := block_lt_of_cell r2
            simp only [] at s1 s2
            have hlqm : (q : Int) < m k := by omega
            have hltk : (k : Int) < l5 := by omega
            have hbel3 := hbel2
            clear hu4 hc2 hcf hfb hc4 kf hbel2
            go_wp2
            go_region_with (go_at_call 18; refine (isset_any a4 (l k q) c4 (s k q) _ hl (by first | exact HSX.out _ ((Below.refl _ _).alloc (Nat.le_refl _) _).drew | exact HSX.out _ ((Below.refl _ _).alloc (Nat.le_refl _) _))).mono ?_; rintro e w6 ⟨rfl, hb7⟩)
            all_goals
              go_wp2
              go_roundw
              case rel => exact ⟨q + 1, by omega, by go_num, hbel3.trans (((((Below.refl _ _).alloc (Nat.le_refl _) _).drew.trans (hb7.mono (by simp)))).mono hbel3.size)⟩
              case measure => simp [intOf]; omega
          · have hgeF : ¬ (q : Int) < 1 := by have := HM1.out; omega
            go_wp2
            go_roundw
            case rel => exact ⟨k + 1, by omega, by go_num, hbo.trans (hbel2.mono hbo.size)⟩
            case measure => simp [intOf]; omega
      · obtain ⟨ar, cr, hRk, _, hE⟩ := HEW.out k hlt
        have htc : tc m U R k = cells6 4 (.slice none 0 0) (.slice ar (m k) cr) := by unfold tc; rw [if_neg h1, hRk]
        have q0 : wr.cell? ⟨bt, k * 6, none⟩ = some (.int .i64 4) := by have := KEEP.out 0 (by omega); rw [htc] at this; exact this
        have q1 : wr.cell? ⟨bt, k * 6 + 1, none⟩ = some (.slice none 0 0) := by have := KEEP.out 1 (by omega); rw [htc] at this; exact this
        have q2 : wr.cell? ⟨bt, k * 6 + 2, none⟩ = some (.string ⟨#[]⟩) := by have := KEEP.out 2 (by omega); rw [htc] at this; exact this
        have q3 : wr.cell? ⟨bt, k * 6 + 3, none⟩ = some (.string ⟨#[]⟩) := by have := KEEP.out 3 (by omega); rw [htc] at this; exact this
        have q4 : wr.cell? ⟨bt, k * 6 + 4, none⟩ = some (.string ⟨#[]⟩) := by have := KEEP.out 4 (by omega); rw [htc] at this; exact this
        have q5 : wr.cell? ⟨bt, k * 6 + 5, none⟩ = some (.slice ar (m k) cr) := by have := KEEP.out 5 (by omega); rw [htc] at this; exact this
        have hl2 : ((m k : Int) == 1) = false := by rw [beq_eq_false_iff_ne]; omega
        have hl3 : ((m k : Int) != (m k : Int)) = false := by simp
        have HE := hide hE
        clear h1 hRk htc KEEP hE
        have cs2 : ∀ o1 : Obj, (wr.alloc o1).cell? ⟨bs, os + k, none⟩ = some (.slice a2 (m k) cap2) := fun o1 => by
          rw [World.cell?_alloc_lt _ _ _ (block_lt_of_cell hcs')]
          exact hcs'
        go_wp2
        obtain ⟨wo, hwo⟩ : ∃ wo : World, wo = wr := ⟨_, rfl⟩
        subst hwo
        have hb6 : Below wo.heap.size wo (wo.alloc (.cells #[.int .i64 4, .slice none 0 0, .string ⟨#[]⟩, .string ⟨#[]⟩, .string ⟨#[]⟩, .slice ar (m k) cr] 35)) := (Below.refl _ _).alloc (Nat.le_refl _) _
        clear q0 q1 q2 q3 q4 q5 cs2
        generalize wo.alloc (.cells #[.int .i64 4, .slice none 0 0, .string ⟨#[]⟩, .string ⟨#[]⟩, .string ⟨#[]⟩, .slice ar (m k) cr] 35) = W2 at *
        have HFP : Hid (∀ j, j < m k → At6 0 W2 ar j (cells6 0 (U k j) (.slice none 0 0))) := hide (fun j hj => ((HE.out j hj).kept (fun b _ h => hbel.block b h)).kept (fun b _ h => hb6.block b h))

        have hbo := hbel.trans (hb6.mono hbel.size)
        go_loopw [68] (fun i wr => ∃ q : Nat, q ≤ m k ∧ i = .int .i64 q ∧ Below W2.heap.size W2 wr) (fun i _ => m k - (intOf i).toNat)
        case atStart => exact ⟨0, by omega, rfl, Below.refl _ _⟩
        case round =>
          obtain ⟨q, hq, rfl, hbel2⟩ := hrel
          by_cases hlq : q < m k
          · have hltF : (q : Int) < m k := by omega
            obtain ⟨fb, haf, _, hcf⟩ := HFP.out q hlq
            subst haf
            obtain ⟨b2, o2, hx, _, hc2⟩ := HIN.out q hlq
            subst hx
            obtain ⟨a4, c4, hu4, hm4, hc4⟩ := HSW.out k q hlt hlq
            have hbb := hbo.trans (hbel2.mono hbo.size)
            have HSX : Hid (∀ W', Below wr.heap.size wr W' → S1 0 W' (.slice a4 (l k q) c4) (l k q) (s k q)) := hide (fun W' hB => (S1.kept (B := 0) ⟨a4, c4, rfl, hm4, hc4⟩ (fun b _ h => hbb.block b h)).kept (fun b _ h => hB.block b h))
            have hl := (HF.out k hlt).2 q hlq
            rw [hu4] at hc2 hcf
            have hfb := block_lt_of_cell (hcf 0 (by omega))
            have kf : ∀ j, wr.cell? ⟨fb, j, none⟩ = W2.cell? ⟨fb, j, none⟩ := fun j => hbel2.cell (p := ⟨fb, j, none⟩) hfb
            have q0 : wr.cell? ⟨fb, q * 6, none⟩ = some (.int .i64 0) := (kf _).trans (hcf 0 (by omega))
            have q1 : wr.cell? ⟨fb, q * 6 + 1, none⟩ = some (.slice a4 (l k q) c4) := (kf _).trans (hcf 1 (by omega))
            have q2 : wr.cell? ⟨fb, q * 6 + 2, none⟩ = some (.string ⟨#[]⟩) := (kf _).trans (hcf 2 (by omega))
            have q3 : wr.cell? ⟨fb, q * 6 + 3, none⟩ = some (.string ⟨#[]⟩) := (kf _).trans (hcf 3 (by omega))
            have q4 : wr.cell? ⟨fb, q * 6 + 4, none⟩ = some (.string ⟨#[]⟩) := (kf _).trans (hcf 4 (by omega))
            have q5 : wr.cell? ⟨fb, q * 6 + 5, none⟩ = some (.slice none 0 0) := (kf _).trans (hcf 5 (by omega))
            have r1 : wr.cell? ⟨bs, os + k, none⟩ = some (.slice (some ⟨b2, o2, none⟩) (m k) cap2) := ((hbel2.cell (by have := block_lt_of_cell hcs'; have := hb6.size; simp only [] at *; omega)).trans (hb6.cell (block_lt_of_cell hcs'))).trans hcs'
            have r2 : wr.cell? ⟨b2, o2 + q, none⟩ = some (.slice a4 (l k q) c4) := (hbb.cell (block_lt_of_cell hc2)).trans hc2
            have s1 := block_lt_of_cell r1
            have s2 := block_lt_of_cell r2
            simp only [] at s1 s2
            have hlqm : (q : Int) < m k := by omega
            have hltk : (k : Int) < l5 := by omega
            have hbel3 := hbel2
            clear hu4 hc2 hcf hfb hc4 kf hbel2
            go_wp2
            go_region_with (go_at_call 18; refine (isset_any a4 (l k q) c4 (s k q) _ hl (by first | exact HSX.out _ ((Below.refl _ _).alloc (Nat.le_refl _) _).drew | exact HSX.out _ ((Below.refl _ _).alloc (Nat.le_refl _) _))).mono ?_; rintro e w6 ⟨rfl, hb7⟩)
            all_goals
              go_wp2
              go_roundw
              case rel => exact ⟨q + 1, by omega, by go_num, hbel3.trans (((((Below.refl _ _).alloc (Nat.le_refl _) _).drew.trans (hb7.mono (by simp)))).mono hbel3.size)⟩
              case measure => simp [intOf]; omega
          · have hgeF : ¬ (q : Int) < m k := by omega
            go_wp2
            go_roundw
            case rel => exact ⟨k + 1, by omega, by go_num, hbo.trans (hbel2.mono hbo.size)⟩
            case measure => simp [intOf]; omega
    · have hge : ¬ (k : Int) < l5 := by omega
      go_wp2
      go_ret
      exact ⟨rfl, hbW.trans (hbel.mono hbW.size)⟩
end Go.Proofs.Qxb6604686a
