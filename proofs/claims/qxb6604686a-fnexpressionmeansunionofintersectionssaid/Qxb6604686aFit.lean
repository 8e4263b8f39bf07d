import Derived.Test.Qxb6604686aMem
namespace Go.Proofs.Qxb6604686a
open Go.RowKit

/-- what exprTermsFit's 'true' says of the lengths -/
def Fits (n : Nat) (m : Nat → Nat) (l : Nat → Nat → Nat) : Prop := n ≤ 4096 ∧ ∀ i, i < n → m i ≤ 4096 ∧ ∀ j, j < m i → l i j ≤ 4096
def FitPost (e : Ending) (n : Nat) (m : Nat → Nat) (l : Nat → Nat → Nat) : Prop := ∃ b, e = .returned (.bool b) ∧ (b = true → Fits n m l)
theorem fit_no (n : Nat) (m : Nat → Nat) (l : Nat → Nat → Nat) : FitPost (.returned (.bool false)) n m l := ⟨false, rfl, fun h => by cases h⟩
theorem fit_yes {n : Nat} {m : Nat → Nat} {l : Nat → Nat → Nat} (h : Fits n m l) : FitPost (.returned (.bool true)) n m l := ⟨true, rfl, fun _ => h⟩

set_option maxRecDepth 100000 in
set_option maxHeartbeats 1000000 in
theorem fit_any (v : Value) (n : Nat) (m : Nat → Nat) (l : Nat → Nat → Nat) (s : Nat → Nat → Nat → ByteArray) (w : World) (h : S3 0 w v n m l s) :
    Calls Try.prog 10 #[v] w fun e w' => FitPost e n m l ∧ w = w' := by
  obtain ⟨a, cap, rfl, hn, H⟩ := h
  have HH := hide H
  clear H
  unfold maxLen at hn
  by_cases hb1 : 4096 < n
  · go_enter Try.func10, Try.ntmps10
    go_wp2
    go_ret
    exact ⟨fit_no _ _ _, rfl⟩
  have d1 : decide ((4096 : Int) < (n : Int)) = false := decide_eq_false (by omega)
  go_enter Try.func10, Try.ntmps10
  go_wp2
  go_loop [3, 4, 21] (fun t y i => ∃ k z q : Nat, k ≤ n ∧ i = .int .i64 k ∧ t = .int .i64 z ∧ y = .int .i64 q ∧ z ≤ 4096 ∧ q ≤ 1048576 ∧ Hid (∀ i, i < k → m i ≤ 4096 ∧ ∀ j, j < m i → l i j ≤ 4096)) (fun _ _ i => n - (intOf i).toNat)
  case atStart => exact ⟨0, n, 24 * n, by omega, rfl, rfl, by go_num, by omega, by omega, hide (fun i hi => absurd hi (by omega))⟩
  case round =>
    obtain ⟨k, z, q, hk, rfl, rfl, rfl, hz, hq, HF⟩ := hrel
    by_cases hlt : k < n
    · obtain ⟨u, ⟨b, off, rfl, _, hc⟩, a2, cap2, rfl, hn2, H2⟩ := HH.out k hlt
      have HH2 := hide H2
      clear H2
      unfold maxLen at hn2
      have hm2 : ∃ m2, m k = m2 := ⟨_, rfl⟩
      obtain ⟨m2, hm2⟩ := hm2
      have hl2 : ∃ l2, l k = l2 := ⟨_, rfl⟩
      obtain ⟨l2, hl2⟩ := hl2
      rw [hm2] at hc hn2 HH2
      rw [hl2] at HH2
      have HM := hide hm2
      have HLL := hide hl2
      clear hm2 hl2
      by_cases hb2 : 4096 < m2
      · go_wp2
        go_ret
        exact ⟨fit_no _ _ _, rfl⟩
      by_cases hb3 : 4096 < z + m2
      · have g1 : decide ((4096 : Int) < (z : Int) + (m2 : Int)) = true := decide_eq_true (by omega)
        go_wp2
        go_ret
        exact ⟨fit_no _ _ _, rfl⟩
      have g1 : decide ((4096 : Int) < (z : Int) + (m2 : Int)) = false := decide_eq_false (by omega)
      by_cases hb4 : 1048576 < q + 24 * m2
      · go_wp2
        go_ret
        exact ⟨fit_no _ _ _, rfl⟩
      go_wp2
      go_loop [3, 4, 45] (fun t y i => ∃ k2 z q : Nat, k2 ≤ m2 ∧ i = .int .i64 k2 ∧ t = .int .i64 z ∧ y = .int .i64 q ∧ z ≤ 4096 ∧ q ≤ 1048576 ∧ Hid (∀ j, j < k2 → l2 j ≤ 4096)) (fun _ _ i => m2 - (intOf i).toNat)
      case atStart => exact ⟨0, z + m2, q + 24 * m2, by omega, rfl, by go_num, by go_num, by omega, by omega, hide (fun i hi => absurd hi (by omega))⟩
      case round =>
        obtain ⟨k2, z2, q2, hk2, rfl, rfl, rfl, hz2, hq2, HF2⟩ := hrel
        by_cases hlt2 : k2 < m2
        · obtain ⟨u, ⟨b2, off2, rfl, _, hc2⟩, a3, cap3, rfl, hn3, H3⟩ := HH2.out k2 hlt2
          have HH3 := hide H3
          clear H3
          unfold maxLen at hn3
          have hm3 : ∃ n3, l2 k2 = n3 := ⟨_, rfl⟩
          obtain ⟨n3, hm3⟩ := hm3
          rw [hm3] at hc2 hn3 HH3
          have HM3 := hide hm3
          clear hm3
          generalize s k k2 = s3 at *
          by_cases hb5 : 4096 < n3
          · go_wp2
            go_ret
            exact ⟨fit_no _ _ _, rfl⟩
          by_cases hb6 : 4096 < z2 + n3
          · have g2 : decide ((4096 : Int) < (z2 : Int) + (n3 : Int)) = true := decide_eq_true (by omega)
            go_wp2
            go_ret
            exact ⟨fit_no _ _ _, rfl⟩
          have g2 : decide ((4096 : Int) < (z2 : Int) + (n3 : Int)) = false := decide_eq_false (by omega)
          by_cases hb7 : 1048576 < q2 + 16 * n3
          · go_wp2
            go_ret
            exact ⟨fit_no _ _ _, rfl⟩
          go_wp2
          go_loop [4, 69] (fun y i => ∃ k3 q : Nat, k3 ≤ n3 ∧ i = .int .i64 k3 ∧ y = .int .i64 q ∧ q ≤ 1048576) (fun _ i => n3 - (intOf i).toNat)
          case atStart => exact ⟨0, q2 + 16 * n3, by omega, rfl, by go_num, by omega⟩
          case round =>
            obtain ⟨k3, q3, hk3, rfl, rfl, hq3⟩ := hrel
            by_cases hlt3 : k3 < n3
            · obtain ⟨b3, off3, rfl, _, hc3⟩ := HH3.out k3 hlt3
              by_cases hb8 : 1048576 < (s3 k3).size
              · go_wp2
                go_ret
                exact ⟨fit_no _ _ _, rfl⟩
              by_cases hb9 : 1048576 < q3 + (s3 k3).size
              · go_wp2
                go_ret
                exact ⟨fit_no _ _ _, rfl⟩
              go_wp2
              go_round
              case rel => exact ⟨k3 + 1, q3 + (s3 k3).size, by omega, by go_num, by go_num, by omega⟩
              case measure => simp [intOf]; omega
            · obtain rfl : k3 = n3 := by omega
              go_wp2
              go_round
              case rel =>
                refine ⟨k2 + 1, z2 + k3, q3, by omega, by go_num, by go_num, rfl, by omega, by omega, hide (fun j hj => ?_)⟩
                by_cases e : j = k2
                · rw [e, HM3.out]; omega
                · exact HF2.out j (by omega)
              case measure => simp [intOf]; omega
        · obtain rfl : k2 = m2 := by omega
          go_wp2
          go_round
          case rel =>
            refine ⟨k + 1, z2, q2, by omega, by go_num, rfl, rfl, by omega, by omega, hide (fun i hi => ?_)⟩
            by_cases e : i = k
            · rw [e, HM.out, HLL.out]; exact ⟨by omega, HF2.out⟩
            · exact HF.out i (by omega)
          case measure => simp [intOf]; omega
    · obtain rfl : k = n := by omega
      go_wp2
      go_ret
      exact ⟨fit_yes ⟨by omega, HF.out⟩, rfl⟩
end Go.Proofs.Qxb6604686a
