import Derived.Test.Qxb6604686aMem
namespace Go.Proofs.Qxb6604686a
open Go.RowKit

def IsBool (e : Ending) : Prop := ∃ b, e = .returned (.bool b)

set_option maxRecDepth 100000 in
set_option maxHeartbeats 1000000 in
theorem zz17_any (v : Value) (n : Nat) (m : Nat → Nat) (l : Nat → Nat → Nat) (s : Nat → Nat → Nat → ByteArray) (w : World) (h : S3 0 w v n m l s) :
    Calls Try.prog 17 #[v] w fun e w' => IsBool e ∧ w = w' := by
  obtain ⟨a, cap, rfl, hn, H⟩ := h
  have HH := hide H
  clear H
  unfold maxLen at hn
  by_cases hb1 : 1048576 < n
  · go_enter Try.func17, Try.ntmps17
    go_wp2
    go_ret
    exact ⟨⟨_, rfl⟩, rfl⟩
  have d1 : decide ((1048576 : Int) < (n : Int)) = false := decide_eq_false (by omega)
  go_enter Try.func17, Try.ntmps17
  go_wp2
  go_loop [3, 4] (fun t i => ∃ k z : Nat, k ≤ n ∧ i = .int .i64 k ∧ t = .int .i64 z ∧ z ≤ 1048576) (fun _ i => n - (intOf i).toNat)
  case atStart => exact ⟨0, n, by omega, rfl, rfl, by omega⟩
  case round =>
    obtain ⟨k, z, hk, rfl, rfl, hz⟩ := hrel
    by_cases hlt : k < n
    · obtain ⟨u, ⟨b, off, rfl, _, hc⟩, a2, cap2, rfl, hn2, H2⟩ := HH.out k hlt
      have HH2 := hide H2
      clear H2
      unfold maxLen at hn2
      generalize m k = m2 at *
      generalize l k = l2 at *
      generalize s k = s2 at *
      by_cases hb2 : 1048576 < m2
      · go_wp2
        go_ret
        exact ⟨⟨_, rfl⟩, rfl⟩
      by_cases hb3 : 1048576 < z + m2
      · go_wp2
        go_ret
        exact ⟨⟨_, rfl⟩, rfl⟩
      go_wp2
      go_loop [3, 5] (fun t i => ∃ k2 z : Nat, k2 ≤ m2 ∧ i = .int .i64 k2 ∧ t = .int .i64 z ∧ z ≤ 1048576) (fun _ i => m2 - (intOf i).toNat)
      case atStart => exact ⟨0, z + m2, by omega, rfl, by go_num, by omega⟩
      case round =>
        obtain ⟨k2, z, hk2, rfl, rfl, hz2⟩ := hrel
        by_cases hlt2 : k2 < m2
        · obtain ⟨u, ⟨b2, off2, rfl, _, hc2⟩, a3, cap3, rfl, hn3, H3⟩ := HH2.out k2 hlt2
          have HH3 := hide H3
          clear H3
          unfold maxLen at hn3
          generalize l2 k2 = n3 at *
          generalize s2 k2 = s3 at *
          by_cases hb4 : 1048576 < n3
          · go_wp2
            go_ret
            exact ⟨⟨_, rfl⟩, rfl⟩
          by_cases hb5 : 1048576 < z + n3
          · go_wp2
            go_ret
            exact ⟨⟨_, rfl⟩, rfl⟩
          go_wp2
          go_loop [3, 6] (fun t i => ∃ k3 z : Nat, k3 ≤ n3 ∧ i = .int .i64 k3 ∧ t = .int .i64 z ∧ z ≤ 1048576) (fun _ i => n3 - (intOf i).toNat)
          case atStart => exact ⟨0, z + n3, by omega, rfl, by go_num, by omega⟩
          case round =>
            obtain ⟨k3, z, hk3, rfl, rfl, hz3⟩ := hrel
            by_cases hlt3 : k3 < n3
            · obtain ⟨b3, off3, rfl, _, hc3⟩ := HH3.out k3 hlt3
              by_cases hb6 : 1048576 < (s3 k3).size
              · go_wp2
                go_ret
                exact ⟨⟨_, rfl⟩, rfl⟩
              by_cases hb7 : 1048576 < z + (s3 k3).size
              · go_wp2
                go_ret
                exact ⟨⟨_, rfl⟩, rfl⟩
              go_wp2
              go_round
              case rel => exact ⟨k3 + 1, z + (s3 k3).size, by omega, by go_num, by go_num, by omega⟩
              case measure => simp [intOf]; omega
            · obtain rfl : k3 = n3 := by omega
              go_wp2
              go_round
              case rel => exact ⟨k2 + 1, z, by omega, by go_num, rfl, by omega⟩
              case measure => simp [intOf]; omega
        · obtain rfl : k2 = m2 := by omega
          go_wp2
          go_round
          case rel => exact ⟨k + 1, z, by omega, by go_num, rfl, by omega⟩
          case measure => simp [intOf]; omega
    · go_wp2
      go_ret
      exact ⟨⟨_, rfl⟩, rfl⟩

set_option maxRecDepth 100000 in
set_option maxHeartbeats 1000000 in
theorem zz9_any (v : Value) (n : Nat) (m : Nat → Nat) (l : Nat → Nat → Nat) (s : Nat → Nat → Nat → ByteArray) (w : World) (h : S3 0 w v n m l s) :
    Calls Try.prog 9 #[v] w fun e w' => IsBool e ∧ w = w' := by
  obtain ⟨a, cap, rfl, hn, H⟩ := h
  have HH := hide H
  clear H
  unfold maxLen at hn
  by_cases hb1 : 1048576 < n
  · go_enter Try.func9, Try.ntmps9
    go_wp2
    go_ret
    exact ⟨⟨_, rfl⟩, rfl⟩
  have d1 : decide ((1048576 : Int) < (n : Int)) = false := decide_eq_false (by omega)
  go_enter Try.func9, Try.ntmps9
  go_wp2
  go_loop [3, 4] (fun t i => ∃ k z : Nat, k ≤ n ∧ i = .int .i64 k ∧ t = .int .i64 z ∧ z ≤ 1048576) (fun _ i => n - (intOf i).toNat)
  case atStart => exact ⟨0, n, by omega, rfl, rfl, by omega⟩
  case round =>
    obtain ⟨k, z, hk, rfl, rfl, hz⟩ := hrel
    by_cases hlt : k < n
    · obtain ⟨u, ⟨b, off, rfl, _, hc⟩, a2, cap2, rfl, hn2, H2⟩ := HH.out k hlt
      have HH2 := hide H2
      clear H2
      unfold maxLen at hn2
      generalize m k = m2 at *
      generalize l k = l2 at *
      generalize s k = s2 at *
      by_cases hb2 : 1048576 < m2
      · go_wp2
        go_ret
        exact ⟨⟨_, rfl⟩, rfl⟩
      by_cases hb3 : 1048576 < z + m2
      · go_wp2
        go_ret
        exact ⟨⟨_, rfl⟩, rfl⟩
      go_wp2
      go_loop [3, 5] (fun t i => ∃ k2 z : Nat, k2 ≤ m2 ∧ i = .int .i64 k2 ∧ t = .int .i64 z ∧ z ≤ 1048576) (fun _ i => m2 - (intOf i).toNat)
      case atStart => exact ⟨0, z + m2, by omega, rfl, by go_num, by omega⟩
      case round =>
        obtain ⟨k2, z, hk2, rfl, rfl, hz2⟩ := hrel
        by_cases hlt2 : k2 < m2
        · obtain ⟨u, ⟨b2, off2, rfl, _, hc2⟩, a3, cap3, rfl, hn3, H3⟩ := HH2.out k2 hlt2
          have HH3 := hide H3
          clear H3
          unfold maxLen at hn3
          generalize l2 k2 = n3 at *
          generalize s2 k2 = s3 at *
          by_cases hb4 : 1048576 < n3
          · go_wp2
            go_ret
            exact ⟨⟨_, rfl⟩, rfl⟩
          by_cases hb5 : 1048576 < z + n3
          · go_wp2
            go_ret
            exact ⟨⟨_, rfl⟩, rfl⟩
          go_wp2
          go_loop [3, 6] (fun t i => ∃ k3 z : Nat, k3 ≤ n3 ∧ i = .int .i64 k3 ∧ t = .int .i64 z ∧ z ≤ 1048576) (fun _ i => n3 - (intOf i).toNat)
          case atStart => exact ⟨0, z + n3, by omega, rfl, by go_num, by omega⟩
          case round =>
            obtain ⟨k3, z, hk3, rfl, rfl, hz3⟩ := hrel
            by_cases hlt3 : k3 < n3
            · obtain ⟨b3, off3, rfl, _, hc3⟩ := HH3.out k3 hlt3
              by_cases hb6 : 1048576 < (s3 k3).size
              · go_wp2
                go_ret
                exact ⟨⟨_, rfl⟩, rfl⟩
              by_cases hb7 : 1048576 < z + (s3 k3).size
              · go_wp2
                go_ret
                exact ⟨⟨_, rfl⟩, rfl⟩
              go_wp2
              go_round
              case rel => exact ⟨k3 + 1, z + (s3 k3).size, by omega, by go_num, by go_num, by omega⟩
              case measure => simp [intOf]; omega
            · obtain rfl : k3 = n3 := by omega
              go_wp2
              go_round
              case rel => exact ⟨k2 + 1, z, by omega, by go_num, rfl, by omega⟩
              case measure => simp [intOf]; omega
        · obtain rfl : k2 = m2 := by omega
          go_wp2
          go_round
          case rel => exact ⟨k + 1, z, by omega, by go_num, rfl, by omega⟩
          case measure => simp [intOf]; omega
    · go_wp2
      go_ret
      exact ⟨⟨_, rfl⟩, rfl⟩
end Go.Proofs.Qxb6604686a
