import Derived.Test.Qxb6603597aModsStrs
namespace Go.Proofs.Qxb6603597aMods
open Go.ChangeShapes Go.WideShapes Go.ChangeAt Go.RowKit
set_option linter.unusedVariables false

set_option maxRecDepth 100000 in
set_option maxHeartbeats 4000000 in
theorem bytes7_any (a0 a1 a2 a3 a4 a5 a6 a7 : Option Addr) (c0 c1 c2 c3 c4 c5 c6 c7 : Nat) (s0 s1 s2 s3 s4 s5 s6 s7 : List ByteArray) (w : World)
    (n0 : s0.length ≤ 9223372036854775807) (n1 : s1.length ≤ 9223372036854775807) (n2 : s2.length ≤ 9223372036854775807) (n3 : s3.length ≤ 9223372036854775807) (n4 : s4.length ≤ 9223372036854775807) (n5 : s5.length ≤ 9223372036854775807) (n6 : s6.length ≤ 9223372036854775807) (n7 : s7.length ≤ 9223372036854775807)
    (h0 : StrsAt w a0 s0) (h1 : StrsAt w a1 s1) (h2 : StrsAt w a2 s2) (h3 : StrsAt w a3 s3) (h4 : StrsAt w a4 s4) (h5 : StrsAt w a5 s5) (h6 : StrsAt w a6 s6) (h7 : StrsAt w a7 s7) :
    Calls Trym.prog 7 #[.slice a0 s0.length c0, .slice a1 s1.length c1, .slice a2 s2.length c2, .slice a3 s3.length c3, .slice a4 s4.length c4, .slice a5 s5.length c5, .slice a6 s6.length c6, .slice a7 s7.length c7] w fun e w' => RetBool e ∧ w' = w := by
  go_enter Trym.func7, Trym.ntmps7
  go_wp2
  all_goals try (go_ret; exact ⟨⟨_, rfl⟩, rfl⟩)
  go_loop [17, 18] (fun u i => ∃ (j : Nat) (z : Int), j ≤ s0.length ∧ i = .int .i64 j ∧ u = .int .i64 z) (fun _ i => s0.length - (intOf i).toNat)
  case atStart => exact ⟨0, _, Nat.zero_le _, rfl, rfl⟩
  obtain ⟨j0, z0, hj0, rfl, rfl⟩ := hrel
  by_cases hlt0 : j0 < s0.length
  · obtain ⟨p, rfl, hc, hs⟩ := h0 j0 hlt0
    clear h0 h1 h2 h3 h4 h5 h6 h7
    go_wp2
    case roundEnd => exact ⟨⟨j0 + 1, _, by omega, by go_num, rfl⟩, by simp [intOf]; omega⟩
    all_goals (go_ret; exact ⟨⟨_, rfl⟩, rfl⟩)
  clear h0
  go_wp2
  all_goals try (go_ret; exact ⟨⟨_, rfl⟩, rfl⟩)
  go_loop [17, 19] (fun u i => ∃ (j : Nat) (z : Int), j ≤ s1.length ∧ i = .int .i64 j ∧ u = .int .i64 z) (fun _ i => s1.length - (intOf i).toNat)
  case atStart => exact ⟨0, _, Nat.zero_le _, rfl, rfl⟩
  obtain ⟨j1, z1, hj1, rfl, rfl⟩ := hrel
  by_cases hlt1 : j1 < s1.length
  · obtain ⟨p, rfl, hc, hs⟩ := h1 j1 hlt1
    clear h1 h2 h3 h4 h5 h6 h7
    go_wp2
    case roundEnd => exact ⟨⟨j1 + 1, _, by omega, by go_num, rfl⟩, by simp [intOf]; omega⟩
    all_goals (go_ret; exact ⟨⟨_, rfl⟩, rfl⟩)
  clear h1
  go_wp2
  all_goals try (go_ret; exact ⟨⟨_, rfl⟩, rfl⟩)
  go_loop [17, 20] (fun u i => ∃ (j : Nat) (z : Int), j ≤ s2.length ∧ i = .int .i64 j ∧ u = .int .i64 z) (fun _ i => s2.length - (intOf i).toNat)
  case atStart => exact ⟨0, _, Nat.zero_le _, rfl, rfl⟩
  obtain ⟨j2, z2, hj2, rfl, rfl⟩ := hrel
  by_cases hlt2 : j2 < s2.length
  · obtain ⟨p, rfl, hc, hs⟩ := h2 j2 hlt2
    clear h2 h3 h4 h5 h6 h7
    go_wp2
    case roundEnd => exact ⟨⟨j2 + 1, _, by omega, by go_num, rfl⟩, by simp [intOf]; omega⟩
    all_goals (go_ret; exact ⟨⟨_, rfl⟩, rfl⟩)
  clear h2
  go_wp2
  all_goals try (go_ret; exact ⟨⟨_, rfl⟩, rfl⟩)
  go_loop [17, 21] (fun u i => ∃ (j : Nat) (z : Int), j ≤ s3.length ∧ i = .int .i64 j ∧ u = .int .i64 z) (fun _ i => s3.length - (intOf i).toNat)
  case atStart => exact ⟨0, _, Nat.zero_le _, rfl, rfl⟩
  obtain ⟨j3, z3, hj3, rfl, rfl⟩ := hrel
  by_cases hlt3 : j3 < s3.length
  · obtain ⟨p, rfl, hc, hs⟩ := h3 j3 hlt3
    clear h3 h4 h5 h6 h7
    go_wp2
    case roundEnd => exact ⟨⟨j3 + 1, _, by omega, by go_num, rfl⟩, by simp [intOf]; omega⟩
    all_goals (go_ret; exact ⟨⟨_, rfl⟩, rfl⟩)
  clear h3
  go_wp2
  all_goals try (go_ret; exact ⟨⟨_, rfl⟩, rfl⟩)
  go_loop [17, 22] (fun u i => ∃ (j : Nat) (z : Int), j ≤ s4.length ∧ i = .int .i64 j ∧ u = .int .i64 z) (fun _ i => s4.length - (intOf i).toNat)
  case atStart => exact ⟨0, _, Nat.zero_le _, rfl, rfl⟩
  obtain ⟨j4, z4, hj4, rfl, rfl⟩ := hrel
  by_cases hlt4 : j4 < s4.length
  · obtain ⟨p, rfl, hc, hs⟩ := h4 j4 hlt4
    clear h4 h5 h6 h7
    go_wp2
    case roundEnd => exact ⟨⟨j4 + 1, _, by omega, by go_num, rfl⟩, by simp [intOf]; omega⟩
    all_goals (go_ret; exact ⟨⟨_, rfl⟩, rfl⟩)
  clear h4
  go_wp2
  all_goals try (go_ret; exact ⟨⟨_, rfl⟩, rfl⟩)
  go_loop [17, 23] (fun u i => ∃ (j : Nat) (z : Int), j ≤ s5.length ∧ i = .int .i64 j ∧ u = .int .i64 z) (fun _ i => s5.length - (intOf i).toNat)
  case atStart => exact ⟨0, _, Nat.zero_le _, rfl, rfl⟩
  obtain ⟨j5, z5, hj5, rfl, rfl⟩ := hrel
  by_cases hlt5 : j5 < s5.length
  · obtain ⟨p, rfl, hc, hs⟩ := h5 j5 hlt5
    clear h5 h6 h7
    go_wp2
    case roundEnd => exact ⟨⟨j5 + 1, _, by omega, by go_num, rfl⟩, by simp [intOf]; omega⟩
    all_goals (go_ret; exact ⟨⟨_, rfl⟩, rfl⟩)
  clear h5
  go_wp2
  all_goals try (go_ret; exact ⟨⟨_, rfl⟩, rfl⟩)
  go_loop [17, 24] (fun u i => ∃ (j : Nat) (z : Int), j ≤ s6.length ∧ i = .int .i64 j ∧ u = .int .i64 z) (fun _ i => s6.length - (intOf i).toNat)
  case atStart => exact ⟨0, _, Nat.zero_le _, rfl, rfl⟩
  obtain ⟨j6, z6, hj6, rfl, rfl⟩ := hrel
  by_cases hlt6 : j6 < s6.length
  · obtain ⟨p, rfl, hc, hs⟩ := h6 j6 hlt6
    clear h6 h7
    go_wp2
    case roundEnd => exact ⟨⟨j6 + 1, _, by omega, by go_num, rfl⟩, by simp [intOf]; omega⟩
    all_goals (go_ret; exact ⟨⟨_, rfl⟩, rfl⟩)
  clear h6
  go_wp2
  all_goals try (go_ret; exact ⟨⟨_, rfl⟩, rfl⟩)
  go_loop [17, 25] (fun u i => ∃ (j : Nat) (z : Int), j ≤ s7.length ∧ i = .int .i64 j ∧ u = .int .i64 z) (fun _ i => s7.length - (intOf i).toNat)
  case atStart => exact ⟨0, _, Nat.zero_le _, rfl, rfl⟩
  obtain ⟨j7, z7, hj7, rfl, rfl⟩ := hrel
  by_cases hlt7 : j7 < s7.length
  · obtain ⟨p, rfl, hc, hs⟩ := h7 j7 hlt7
    clear h7
    go_wp2
    case roundEnd => exact ⟨⟨j7 + 1, _, by omega, by go_num, rfl⟩, by simp [intOf]; omega⟩
    all_goals (go_ret; exact ⟨⟨_, rfl⟩, rfl⟩)
  clear h7
  go_wp2
  all_goals try (go_ret; exact ⟨⟨_, rfl⟩, rfl⟩)
end Go.Proofs.Qxb6603597aMods
