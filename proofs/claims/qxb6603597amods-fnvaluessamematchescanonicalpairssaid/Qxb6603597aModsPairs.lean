import Derived.Test.Qxb6603597aModsSameCanon
import Derived.Test.Qxb6603597aModsBytes7
namespace Go.Proofs.Qxb6603597aMods
open Go.ChangeShapes Go.WideShapes Go.ChangeAt Go.RowKit
set_option linter.unusedVariables false

theorem MapAt.form {w : World} {v : Value} {D : DataW Unit} (h : MapAt w v D) : ∃ o, v = .map o := by
  rcases h with ⟨rfl, _⟩ | ⟨b, rfl, _⟩
  · exact ⟨_, rfl⟩
  · exact ⟨_, rfl⟩

set_option maxRecDepth 100000 in
set_option maxHeartbeats 8000000 in
theorem pairs_walk (a0 a1 a2 a3 a4 a5 a6 a7 : Option Addr) (c0 c1 c2 c3 c4 c5 c6 c7 : Nat) (s0 s1 s2 s3 s4 s5 s6 s7 : List ByteArray) (w : World)
    (n0 : s0.length ≤ 9223372036854775807) (n1 : s1.length ≤ 9223372036854775807) (n2 : s2.length ≤ 9223372036854775807) (n3 : s3.length ≤ 9223372036854775807) (n4 : s4.length ≤ 9223372036854775807) (n5 : s5.length ≤ 9223372036854775807) (n6 : s6.length ≤ 9223372036854775807) (n7 : s7.length ≤ 9223372036854775807)
    (h0 : StrsAt w a0 s0) (h1 : StrsAt w a1 s1) (h2 : StrsAt w a2 s2) (h3 : StrsAt w a3 s3) (h4 : StrsAt w a4 s4) (h5 : StrsAt w a5 s5) (h6 : StrsAt w a6 s6) (h7 : StrsAt w a7 s7)
    (e0 : a0 = none → c0 = 0) (e1 : a1 = none → c1 = 0) (e2 : a2 = none → c2 = 0) (e3 : a3 = none → c3 = 0) (e4 : a4 = none → c4 = 0) (e5 : a5 = none → c5 = 0) (e6 : a6 = none → c6 = 0) (e7 : a7 = none → c7 = 0) :
    Calls Trym.prog 3 #[.slice a0 s0.length c0, .slice a1 s1.length c1, .slice a2 s2.length c2, .slice a3 s3.length c3, .slice a4 s4.length c4, .slice a5 s5.length c5, .slice a6 s6.length c6, .slice a7 s7.length c7] w fun e w' => e = .returned (.bool true) ∧ Below w.heap.size w w' := by
  have E0 : Hid (a0 = none → c0 = 0) := e0
  have E1 : Hid (a1 = none → c1 = 0) := e1
  have E2 : Hid (a2 = none → c2 = 0) := e2
  have E3 : Hid (a3 = none → c3 = 0) := e3
  have E4 : Hid (a4 = none → c4 = 0) := e4
  have E5 : Hid (a5 = none → c5 = 0) := e5
  have E6 : Hid (a6 = none → c6 = 0) := e6
  have E7 : Hid (a7 = none → c7 = 0) := e7
  clear e0 e1 e2 e3 e4 e5 e6 e7
  by_cases l0 : 4096 < s0.length
  · go_enter Trym.func3, Trym.ntmps3
    go_wp2_with fail
    refine (bytes7_any a0 a1 a2 a3 a4 a5 a6 a7 c0 c1 c2 c3 c4 c5 c6 c7 s0 s1 s2 s3 s4 s5 s6 s7 _ n0 n1 n2 n3 n4 n5 n6 n7 h0 h1 h2 h3 h4 h5 h6 h7).mono ?_
    rintro e w' ⟨⟨r, rfl⟩, hw⟩
    subst w'
    cases r
    case false =>
      go_wp2
      go_ret
      exact ⟨rfl, Below.refl _ _⟩
    go_wp2
    go_ret
    exact ⟨rfl, Below.refl _ _⟩
  have l0' : s0.length ≤ 4096 := by omega
  clear l0
  by_cases l1 : 4096 < s1.length
  · go_enter Trym.func3, Trym.ntmps3
    go_wp2_with fail
    refine (bytes7_any a0 a1 a2 a3 a4 a5 a6 a7 c0 c1 c2 c3 c4 c5 c6 c7 s0 s1 s2 s3 s4 s5 s6 s7 _ n0 n1 n2 n3 n4 n5 n6 n7 h0 h1 h2 h3 h4 h5 h6 h7).mono ?_
    rintro e w' ⟨⟨r, rfl⟩, hw⟩
    subst w'
    cases r
    case false =>
      go_wp2
      go_ret
      exact ⟨rfl, Below.refl _ _⟩
    go_wp2
    go_ret
    exact ⟨rfl, Below.refl _ _⟩
  have l1' : s1.length ≤ 4096 := by omega
  clear l1
  by_cases l2 : 4096 < s2.length
  · go_enter Trym.func3, Trym.ntmps3
    go_wp2_with fail
    refine (bytes7_any a0 a1 a2 a3 a4 a5 a6 a7 c0 c1 c2 c3 c4 c5 c6 c7 s0 s1 s2 s3 s4 s5 s6 s7 _ n0 n1 n2 n3 n4 n5 n6 n7 h0 h1 h2 h3 h4 h5 h6 h7).mono ?_
    rintro e w' ⟨⟨r, rfl⟩, hw⟩
    subst w'
    cases r
    case false =>
      go_wp2
      go_ret
      exact ⟨rfl, Below.refl _ _⟩
    go_wp2
    go_ret
    exact ⟨rfl, Below.refl _ _⟩
  have l2' : s2.length ≤ 4096 := by omega
  clear l2
  by_cases l3 : 4096 < s3.length
  · go_enter Trym.func3, Trym.ntmps3
    go_wp2_with fail
    refine (bytes7_any a0 a1 a2 a3 a4 a5 a6 a7 c0 c1 c2 c3 c4 c5 c6 c7 s0 s1 s2 s3 s4 s5 s6 s7 _ n0 n1 n2 n3 n4 n5 n6 n7 h0 h1 h2 h3 h4 h5 h6 h7).mono ?_
    rintro e w' ⟨⟨r, rfl⟩, hw⟩
    subst w'
    cases r
    case false =>
      go_wp2
      go_ret
      exact ⟨rfl, Below.refl _ _⟩
    go_wp2
    go_ret
    exact ⟨rfl, Below.refl _ _⟩
  have l3' : s3.length ≤ 4096 := by omega
  clear l3
  by_cases l4 : 4096 < s4.length
  · go_enter Trym.func3, Trym.ntmps3
    go_wp2_with fail
    refine (bytes7_any a0 a1 a2 a3 a4 a5 a6 a7 c0 c1 c2 c3 c4 c5 c6 c7 s0 s1 s2 s3 s4 s5 s6 s7 _ n0 n1 n2 n3 n4 n5 n6 n7 h0 h1 h2 h3 h4 h5 h6 h7).mono ?_
    rintro e w' ⟨⟨r, rfl⟩, hw⟩
    subst w'
    cases r
    case false =>
      go_wp2
      go_ret
      exact ⟨rfl, Below.refl _ _⟩
    go_wp2
    go_ret
    exact ⟨rfl, Below.refl _ _⟩
  have l4' : s4.length ≤ 4096 := by omega
  clear l4
  by_cases l5 : 4096 < s5.length
  · go_enter Trym.func3, Trym.ntmps3
    go_wp2_with fail
    refine (bytes7_any a0 a1 a2 a3 a4 a5 a6 a7 c0 c1 c2 c3 c4 c5 c6 c7 s0 s1 s2 s3 s4 s5 s6 s7 _ n0 n1 n2 n3 n4 n5 n6 n7 h0 h1 h2 h3 h4 h5 h6 h7).mono ?_
    rintro e w' ⟨⟨r, rfl⟩, hw⟩
    subst w'
    cases r
    case false =>
      go_wp2
      go_ret
      exact ⟨rfl, Below.refl _ _⟩
    go_wp2
    go_ret
    exact ⟨rfl, Below.refl _ _⟩
  have l5' : s5.length ≤ 4096 := by omega
  clear l5
  by_cases l6 : 4096 < s6.length
  · go_enter Trym.func3, Trym.ntmps3
    go_wp2_with fail
    refine (bytes7_any a0 a1 a2 a3 a4 a5 a6 a7 c0 c1 c2 c3 c4 c5 c6 c7 s0 s1 s2 s3 s4 s5 s6 s7 _ n0 n1 n2 n3 n4 n5 n6 n7 h0 h1 h2 h3 h4 h5 h6 h7).mono ?_
    rintro e w' ⟨⟨r, rfl⟩, hw⟩
    subst w'
    cases r
    case false =>
      go_wp2
      go_ret
      exact ⟨rfl, Below.refl _ _⟩
    go_wp2
    go_ret
    exact ⟨rfl, Below.refl _ _⟩
  have l6' : s6.length ≤ 4096 := by omega
  clear l6
  by_cases l7 : 4096 < s7.length
  · go_enter Trym.func3, Trym.ntmps3
    go_wp2_with fail
    refine (bytes7_any a0 a1 a2 a3 a4 a5 a6 a7 c0 c1 c2 c3 c4 c5 c6 c7 s0 s1 s2 s3 s4 s5 s6 s7 _ n0 n1 n2 n3 n4 n5 n6 n7 h0 h1 h2 h3 h4 h5 h6 h7).mono ?_
    rintro e w' ⟨⟨r, rfl⟩, hw⟩
    subst w'
    cases r
    case false =>
      go_wp2
      go_ret
      exact ⟨rfl, Below.refl _ _⟩
    go_wp2
    go_ret
    exact ⟨rfl, Below.refl _ _⟩
  have l7' : s7.length ≤ 4096 := by omega
  clear l7
  go_enter Trym.func3, Trym.ntmps3
  go_wp2_with fail
  refine (bytes7_any a0 a1 a2 a3 a4 a5 a6 a7 c0 c1 c2 c3 c4 c5 c6 c7 s0 s1 s2 s3 s4 s5 s6 s7 _ n0 n1 n2 n3 n4 n5 n6 n7 h0 h1 h2 h3 h4 h5 h6 h7).mono ?_
  rintro e w' ⟨⟨r, rfl⟩, hw⟩
  subst w'
  cases r
  case false =>
    go_wp2
    go_ret
    exact ⟨rfl, Below.refl _ _⟩
  go_wp2_with fail
  refine (addBytes_any _ a0 c0 s0 _ l0' h0).mono ?_
  rintro e w' ⟨⟨t0, rfl⟩, hw⟩
  subst w'
  go_wp2_with fail
  refine (addBytes_any _ a1 c1 s1 _ l1' h1).mono ?_
  rintro e w' ⟨⟨t1, rfl⟩, hw⟩
  subst w'
  go_wp2_with fail
  refine (addBytes_any _ a2 c2 s2 _ l2' h2).mono ?_
  rintro e w' ⟨⟨t2, rfl⟩, hw⟩
  subst w'
  go_wp2_with fail
  refine (addBytes_any _ a3 c3 s3 _ l3' h3).mono ?_
  rintro e w' ⟨⟨t3, rfl⟩, hw⟩
  subst w'
  go_wp2_with fail
  refine (addBytes_any _ a4 c4 s4 _ l4' h4).mono ?_
  rintro e w' ⟨⟨t4, rfl⟩, hw⟩
  subst w'
  go_wp2_with fail
  refine (addBytes_any _ a5 c5 s5 _ l5' h5).mono ?_
  rintro e w' ⟨⟨t5, rfl⟩, hw⟩
  subst w'
  go_wp2_with fail
  refine (addBytes_any _ a6 c6 s6 _ l6' h6).mono ?_
  rintro e w' ⟨⟨t6, rfl⟩, hw⟩
  subst w'
  go_wp2_with fail
  refine (addBytes_any _ a7 c7 s7 _ l7' h7).mono ?_
  rintro e w' ⟨⟨t7, rfl⟩, hw⟩
  subst w'
  by_cases lt : 1048576 < t7
  · go_wp2
    go_ret
    exact ⟨rfl, Below.refl _ _⟩
  go_wp2_with fail
  refine (clone_any a0 c0 s0 _ l0' h0 E0.out).mono ?_
  rintro e w0 ⟨b0, rfl, k0, i0, B0⟩
  replace h1 := h1.below B0
  replace h2 := h2.below B0
  replace h3 := h3.below B0
  replace h4 := h4.below B0
  replace h5 := h5.below B0
  replace h6 := h6.below B0
  replace h7 := h7.below B0
  have BB := B0
  clear h0 B0 i0
  go_wp2_with fail
  refine (clone_any a1 c1 s1 _ l1' h1 E1.out).mono ?_
  rintro e w1 ⟨b1, rfl, k1, i1, B1⟩
  replace k0 := k0.below B1
  replace h2 := h2.below B1
  replace h3 := h3.below B1
  replace h4 := h4.below B1
  replace h5 := h5.below B1
  replace h6 := h6.below B1
  replace h7 := h7.below B1
  replace BB := BB.trans (B1.mono BB.size)
  clear h1 B1 i1
  go_wp2_with fail
  refine (clone_any a2 c2 s2 _ l2' h2 E2.out).mono ?_
  rintro e w2 ⟨b2, rfl, k2, i2, B2⟩
  replace k0 := k0.below B2
  replace k1 := k1.below B2
  replace h3 := h3.below B2
  replace h4 := h4.below B2
  replace h5 := h5.below B2
  replace h6 := h6.below B2
  replace h7 := h7.below B2
  replace BB := BB.trans (B2.mono BB.size)
  clear h2 B2 i2
  go_wp2_with fail
  refine (clone_any a3 c3 s3 _ l3' h3 E3.out).mono ?_
  rintro e w3 ⟨b3, rfl, k3, i3, B3⟩
  replace k0 := k0.below B3
  replace k1 := k1.below B3
  replace k2 := k2.below B3
  replace h4 := h4.below B3
  replace h5 := h5.below B3
  replace h6 := h6.below B3
  replace h7 := h7.below B3
  replace BB := BB.trans (B3.mono BB.size)
  clear h3 B3 i3
  go_wp2_with fail
  refine (clone_any a4 c4 s4 _ l4' h4 E4.out).mono ?_
  rintro e w4 ⟨b4, rfl, k4, i4, B4⟩
  replace k0 := k0.below B4
  replace k1 := k1.below B4
  replace k2 := k2.below B4
  replace k3 := k3.below B4
  replace h5 := h5.below B4
  replace h6 := h6.below B4
  replace h7 := h7.below B4
  replace BB := BB.trans (B4.mono BB.size)
  clear h4 B4 i4
  go_wp2_with fail
  refine (clone_any a5 c5 s5 _ l5' h5 E5.out).mono ?_
  rintro e w5 ⟨b5, rfl, k5, i5, B5⟩
  replace k0 := k0.below B5
  replace k1 := k1.below B5
  replace k2 := k2.below B5
  replace k3 := k3.below B5
  replace k4 := k4.below B5
  replace h6 := h6.below B5
  replace h7 := h7.below B5
  replace BB := BB.trans (B5.mono BB.size)
  clear h5 B5 i5
  go_wp2_with fail
  refine (clone_any a6 c6 s6 _ l6' h6 E6.out).mono ?_
  rintro e w6 ⟨b6, rfl, k6, i6, B6⟩
  replace k0 := k0.below B6
  replace k1 := k1.below B6
  replace k2 := k2.below B6
  replace k3 := k3.below B6
  replace k4 := k4.below B6
  replace k5 := k5.below B6
  replace h7 := h7.below B6
  replace BB := BB.trans (B6.mono BB.size)
  clear h6 B6 i6
  go_wp2_with fail
  refine (clone_any a7 c7 s7 _ l7' h7 E7.out).mono ?_
  rintro e w7 ⟨b7, rfl, k7, i7, B7⟩
  replace k0 := k0.below B7
  replace k1 := k1.below B7
  replace k2 := k2.below B7
  replace k3 := k3.below B7
  replace k4 := k4.below B7
  replace k5 := k5.below B7
  replace k6 := k6.below B7
  replace BB := BB.trans (B7.mono BB.size)
  clear h7 B7 i7
  go_wp2_with fail
  refine (build_any b0 b1 _ _ s0 s1 false _ l0' l1' k0 k1).mono ?_
  rintro e v1 ⟨m1, rfl, M1, BX, -, -⟩
  obtain ⟨o1, rfl⟩ := M1.form
  replace k0 := k0.below BX
  replace k1 := k1.below BX
  replace k2 := k2.below BX
  replace k3 := k3.below BX
  replace k4 := k4.below BX
  replace k5 := k5.below BX
  replace k6 := k6.below BX
  replace k7 := k7.below BX
  replace BB := BB.trans (BX.mono BB.size)
  clear BX
  go_wp2_with fail
  refine (build_any b2 b3 _ _ s2 s3 false _ l2' l3' k2 k3).mono ?_
  rintro e v2 ⟨m2, rfl, M2, BX, -, -⟩
  obtain ⟨o2, rfl⟩ := M2.form
  replace k0 := k0.below BX
  replace k1 := k1.below BX
  replace k2 := k2.below BX
  replace k3 := k3.below BX
  replace k4 := k4.below BX
  replace k5 := k5.below BX
  replace k6 := k6.below BX
  replace k7 := k7.below BX
  replace M1 := M1.below BX
  replace BB := BB.trans (BX.mono BB.size)
  clear BX
  have BX : Below v2.heap.size v2 (v2.alloc (.cells #[.map o1, .map o2] 29)) := (Below.refl _ _).alloc (Nat.le_refl _) _
  have C1 : (v2.alloc (.cells #[.map o1, .map o2] 29)).cell? ⟨v2.heap.size, 0, none⟩ = some (.map o1) := by go_simp
  have C2 : (v2.alloc (.cells #[.map o1, .map o2] 29)).cell? ⟨v2.heap.size, 1, none⟩ = some (.map o2) := by go_simp
  replace k0 := k0.below BX
  replace k1 := k1.below BX
  replace k2 := k2.below BX
  replace k3 := k3.below BX
  replace k4 := k4.below BX
  replace k5 := k5.below BX
  replace k6 := k6.below BX
  replace k7 := k7.below BX
  replace M1 := M1.below BX
  replace M2 := M2.below BX
  replace BB := BB.trans (BX.mono BB.size)
  clear BX
  go_wp2_with fail
  refine (build_any b4 b5 _ _ s4 s5 false _ l4' l5' k4 k5).mono ?_
  rintro e v3 ⟨m3, rfl, M3, BX, -, -⟩
  obtain ⟨o3, rfl⟩ := M3.form
  replace k0 := k0.below BX
  replace k1 := k1.below BX
  replace k2 := k2.below BX
  replace k3 := k3.below BX
  replace k4 := k4.below BX
  replace k5 := k5.below BX
  replace k6 := k6.below BX
  replace k7 := k7.below BX
  replace M1 := M1.below BX
  replace M2 := M2.below BX
  replace C1 := (BX.cell (by have := cell_lt C1; exact this)).trans C1
  replace C2 := (BX.cell (by have := cell_lt C2; exact this)).trans C2
  replace BB := BB.trans (BX.mono BB.size)
  clear BX
  go_wp2_with fail
  refine (build_any b6 b7 _ _ s6 s7 false _ l6' l7' k6 k7).mono ?_
  rintro e v4 ⟨m4, rfl, M4, BX, -, -⟩
  obtain ⟨o4, rfl⟩ := M4.form
  replace k0 := k0.below BX
  replace k1 := k1.below BX
  replace k2 := k2.below BX
  replace k3 := k3.below BX
  replace k4 := k4.below BX
  replace k5 := k5.below BX
  replace k6 := k6.below BX
  replace k7 := k7.below BX
  replace M1 := M1.below BX
  replace M2 := M2.below BX
  replace M3 := M3.below BX
  replace C1 := (BX.cell (by have := cell_lt C1; exact this)).trans C1
  replace C2 := (BX.cell (by have := cell_lt C2; exact this)).trans C2
  replace BB := BB.trans (BX.mono BB.size)
  clear BX
  have BX : Below v4.heap.size v4 (v4.alloc (.cells #[.map o3, .map o4] 29)) := (Below.refl _ _).alloc (Nat.le_refl _) _
  have C3 : (v4.alloc (.cells #[.map o3, .map o4] 29)).cell? ⟨v4.heap.size, 0, none⟩ = some (.map o3) := by go_simp
  have C4 : (v4.alloc (.cells #[.map o3, .map o4] 29)).cell? ⟨v4.heap.size, 1, none⟩ = some (.map o4) := by go_simp
  replace k0 := k0.below BX
  replace k1 := k1.below BX
  replace k2 := k2.below BX
  replace k3 := k3.below BX
  replace k4 := k4.below BX
  replace k5 := k5.below BX
  replace k6 := k6.below BX
  replace k7 := k7.below BX
  replace M1 := M1.below BX
  replace M2 := M2.below BX
  replace M3 := M3.below BX
  replace M4 := M4.below BX
  replace C1 := (BX.cell (by have := cell_lt C1; exact this)).trans C1
  replace C2 := (BX.cell (by have := cell_lt C2; exact this)).trans C2
  replace BB := BB.trans (BX.mono BB.size)
  clear BX
  go_wp2_with fail
  refine (Same_any _ _ _ _ _ _ _ _ _ M1 M2 M3 M4).mono ?_
  rintro e v5 ⟨⟨r1, rfl, hr1⟩, BX⟩
  have H1 : Hid (r1 = true ↔ SameD (buildTo s0 s1 s0.length) (buildTo s4 s5 s4.length) ∧ SameD (buildTo s2 s3 s2.length) (buildTo s6 s7 s6.length)) := hr1
  clear hr1 M1 M2 M3 M4 C1 C2 C3 C4
  replace k0 := k0.below BX
  replace k1 := k1.below BX
  replace k2 := k2.below BX
  replace k3 := k3.below BX
  replace k4 := k4.below BX
  replace k5 := k5.below BX
  replace k6 := k6.below BX
  replace k7 := k7.below BX
  replace BB := BB.trans (BX.mono BB.size)
  clear BX
  go_wp2_with fail
  refine (sameCanon_any b0 b1 b4 b5 _ _ _ _ s0 s1 s4 s5 _ l0' l1' l4' l5' k0 k1 k4 k5).mono ?_
  rintro e v6 ⟨⟨r2, rfl, hr2⟩, BX⟩
  have H2 : Hid (r2 = true ↔ SameD (buildTo s0 s1 s0.length) (buildTo s4 s5 s4.length)) := hr2
  clear hr2
  replace k0 := k0.below BX
  replace k1 := k1.below BX
  replace k2 := k2.below BX
  replace k3 := k3.below BX
  replace k4 := k4.below BX
  replace k5 := k5.below BX
  replace k6 := k6.below BX
  replace k7 := k7.below BX
  replace BB := BB.trans (BX.mono BB.size)
  clear BX
  cases r2 with
  | false =>
    obtain rfl : r1 = false := by
      have a := H1.out; have b := H2.out
      cases r1
      · rfl
      · exact absurd (b.2 (a.1 rfl).1) (by simp)
    go_wp2
    go_ret
    exact ⟨rfl, BB⟩
  | true =>
    go_wp2_with fail
    refine (sameCanon_any b2 b3 b6 b7 _ _ _ _ s2 s3 s6 s7 _ l2' l3' l6' l7' k2 k3 k6 k7).mono ?_
    rintro e v7 ⟨⟨r3, rfl, hr3⟩, BX⟩
    obtain rfl : r1 = r3 := by
      have a := H1.out; have b := H2.out
      rw [Bool.eq_iff_iff]
      exact a.trans ((and_iff_right (b.1 (by simp))).trans hr3.symm)
    replace BB := BB.trans (BX.mono BB.size)
    clear hr3 BX k0 k1 k2 k3 k4 k5 k6 k7
    cases r1 with
    | false =>
      go_wp2
      go_ret
      exact ⟨rfl, BB⟩
    | true =>
      go_wp2
      go_ret
      exact ⟨rfl, BB⟩
end Go.Proofs.Qxb6603597aMods
