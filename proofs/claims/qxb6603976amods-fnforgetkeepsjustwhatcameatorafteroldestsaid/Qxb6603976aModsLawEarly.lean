import Derived.Test.Qxb6603976aModsCopy
namespace Go.Proofs.Qxb6603976aMods
open Go.ChangeShapes Go.WideShapes Go.ChangeAt Go.RowKit
set_option linter.unusedVariables false

set_option maxRecDepth 100000 in
set_option maxHeartbeats 4000000 in
theorem law_l1 (ag ce o : Int) (a1 a2 a3 : Option Addr) (c1 c2 c3 : Nat) (ps zs ds : List Int) (cd co : Bool) (w : World) (n1 : ps.length ≤ 9223372036854775807) (n2 : zs.length ≤ 9223372036854775807) (n3 : ds.length ≤ 9223372036854775807)
    (h1 : IntsAt w a1 ps) (h2 : IntsAt w a2 zs) (h3 : IntsAt w a3 ds) (e3 : a3 = none → c3 = 0) (l1 : 32768 < ps.length) :
    Calls Trym.prog 7 #[.int .i64 ag, .slice a1 ps.length c1, .slice a2 zs.length c2, .slice a3 ds.length c3, .bool cd, .int .i64 ce, .bool co, .int .i64 o] w fun e w' => e = .returned (.bool true) ∧ Below w.heap.size w w' := by
  clear h1 h2 h3 e3
  go_enter Trym.func7, Trym.ntmps7
  go_wp2_with fail
  refine (bytes20_any ag ce o a1 a2 a3 c1 c2 c3 ps.length zs.length ds.length cd co _ n1 n2 n3).mono ?_
  rintro e w' ⟨⟨r, rfl⟩, hw⟩
  subst w'
  cases r
  case false =>
    go_wp2
    go_ret
    exact ⟨rfl, Below.refl _ _⟩
  go_wp2
  go_ret
  exact ⟨rfl, Below.refl _ _⟩

set_option maxRecDepth 100000 in
set_option maxHeartbeats 4000000 in
theorem law_l2 (ag ce o : Int) (a1 a2 a3 : Option Addr) (c1 c2 c3 : Nat) (ps zs ds : List Int) (cd co : Bool) (w : World) (n1 : ps.length ≤ 9223372036854775807) (n2 : zs.length ≤ 9223372036854775807) (n3 : ds.length ≤ 9223372036854775807)
    (h1 : IntsAt w a1 ps) (h2 : IntsAt w a2 zs) (h3 : IntsAt w a3 ds) (e3 : a3 = none → c3 = 0) (l1' : ps.length ≤ 32768) (l2 : 32768 < zs.length) :
    Calls Trym.prog 7 #[.int .i64 ag, .slice a1 ps.length c1, .slice a2 zs.length c2, .slice a3 ds.length c3, .bool cd, .int .i64 ce, .bool co, .int .i64 o] w fun e w' => e = .returned (.bool true) ∧ Below w.heap.size w w' := by
  clear h1 h2 h3 e3
  go_enter Trym.func7, Trym.ntmps7
  go_wp2_with fail
  refine (bytes20_any ag ce o a1 a2 a3 c1 c2 c3 ps.length zs.length ds.length cd co _ n1 n2 n3).mono ?_
  rintro e w' ⟨⟨r, rfl⟩, hw⟩
  subst w'
  cases r
  case false =>
    go_wp2
    go_ret
    exact ⟨rfl, Below.refl _ _⟩
  go_wp2
  go_ret
  exact ⟨rfl, Below.refl _ _⟩

set_option maxRecDepth 100000 in
set_option maxHeartbeats 4000000 in
theorem law_l3 (ag ce o : Int) (a1 a2 a3 : Option Addr) (c1 c2 c3 : Nat) (ps zs ds : List Int) (cd co : Bool) (w : World) (n1 : ps.length ≤ 9223372036854775807) (n2 : zs.length ≤ 9223372036854775807) (n3 : ds.length ≤ 9223372036854775807)
    (h1 : IntsAt w a1 ps) (h2 : IntsAt w a2 zs) (h3 : IntsAt w a3 ds) (e3 : a3 = none → c3 = 0) (l1' : ps.length ≤ 32768) (l2' : zs.length ≤ 32768) (l3 : 32768 < ds.length) :
    Calls Trym.prog 7 #[.int .i64 ag, .slice a1 ps.length c1, .slice a2 zs.length c2, .slice a3 ds.length c3, .bool cd, .int .i64 ce, .bool co, .int .i64 o] w fun e w' => e = .returned (.bool true) ∧ Below w.heap.size w w' := by
  clear h1 h2 h3 e3
  go_enter Trym.func7, Trym.ntmps7
  go_wp2_with fail
  refine (bytes20_any ag ce o a1 a2 a3 c1 c2 c3 ps.length zs.length ds.length cd co _ n1 n2 n3).mono ?_
  rintro e w' ⟨⟨r, rfl⟩, hw⟩
  subst w'
  cases r
  case false =>
    go_wp2
    go_ret
    exact ⟨rfl, Below.refl _ _⟩
  go_wp2
  go_ret
  exact ⟨rfl, Below.refl _ _⟩

set_option maxRecDepth 100000 in
set_option maxHeartbeats 4000000 in
theorem law_ne (ag ce o : Int) (a1 a2 a3 : Option Addr) (c1 c2 c3 : Nat) (ps zs ds : List Int) (cd co : Bool) (w : World) (n1 : ps.length ≤ 9223372036854775807) (n2 : zs.length ≤ 9223372036854775807) (n3 : ds.length ≤ 9223372036854775807)
    (h1 : IntsAt w a1 ps) (h2 : IntsAt w a2 zs) (h3 : IntsAt w a3 ds) (e3 : a3 = none → c3 = 0) (l1' : ps.length ≤ 32768) (l2' : zs.length ≤ 32768) (l3' : ds.length ≤ 32768) (hE : ¬ ps.length = zs.length) :
    Calls Trym.prog 7 #[.int .i64 ag, .slice a1 ps.length c1, .slice a2 zs.length c2, .slice a3 ds.length c3, .bool cd, .int .i64 ce, .bool co, .int .i64 o] w fun e w' => e = .returned (.bool true) ∧ Below w.heap.size w w' := by
  clear h1 h2 h3 e3
  have hq : ((ps.length : Int) == (zs.length : Int)) = false := by simp; omega
  clear hE
  go_enter Trym.func7, Trym.ntmps7
  go_wp2_with fail
  refine (bytes20_any ag ce o a1 a2 a3 c1 c2 c3 ps.length zs.length ds.length cd co _ n1 n2 n3).mono ?_
  rintro e w' ⟨⟨r, rfl⟩, hw⟩
  subst w'
  cases r
  case false =>
    go_wp2
    go_ret
    exact ⟨rfl, Below.refl _ _⟩
  go_wp2
  go_ret
  exact ⟨rfl, Below.refl _ _⟩

end Go.Proofs.Qxb6603976aMods
