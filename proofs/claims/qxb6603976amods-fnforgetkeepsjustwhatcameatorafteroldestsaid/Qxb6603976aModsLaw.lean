import Derived.Test.Qxb6603976aModsLawEarly
import Derived.Test.Qxb6603976aModsLawC1
namespace Go.Proofs.Qxb6603976aMods
open Go.ChangeShapes Go.WideShapes Go.ChangeAt Go.RowKit
set_option linter.unusedVariables false

theorem law_walk (ag ce o : Int) (a1 a2 a3 : Option Addr) (c1 c2 c3 : Nat) (ps zs ds : List Int) (cd co : Bool) (w : World) (n1 : ps.length ≤ 9223372036854775807) (n2 : zs.length ≤ 9223372036854775807) (n3 : ds.length ≤ 9223372036854775807)
    (h1 : IntsAt w a1 ps) (h2 : IntsAt w a2 zs) (h3 : IntsAt w a3 ds) (e3 : a3 = none → c3 = 0) :
    Calls Trym.prog 7 #[.int .i64 ag, .slice a1 ps.length c1, .slice a2 zs.length c2, .slice a3 ds.length c3, .bool cd, .int .i64 ce, .bool co, .int .i64 o] w fun e w' => e = .returned (.bool true) ∧ Below w.heap.size w w' := by
  by_cases l1 : 32768 < ps.length
  · exact law_l1 ag ce o a1 a2 a3 c1 c2 c3 ps zs ds cd co w n1 n2 n3 h1 h2 h3 e3 l1
  by_cases l2 : 32768 < zs.length
  · exact law_l2 ag ce o a1 a2 a3 c1 c2 c3 ps zs ds cd co w n1 n2 n3 h1 h2 h3 e3 (by omega) l2
  by_cases l3 : 32768 < ds.length
  · exact law_l3 ag ce o a1 a2 a3 c1 c2 c3 ps zs ds cd co w n1 n2 n3 h1 h2 h3 e3 (by omega) (by omega) l3
  by_cases hE : ps.length = zs.length
  · exact law_main ag ce o a1 a2 a3 c1 c2 c3 ps zs ds cd co w n1 n2 n3 h1 h2 h3 e3 (by omega) (by omega) (by omega) hE
  · exact law_ne ag ce o a1 a2 a3 c1 c2 c3 ps zs ds cd co w n1 n2 n3 h1 h2 h3 e3 (by omega) (by omega) (by omega) hE
end Go.Proofs.Qxb6603976aMods
