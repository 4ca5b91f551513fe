/-
  No cell of these rows narrows 'for every input' (looked for: loops, veiled, ifaces, maps, wideKeys, modest, calm, conditions, laid).
  DERIVED. THE GIVEN ROWS OF THIS SEAT. 5 by the template 'for every input the law returns true; each argument reads behind the call as it read before'; 0 by the template 'total and deterministic' (their statements: Qxb6603976aModsTotals.lean).
  GIVEN WITH THE SEED: the statements are not yours to turn. If you find one false, say at which input.
  Laid BY PROGRAM, IN A SANDBOX (cutbox-rows.mjs): the forced cells as the released guide's own fill.sh prints them over the translation 7ea9ed6e6b5f38fa… (all of the seat's roots in one cut). By AI agents, Wed Nov 11 2026. No macro, syntax, notation, axiom, sorry.
-/
import Derived.Test.Qxb6603976aModsChecked
import GoSem.Claim
import GoSem.ClaimJoined
import GoSem.ClaimMapViews
import Derived.JoinedTies
import Derived.KernelRfl
namespace Go.Proofs.Qxb6603976aMods
/- THE CELL 'sum', in the pinned program and in every row, IS THE sha256 OF THE DUMP (.gsa) THAT Qxb6603976aModsProg.lean LOADS. Nothing in Lean hashes anything: it is a label: what it is worth is what the hold of that sum in a sandbox is worth. -/
noncomputable def Trym.pinned : Pinned := { name := "qxb6603976amods", sum := "7ea9ed6e6b5f38faa01b2419d9d5ec3c7b652d6a5f27a47f9374c6ae32d6739c", checked := Trym.checked }
namespace Rows
def none {H : Type} : Left H := { results := [], args := [] }

/-- 'zzlaws_internal_rulecheck_b1.FnComponentsNumberJustTheMutuallyReachable': WHATEVER THE INPUT: true; the input reads as it did. -/
def fnComponentsNumberJustTheMutuallyReachableSpec : ChangeSpec := { name := "fnComponentsNumberJustTheMutuallyReachable", fn := fun _ => fun
  | [d1, d2, d3, d4, d5, d6, d7, d8] => { results := [.lit (.bool true)], args := [d1, d2, d3, d4, d5, d6, d7, d8] }
  | _ => none }
def fnComponentsNumberJustTheMutuallyReachableRow : OpenClaim := { program := "qxb6603976amods", sum := "7ea9ed6e6b5f38faa01b2419d9d5ec3c7b652d6a5f27a47f9374c6ae32d6739c", func := "example.com/admitd/admitd/zzlaws_internal_rulecheck_b1.FnComponentsNumberJustTheMutuallyReachable", spec := "fnComponentsNumberJustTheMutuallyReachable", unfollowed := true, recurses := true, make := .lifted ["publicsums"], apart := false }
def FnComponentsNumberJustTheMutuallyReachableSaid : Prop := fnComponentsNumberJustTheMutuallyReachableRow.holds Trym.pinned (OpenSpec.ofChange fnComponentsNumberJustTheMutuallyReachableSpec)

/-- ITS FALSE NEIGHBOUR: 'it returns false'. Refute it at one input. -/
def fnComponentsNumberJustTheMutuallyReachableWrong : ChangeSpec := { name := "fnComponentsNumberJustTheMutuallyReachable", fn := fun _ => fun
  | [d1, d2, d3, d4, d5, d6, d7, d8] => { results := [.lit (.bool false)], args := [d1, d2, d3, d4, d5, d6, d7, d8] }
  | _ => none }
def FnComponentsNumberJustTheMutuallyReachableWrongFalsely : Prop := fnComponentsNumberJustTheMutuallyReachableRow.holds Trym.pinned (OpenSpec.ofChange fnComponentsNumberJustTheMutuallyReachableWrong)

/-- 'zzlaws_internal_rulecheck_b1.FnComponentsAreDenseAndReverseTopological': WHATEVER THE INPUT: true; the input reads as it did. -/
def fnComponentsAreDenseAndReverseTopologicalSpec : ChangeSpec := { name := "fnComponentsAreDenseAndReverseTopological", fn := fun _ => fun
  | [d1, d2, d3, d4, d5, d6, d7, d8] => { results := [.lit (.bool true)], args := [d1, d2, d3, d4, d5, d6, d7, d8] }
  | _ => none }
def fnComponentsAreDenseAndReverseTopologicalRow : OpenClaim := { program := "qxb6603976amods", sum := "7ea9ed6e6b5f38faa01b2419d9d5ec3c7b652d6a5f27a47f9374c6ae32d6739c", func := "example.com/admitd/admitd/zzlaws_internal_rulecheck_b1.FnComponentsAreDenseAndReverseTopological", spec := "fnComponentsAreDenseAndReverseTopological", unfollowed := true, recurses := true, make := .lifted ["publicsums"], apart := false }
def FnComponentsAreDenseAndReverseTopologicalSaid : Prop := fnComponentsAreDenseAndReverseTopologicalRow.holds Trym.pinned (OpenSpec.ofChange fnComponentsAreDenseAndReverseTopologicalSpec)

/-- ITS FALSE NEIGHBOUR: 'it returns false'. Refute it at one input. -/
def fnComponentsAreDenseAndReverseTopologicalWrong : ChangeSpec := { name := "fnComponentsAreDenseAndReverseTopological", fn := fun _ => fun
  | [d1, d2, d3, d4, d5, d6, d7, d8] => { results := [.lit (.bool false)], args := [d1, d2, d3, d4, d5, d6, d7, d8] }
  | _ => none }
def FnComponentsAreDenseAndReverseTopologicalWrongFalsely : Prop := fnComponentsAreDenseAndReverseTopologicalRow.holds Trym.pinned (OpenSpec.ofChange fnComponentsAreDenseAndReverseTopologicalWrong)

/-- 'zzlaws_internal_rulecheck_b1.FnRouteIsTheFirstShortestPathInsideToClass': WHATEVER THE INPUT: true; the input reads as it did. -/
def fnRouteIsTheFirstShortestPathInsideToClassSpec : ChangeSpec := { name := "fnRouteIsTheFirstShortestPathInsideToClass", fn := fun _ => fun
  | [d1, d2, d3, d4, d5, d6, d7, d8, d9, d10, d11] => { results := [.lit (.bool true)], args := [d1, d2, d3, d4, d5, d6, d7, d8, d9, d10, d11] }
  | _ => none }
def fnRouteIsTheFirstShortestPathInsideToClassRow : OpenClaim := { program := "qxb6603976amods", sum := "7ea9ed6e6b5f38faa01b2419d9d5ec3c7b652d6a5f27a47f9374c6ae32d6739c", func := "example.com/admitd/admitd/zzlaws_internal_rulecheck_b1.FnRouteIsTheFirstShortestPathInsideToClass", spec := "fnRouteIsTheFirstShortestPathInsideToClass", make := .lifted ["publicsums"], apart := false }
def FnRouteIsTheFirstShortestPathInsideToClassSaid : Prop := fnRouteIsTheFirstShortestPathInsideToClassRow.holds Trym.pinned (OpenSpec.ofChange fnRouteIsTheFirstShortestPathInsideToClassSpec)

/-- ITS FALSE NEIGHBOUR: 'it returns false'. Refute it at one input. -/
def fnRouteIsTheFirstShortestPathInsideToClassWrong : ChangeSpec := { name := "fnRouteIsTheFirstShortestPathInsideToClass", fn := fun _ => fun
  | [d1, d2, d3, d4, d5, d6, d7, d8, d9, d10, d11] => { results := [.lit (.bool false)], args := [d1, d2, d3, d4, d5, d6, d7, d8, d9, d10, d11] }
  | _ => none }
def FnRouteIsTheFirstShortestPathInsideToClassWrongFalsely : Prop := fnRouteIsTheFirstShortestPathInsideToClassRow.holds Trym.pinned (OpenSpec.ofChange fnRouteIsTheFirstShortestPathInsideToClassWrong)

/-- 'zzlaws_internal_rulecheck_b1.FnRouteOverComponentsIsAFirstShortestPathOfTheGraph': WHATEVER THE INPUT: true; the input reads as it did. -/
def fnRouteOverComponentsIsAFirstShortestPathOfTheGraphSpec : ChangeSpec := { name := "fnRouteOverComponentsIsAFirstShortestPathOfTheGraph", fn := fun _ => fun
  | [d1, d2, d3, d4, d5, d6, d7, d8, d9, d10] => { results := [.lit (.bool true)], args := [d1, d2, d3, d4, d5, d6, d7, d8, d9, d10] }
  | _ => none }
def fnRouteOverComponentsIsAFirstShortestPathOfTheGraphRow : OpenClaim := { program := "qxb6603976amods", sum := "7ea9ed6e6b5f38faa01b2419d9d5ec3c7b652d6a5f27a47f9374c6ae32d6739c", func := "example.com/admitd/admitd/zzlaws_internal_rulecheck_b1.FnRouteOverComponentsIsAFirstShortestPathOfTheGraph", spec := "fnRouteOverComponentsIsAFirstShortestPathOfTheGraph", unfollowed := true, recurses := true, make := .lifted ["publicsums"], apart := false }
def FnRouteOverComponentsIsAFirstShortestPathOfTheGraphSaid : Prop := fnRouteOverComponentsIsAFirstShortestPathOfTheGraphRow.holds Trym.pinned (OpenSpec.ofChange fnRouteOverComponentsIsAFirstShortestPathOfTheGraphSpec)

/-- ITS FALSE NEIGHBOUR: 'it returns false'. Refute it at one input. -/
def fnRouteOverComponentsIsAFirstShortestPathOfTheGraphWrong : ChangeSpec := { name := "fnRouteOverComponentsIsAFirstShortestPathOfTheGraph", fn := fun _ => fun
  | [d1, d2, d3, d4, d5, d6, d7, d8, d9, d10] => { results := [.lit (.bool false)], args := [d1, d2, d3, d4, d5, d6, d7, d8, d9, d10] }
  | _ => none }
def FnRouteOverComponentsIsAFirstShortestPathOfTheGraphWrongFalsely : Prop := fnRouteOverComponentsIsAFirstShortestPathOfTheGraphRow.holds Trym.pinned (OpenSpec.ofChange fnRouteOverComponentsIsAFirstShortestPathOfTheGraphWrong)

/-- 'zzlaws_internal_rulecheck_b1.FnForgetKeepsJustWhatCameAtOrAfterOldest': WHATEVER THE INPUT: true; the input reads as it did. -/
def fnForgetKeepsJustWhatCameAtOrAfterOldestSpec : ChangeSpec := { name := "fnForgetKeepsJustWhatCameAtOrAfterOldest", fn := fun _ => fun
  | [d1, d2, d3, d4, d5, d6, d7, d8] => { results := [.lit (.bool true)], args := [d1, d2, d3, d4, d5, d6, d7, d8] }
  | _ => none }
def fnForgetKeepsJustWhatCameAtOrAfterOldestRow : OpenClaim := { program := "qxb6603976amods", sum := "7ea9ed6e6b5f38faa01b2419d9d5ec3c7b652d6a5f27a47f9374c6ae32d6739c", func := "example.com/admitd/admitd/zzlaws_internal_rulecheck_b1.FnForgetKeepsJustWhatCameAtOrAfterOldest", spec := "fnForgetKeepsJustWhatCameAtOrAfterOldest", make := .lifted ["publicsums"], apart := false }
def FnForgetKeepsJustWhatCameAtOrAfterOldestSaid : Prop := fnForgetKeepsJustWhatCameAtOrAfterOldestRow.holds Trym.pinned (OpenSpec.ofChange fnForgetKeepsJustWhatCameAtOrAfterOldestSpec)

/-- ITS FALSE NEIGHBOUR: 'it returns false'. Refute it at one input. -/
def fnForgetKeepsJustWhatCameAtOrAfterOldestWrong : ChangeSpec := { name := "fnForgetKeepsJustWhatCameAtOrAfterOldest", fn := fun _ => fun
  | [d1, d2, d3, d4, d5, d6, d7, d8] => { results := [.lit (.bool false)], args := [d1, d2, d3, d4, d5, d6, d7, d8] }
  | _ => none }
def FnForgetKeepsJustWhatCameAtOrAfterOldestWrongFalsely : Prop := fnForgetKeepsJustWhatCameAtOrAfterOldestRow.holds Trym.pinned (OpenSpec.ofChange fnForgetKeepsJustWhatCameAtOrAfterOldestWrong)

end Rows
end Go.Proofs.Qxb6603976aMods
