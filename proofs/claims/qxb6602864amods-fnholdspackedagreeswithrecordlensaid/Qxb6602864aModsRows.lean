/-
  No cell of these rows narrows 'for every input' (looked for: loops, veiled, ifaces, maps, wideKeys, modest, calm, conditions, laid).
  DERIVED. THE GIVEN ROWS OF THIS SEAT. 3 by the template 'for every input the law returns true; each argument reads behind the call as it read before'; 0 by the template 'total and deterministic' (their statements: Qxb6602864aModsTotals.lean).
  GIVEN WITH THE SEED: the statements are not yours to turn. If you find one false, say at which input.
  Laid BY PROGRAM, IN A SANDBOX (cutbox-rows.mjs): the forced cells as the released guide's own fill.sh prints them over the translation 8d171e9585a82cc2… (all of the seat's roots in one cut). By AI agents, Wed Nov 11 2026. No macro, syntax, notation, axiom, sorry.
-/
import Derived.Test.Qxb6602864aModsChecked
import GoSem.Claim
import GoSem.ClaimJoined
import GoSem.ClaimMapViews
import Derived.JoinedTies
import Derived.KernelRfl
namespace Go.Proofs.Qxb6602864aMods
/- THE CELL 'sum', in the pinned program and in every row, IS THE sha256 OF THE DUMP (.gsa) THAT Qxb6602864aModsProg.lean LOADS. Nothing in Lean hashes anything: it is a label: what it is worth is what the hold of that sum in a sandbox is worth. -/
noncomputable def Trym.pinned : Pinned := { name := "qxb6602864amods", sum := "8d171e9585a82cc2d6832b85c0b036c758748390af162443e15aaa704c1bfef0", checked := Trym.checked }
namespace Rows
def none {H : Type} : Left H := { results := [], args := [] }

/-- 'zzlaws_internal_store_b1.FnRecordLenStrictlyIncreasingOnKnownLayouts': WHATEVER THE INPUT: true; the input reads as it did. -/
def fnRecordLenStrictlyIncreasingOnKnownLayoutsSpec : ChangeSpec := { name := "fnRecordLenStrictlyIncreasingOnKnownLayouts", fn := fun _ => fun
  | [d1, d2] => { results := [.lit (.bool true)], args := [d1, d2] }
  | _ => none }
def fnRecordLenStrictlyIncreasingOnKnownLayoutsRow : OpenClaim := { program := "qxb6602864amods", sum := "8d171e9585a82cc2d6832b85c0b036c758748390af162443e15aaa704c1bfef0", func := "example.com/flowkeeper/flowkeeper/zzlaws_internal_store_b1.FnRecordLenStrictlyIncreasingOnKnownLayouts", spec := "fnRecordLenStrictlyIncreasingOnKnownLayouts", make := .lifted ["publicsums"], apart := false }
def FnRecordLenStrictlyIncreasingOnKnownLayoutsSaid : Prop := fnRecordLenStrictlyIncreasingOnKnownLayoutsRow.holds Trym.pinned (OpenSpec.ofChange fnRecordLenStrictlyIncreasingOnKnownLayoutsSpec)

/-- ITS FALSE NEIGHBOUR: 'it returns false'. Refute it at one input. -/
def fnRecordLenStrictlyIncreasingOnKnownLayoutsWrong : ChangeSpec := { name := "fnRecordLenStrictlyIncreasingOnKnownLayouts", fn := fun _ => fun
  | [d1, d2] => { results := [.lit (.bool false)], args := [d1, d2] }
  | _ => none }
def FnRecordLenStrictlyIncreasingOnKnownLayoutsWrongFalsely : Prop := fnRecordLenStrictlyIncreasingOnKnownLayoutsRow.holds Trym.pinned (OpenSpec.ofChange fnRecordLenStrictlyIncreasingOnKnownLayoutsWrong)

/-- 'zzlaws_internal_store_b1.FnHoldsPackedAgreesWithRecordLen': WHATEVER THE INPUT: true; the input reads as it did. -/
def fnHoldsPackedAgreesWithRecordLenSpec : ChangeSpec := { name := "fnHoldsPackedAgreesWithRecordLen", fn := fun _ => fun
  | [d] => { results := [.lit (.bool true)], args := [d] }
  | _ => none }
def fnHoldsPackedAgreesWithRecordLenRow : OpenClaim := { program := "qxb6602864amods", sum := "8d171e9585a82cc2d6832b85c0b036c758748390af162443e15aaa704c1bfef0", func := "example.com/flowkeeper/flowkeeper/zzlaws_internal_store_b1.FnHoldsPackedAgreesWithRecordLen", spec := "fnHoldsPackedAgreesWithRecordLen", make := .lifted ["publicsums"], apart := false }
def FnHoldsPackedAgreesWithRecordLenSaid : Prop := fnHoldsPackedAgreesWithRecordLenRow.holds Trym.pinned (OpenSpec.ofChange fnHoldsPackedAgreesWithRecordLenSpec)

/-- ITS FALSE NEIGHBOUR: 'it returns false'. Refute it at one input. -/
def fnHoldsPackedAgreesWithRecordLenWrong : ChangeSpec := { name := "fnHoldsPackedAgreesWithRecordLen", fn := fun _ => fun
  | [d] => { results := [.lit (.bool false)], args := [d] }
  | _ => none }
def FnHoldsPackedAgreesWithRecordLenWrongFalsely : Prop := fnHoldsPackedAgreesWithRecordLenRow.holds Trym.pinned (OpenSpec.ofChange fnHoldsPackedAgreesWithRecordLenWrong)

/-- 'zzlaws_internal_store_b1.FnHoldsDirectionsLayoutIsUniversal': WHATEVER THE INPUT: true; the input reads as it did. -/
def fnHoldsDirectionsLayoutIsUniversalSpec : ChangeSpec := { name := "fnHoldsDirectionsLayoutIsUniversal", fn := fun _ => fun
  | [d1, d2] => { results := [.lit (.bool true)], args := [d1, d2] }
  | _ => none }
def fnHoldsDirectionsLayoutIsUniversalRow : OpenClaim := { program := "qxb6602864amods", sum := "8d171e9585a82cc2d6832b85c0b036c758748390af162443e15aaa704c1bfef0", func := "example.com/flowkeeper/flowkeeper/zzlaws_internal_store_b1.FnHoldsDirectionsLayoutIsUniversal", spec := "fnHoldsDirectionsLayoutIsUniversal", make := .lifted ["publicsums"], apart := false }
def FnHoldsDirectionsLayoutIsUniversalSaid : Prop := fnHoldsDirectionsLayoutIsUniversalRow.holds Trym.pinned (OpenSpec.ofChange fnHoldsDirectionsLayoutIsUniversalSpec)

/-- ITS FALSE NEIGHBOUR: 'it returns false'. Refute it at one input. -/
def fnHoldsDirectionsLayoutIsUniversalWrong : ChangeSpec := { name := "fnHoldsDirectionsLayoutIsUniversal", fn := fun _ => fun
  | [d1, d2] => { results := [.lit (.bool false)], args := [d1, d2] }
  | _ => none }
def FnHoldsDirectionsLayoutIsUniversalWrongFalsely : Prop := fnHoldsDirectionsLayoutIsUniversalRow.holds Trym.pinned (OpenSpec.ofChange fnHoldsDirectionsLayoutIsUniversalWrong)

end Rows
end Go.Proofs.Qxb6602864aMods
