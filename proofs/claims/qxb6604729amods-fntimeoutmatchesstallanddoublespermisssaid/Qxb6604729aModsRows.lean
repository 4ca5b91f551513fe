/-
  No cell of these rows narrows 'for every input' (looked for: loops, veiled, ifaces, maps, wideKeys, modest, calm, conditions, laid).
  DERIVED. THE GIVEN ROWS OF THIS SEAT. 3 by the template 'for every input the law returns true; each argument reads behind the call as it read before'; 0 by the template 'total and deterministic' (their statements: Qxb6604729aModsTotals.lean).
  GIVEN WITH THE SEED: the statements are not yours to turn. If you find one false, say at which input.
  Laid BY PROGRAM, IN A SANDBOX (cutbox-rows.mjs): the forced cells as the released guide's own fill.sh prints them over the translation 9fe898d7e944fd5b… (all of the seat's roots in one cut). By AI agents, Wed Nov 11 2026. No macro, syntax, notation, axiom, sorry.
-/
import Derived.Test.Qxb6604729aModsChecked
import GoSem.Claim
import GoSem.ClaimJoined
import GoSem.ClaimMapViews
import Derived.JoinedTies
import Derived.KernelRfl
namespace Go.Proofs.Qxb6604729aMods
/- THE CELL 'sum', in the pinned program and in every row, IS THE sha256 OF THE DUMP (.gsa) THAT Qxb6604729aModsProg.lean LOADS. Nothing in Lean hashes anything: it is a label: what it is worth is what the hold of that sum in a sandbox is worth. -/
noncomputable def Trym.pinned : Pinned := { name := "qxb6604729amods", sum := "9fe898d7e944fd5bdff64561cf99c4c88afe0b1453773adddc2c58053660a524", checked := Trym.checked }
namespace Rows
def none {H : Type} : Left H := { results := [], args := [] }

/-- 'zzlaws_index_b1.FnTimeoutMatchesStallAndDoublesPerMiss': WHATEVER THE INPUT: true; the input reads as it did. -/
def fnTimeoutMatchesStallAndDoublesPerMissSpec : ChangeSpec := { name := "fnTimeoutMatchesStallAndDoublesPerMiss", fn := fun _ => fun
  | [d1, d2, d3] => { results := [.lit (.bool true)], args := [d1, d2, d3] }
  | _ => none }
def fnTimeoutMatchesStallAndDoublesPerMissRow : OpenClaim := { program := "qxb6604729amods", sum := "9fe898d7e944fd5bdff64561cf99c4c88afe0b1453773adddc2c58053660a524", func := "example.com/shoal/shoal/zzlaws_index_b1.FnTimeoutMatchesStallAndDoublesPerMiss", spec := "fnTimeoutMatchesStallAndDoublesPerMiss", make := .lifted ["publicsums"], apart := false }
def FnTimeoutMatchesStallAndDoublesPerMissSaid : Prop := fnTimeoutMatchesStallAndDoublesPerMissRow.holds Trym.pinned (OpenSpec.ofChange fnTimeoutMatchesStallAndDoublesPerMissSpec)

/-- ITS FALSE NEIGHBOUR: 'it returns false'. Refute it at one input. -/
def fnTimeoutMatchesStallAndDoublesPerMissWrong : ChangeSpec := { name := "fnTimeoutMatchesStallAndDoublesPerMiss", fn := fun _ => fun
  | [d1, d2, d3] => { results := [.lit (.bool false)], args := [d1, d2, d3] }
  | _ => none }
def FnTimeoutMatchesStallAndDoublesPerMissWrongFalsely : Prop := fnTimeoutMatchesStallAndDoublesPerMissRow.holds Trym.pinned (OpenSpec.ofChange fnTimeoutMatchesStallAndDoublesPerMissWrong)

/-- 'zzlaws_index_b1.FnTableAddTakesWhereSlotRuleSays': WHATEVER THE INPUT: true; the input reads as it did. -/
def fnTableAddTakesWhereSlotRuleSaysSpec : ChangeSpec := { name := "fnTableAddTakesWhereSlotRuleSays", fn := fun _ => fun
  | [d1, d2] => { results := [.lit (.bool true)], args := [d1, d2] }
  | _ => none }
def fnTableAddTakesWhereSlotRuleSaysRow : OpenClaim := { program := "qxb6604729amods", sum := "9fe898d7e944fd5bdff64561cf99c4c88afe0b1453773adddc2c58053660a524", func := "example.com/shoal/shoal/zzlaws_index_b1.FnTableAddTakesWhereSlotRuleSays", spec := "fnTableAddTakesWhereSlotRuleSays", inPlace := ["internal/bytealg.Compare"], make := .lifted ["publicsums"], apart := false }
def FnTableAddTakesWhereSlotRuleSaysSaid : Prop := fnTableAddTakesWhereSlotRuleSaysRow.holds Trym.pinned (OpenSpec.ofChange fnTableAddTakesWhereSlotRuleSaysSpec)

/-- ITS FALSE NEIGHBOUR: 'it returns false'. Refute it at one input. -/
def fnTableAddTakesWhereSlotRuleSaysWrong : ChangeSpec := { name := "fnTableAddTakesWhereSlotRuleSays", fn := fun _ => fun
  | [d1, d2] => { results := [.lit (.bool false)], args := [d1, d2] }
  | _ => none }
def FnTableAddTakesWhereSlotRuleSaysWrongFalsely : Prop := fnTableAddTakesWhereSlotRuleSaysRow.holds Trym.pinned (OpenSpec.ofChange fnTableAddTakesWhereSlotRuleSaysWrong)

/-- 'zzlaws_index_b1.FnTableAddFillsEachBucketToEight': WHATEVER THE INPUT: true; the input reads as it did. -/
def fnTableAddFillsEachBucketToEightSpec : ChangeSpec := { name := "fnTableAddFillsEachBucketToEight", fn := fun _ => fun
  | [d1, d2] => { results := [.lit (.bool true)], args := [d1, d2] }
  | _ => none }
def fnTableAddFillsEachBucketToEightRow : OpenClaim := { program := "qxb6604729amods", sum := "9fe898d7e944fd5bdff64561cf99c4c88afe0b1453773adddc2c58053660a524", func := "example.com/shoal/shoal/zzlaws_index_b1.FnTableAddFillsEachBucketToEight", spec := "fnTableAddFillsEachBucketToEight", inPlace := ["internal/bytealg.Compare"], make := .lifted ["publicsums"], apart := false }
def FnTableAddFillsEachBucketToEightSaid : Prop := fnTableAddFillsEachBucketToEightRow.holds Trym.pinned (OpenSpec.ofChange fnTableAddFillsEachBucketToEightSpec)

/-- ITS FALSE NEIGHBOUR: 'it returns false'. Refute it at one input. -/
def fnTableAddFillsEachBucketToEightWrong : ChangeSpec := { name := "fnTableAddFillsEachBucketToEight", fn := fun _ => fun
  | [d1, d2] => { results := [.lit (.bool false)], args := [d1, d2] }
  | _ => none }
def FnTableAddFillsEachBucketToEightWrongFalsely : Prop := fnTableAddFillsEachBucketToEightRow.holds Trym.pinned (OpenSpec.ofChange fnTableAddFillsEachBucketToEightWrong)

end Rows
end Go.Proofs.Qxb6604729aMods
