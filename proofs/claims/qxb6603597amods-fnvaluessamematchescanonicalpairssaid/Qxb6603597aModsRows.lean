/-
  No cell of these rows narrows 'for every input' (looked for: loops, veiled, ifaces, maps, wideKeys, modest, calm, conditions, laid).
  DERIVED. THE GIVEN ROWS OF THIS SEAT. 4 by the template 'for every input the law returns true; each argument reads behind the call as it read before'; 0 by the template 'total and deterministic' (their statements: Qxb6603597aModsTotals.lean).
  GIVEN WITH THE SEED: the statements are not yours to turn. If you find one false, say at which input.
  Laid BY PROGRAM, IN A SANDBOX (cutbox-rows.mjs): the forced cells as the released guide's own fill.sh prints them over the translation 18aac614c8a4e09e… (all of the seat's roots in one cut). By AI agents, Wed Nov 11 2026. No macro, syntax, notation, axiom, sorry.
-/
import Derived.Test.Qxb6603597aModsChecked
import GoSem.Claim
import GoSem.ClaimJoined
import GoSem.ClaimMapViews
import Derived.JoinedTies
import Derived.KernelRfl
namespace Go.Proofs.Qxb6603597aMods
/- THE CELL 'sum', in the pinned program and in every row, IS THE sha256 OF THE DUMP (.gsa) THAT Qxb6603597aModsProg.lean LOADS. Nothing in Lean hashes anything: it is a label: what it is worth is what the hold of that sum in a sandbox is worth. -/
noncomputable def Trym.pinned : Pinned := { name := "qxb6603597amods", sum := "18aac614c8a4e09e1b180008f63420d746e5e9100423b0382088c454f3e27716", checked := Trym.checked }
namespace Rows
def none {H : Type} : Left H := { results := [], args := [] }

/-- 'zzlaws_internal_config_b1.FnValuesSameMatchesCanonicalPairs': WHATEVER THE INPUT: true; the input reads as it did. -/
def fnValuesSameMatchesCanonicalPairsSpec : ChangeSpec := { name := "fnValuesSameMatchesCanonicalPairs", fn := fun _ => fun
  | [d1, d2, d3, d4, d5, d6, d7, d8] => { results := [.lit (.bool true)], args := [d1, d2, d3, d4, d5, d6, d7, d8] }
  | _ => none }
def fnValuesSameMatchesCanonicalPairsRow : OpenClaim := { program := "qxb6603597amods", sum := "18aac614c8a4e09e1b180008f63420d746e5e9100423b0382088c454f3e27716", func := "example.com/switchyard/switchyard/zzlaws_internal_config_b1.FnValuesSameMatchesCanonicalPairs", spec := "fnValuesSameMatchesCanonicalPairs", make := .lifted ["publicsums"], apart := false }
def FnValuesSameMatchesCanonicalPairsSaid : Prop := fnValuesSameMatchesCanonicalPairsRow.holds Trym.pinned (OpenSpec.ofChange fnValuesSameMatchesCanonicalPairsSpec)

/-- ITS FALSE NEIGHBOUR: 'it returns false'. Refute it at one input. -/
def fnValuesSameMatchesCanonicalPairsWrong : ChangeSpec := { name := "fnValuesSameMatchesCanonicalPairs", fn := fun _ => fun
  | [d1, d2, d3, d4, d5, d6, d7, d8] => { results := [.lit (.bool false)], args := [d1, d2, d3, d4, d5, d6, d7, d8] }
  | _ => none }
def FnValuesSameMatchesCanonicalPairsWrongFalsely : Prop := fnValuesSameMatchesCanonicalPairsRow.holds Trym.pinned (OpenSpec.ofChange fnValuesSameMatchesCanonicalPairsWrong)

/-- 'zzlaws_internal_config_b1.FnValuesSameAfterOneEdit': WHATEVER THE INPUT: true; the input reads as it did. -/
def fnValuesSameAfterOneEditSpec : ChangeSpec := { name := "fnValuesSameAfterOneEdit", fn := fun _ => fun
  | [d1, d2, d3, d4, d5, d6, d7] => { results := [.lit (.bool true)], args := [d1, d2, d3, d4, d5, d6, d7] }
  | _ => none }
def fnValuesSameAfterOneEditRow : OpenClaim := { program := "qxb6603597amods", sum := "18aac614c8a4e09e1b180008f63420d746e5e9100423b0382088c454f3e27716", func := "example.com/switchyard/switchyard/zzlaws_internal_config_b1.FnValuesSameAfterOneEdit", spec := "fnValuesSameAfterOneEdit", make := .lifted ["publicsums"], apart := false }
def FnValuesSameAfterOneEditSaid : Prop := fnValuesSameAfterOneEditRow.holds Trym.pinned (OpenSpec.ofChange fnValuesSameAfterOneEditSpec)

/-- ITS FALSE NEIGHBOUR: 'it returns false'. Refute it at one input. -/
def fnValuesSameAfterOneEditWrong : ChangeSpec := { name := "fnValuesSameAfterOneEdit", fn := fun _ => fun
  | [d1, d2, d3, d4, d5, d6, d7] => { results := [.lit (.bool false)], args := [d1, d2, d3, d4, d5, d6, d7] }
  | _ => none }
def FnValuesSameAfterOneEditWrongFalsely : Prop := fnValuesSameAfterOneEditRow.holds Trym.pinned (OpenSpec.ofChange fnValuesSameAfterOneEditWrong)

/-- 'zzlaws_internal_config_b1.FnRateFreshAndDetached': WHATEVER THE INPUT: true; the input reads as it did. -/
def fnRateFreshAndDetachedSpec : ChangeSpec := { name := "fnRateFreshAndDetached", fn := fun _ => fun
  | [d1, d2] => { results := [.lit (.bool true)], args := [d1, d2] }
  | _ => none }
def fnRateFreshAndDetachedRow : OpenClaim := { program := "qxb6603597amods", sum := "18aac614c8a4e09e1b180008f63420d746e5e9100423b0382088c454f3e27716", func := "example.com/switchyard/switchyard/zzlaws_internal_config_b1.FnRateFreshAndDetached", spec := "fnRateFreshAndDetached", make := .lifted ["publicsums"], apart := false }
def FnRateFreshAndDetachedSaid : Prop := fnRateFreshAndDetachedRow.holds Trym.pinned (OpenSpec.ofChange fnRateFreshAndDetachedSpec)

/-- ITS FALSE NEIGHBOUR: 'it returns false'. Refute it at one input. -/
def fnRateFreshAndDetachedWrong : ChangeSpec := { name := "fnRateFreshAndDetached", fn := fun _ => fun
  | [d1, d2] => { results := [.lit (.bool false)], args := [d1, d2] }
  | _ => none }
def FnRateFreshAndDetachedWrongFalsely : Prop := fnRateFreshAndDetachedRow.holds Trym.pinned (OpenSpec.ofChange fnRateFreshAndDetachedWrong)

/-- 'zzlaws_internal_config_b1.FnDefaultSettingsFreshAndInDomain': WHATEVER THE INPUT: true; the input reads as it did. -/
def fnDefaultSettingsFreshAndInDomainSpec : ChangeSpec := { name := "fnDefaultSettingsFreshAndInDomain", fn := fun _ => fun
  | [] => { results := [.lit (.bool true)], args := [] }
  | _ => none }
def fnDefaultSettingsFreshAndInDomainRow : OpenClaim := { program := "qxb6603597amods", sum := "18aac614c8a4e09e1b180008f63420d746e5e9100423b0382088c454f3e27716", func := "example.com/switchyard/switchyard/zzlaws_internal_config_b1.FnDefaultSettingsFreshAndInDomain", spec := "fnDefaultSettingsFreshAndInDomain", make := .lifted ["publicsums"], apart := false }
def FnDefaultSettingsFreshAndInDomainSaid : Prop := fnDefaultSettingsFreshAndInDomainRow.holds Trym.pinned (OpenSpec.ofChange fnDefaultSettingsFreshAndInDomainSpec)

/-- ITS FALSE NEIGHBOUR: 'it returns false'. Refute it at one input. -/
def fnDefaultSettingsFreshAndInDomainWrong : ChangeSpec := { name := "fnDefaultSettingsFreshAndInDomain", fn := fun _ => fun
  | [] => { results := [.lit (.bool false)], args := [] }
  | _ => none }
def FnDefaultSettingsFreshAndInDomainWrongFalsely : Prop := fnDefaultSettingsFreshAndInDomainRow.holds Trym.pinned (OpenSpec.ofChange fnDefaultSettingsFreshAndInDomainWrong)

end Rows
end Go.Proofs.Qxb6603597aMods
