/-
  The proof of one given statement of this seat: the row's frame (the kit's own way, turned to slices of strings); the walk lies in the texts that it imports.
-/
import Derived.Test.Qxb6603597aModsEdit
import Derived.WalkKit
import Derived.ProofKit
import Derived.OpenShut
import Derived.ShutString
import Derived.ChangeOld
import Derived.Below
import Derived.SliceStrings
namespace Go.Proofs.Qxb6603597aMods.fnValuesSameAfterOneEdit
open Go.ChangeShapes Go.WideShapes Go.ChangeAt Go.RowKit
open Go.ChangeMaps (open_string shut_string)
set_option linter.unusedVariables false

theorem own : ownKnob Trym.prog.godebug = none := by kernel_rfl
theorem laidOut : laidOutB Trym.prog = true := by kernel_rfl

/-- A slice of strings that came in, as the walk is told of it. -/
theorem open22 {H : Type} {enc : TypeId × Value → H} {W : World} {fuel : Nat} {a : Option Addr} {len cap : Nat} {y : DataW H × List MemPlace}
    (h : DataW.trod enc Trym.prog W 0 (fun _ => true) true fuel 22 (Value.cells (.slice a len cap)).toList = some y) :
    ∃ ss : List ByteArray, ss.length = len ∧ ss.length ≤ 9223372036854775807 ∧ StrsAt W a ss ∧ (a = none → cap = 0) := by
  rcases open_strings Trym.underlying22 Trym.underlying9 (by kernel_rfl) h with ⟨hcs, _⟩ | ⟨x, l, c, ss, hcs, _, hl, hm, hz, _, hcell, hws⟩
  · simp [Value.cells] at hcs
    obtain ⟨rfl, rfl, rfl⟩ := hcs
    exact ⟨[], rfl, by simp, fun k hk => absurd hk (Nat.not_lt_zero _), fun _ => rfl⟩
  · simp [Value.cells] at hcs
    obtain ⟨rfl, rfl, rfl⟩ := hcs
    have hz' : ss.length = cap := by simpa using hz
    unfold maxLen at hm hws
    refine ⟨ss.take len, by simp; omega, by simp; omega, fun k hk => ?_, fun e => by cases e⟩
    have hk' : k < len := by simp at hk; omega
    have e1 : nth (ss.take len) k = ss.getD k ByteArray.empty := by
      unfold nth
      simp [List.getD, hk']
    have e2 : ss.getD k ByteArray.empty ∈ ss := by
      have hk2 : k < ss.length := by omega
      simp [List.getD, hk2]
    refine ⟨x, rfl, by rw [e1]; exact hcell k (by omega), ?_⟩
    rw [e1]
    have := hws _ e2
    omega

set_option maxRecDepth 100000 in
theorem lifted (os : Os) (started : os.Started) (H : Type) (enc : TypeId × Value → H) :
    ReturnsInHanded {} Trym.checked os 4 .any (Rows.fnValuesSameAfterOneEditSpec.pre6 enc Trym.prog Trym.f4 Rows.fnValuesSameAfterOneEditRow.domain false) (Rows.fnValuesSameAfterOneEditSpec.post enc Trym.prog Trym.f4 false true false false) := by
  refine returnsInHanded_of_change (C := Trym.checked) own started (by kernel_rfl) Trym.func4
    (ChangeSpec.witness6 (enc := enc) (C := Trym.checked) false ⟨#[], #[.slice none 0 0, .slice none 0 0, .slice none 0 0, .slice none 0 0, .string ByteArray.empty, .string ByteArray.empty, .bool false], []⟩ 8 (by kernel_rfl) (by kernel_rfl) (by kernel_rfl) (by kernel_rfl)) ?_
  intro W base args ds gs before hval0 hW hcnd _
  have hval : ∀ (j : Nat) t v, Trym.f4.params[j]? = some t → args[j]? = some v → Value.okWide Trym.prog W .any base t v := hval0
  have hW' := hW
  obtain ⟨p, q, hA0, hV, rfl, hfz, hnd⟩ := hW
  have hA : DataW.TrodAll enc Trym.prog W 0 (fun _ => true) true Trym.f4.params.toList args.toList ds p := hA0
  rw [Trym.params4] at hA hval
  obtain ⟨v0, vs0, d0, ds0, p0, q0, hargs, rfl, rfl, h0, r0⟩ := trodAll_cons hA
  obtain ⟨v1, vs1, d1, ds1, p1, q1, rfl, rfl, rfl, h1, r1⟩ := trodAll_cons r0
  obtain ⟨v2, vs2, d2, ds2, p2, q2, rfl, rfl, rfl, h2, r2⟩ := trodAll_cons r1
  obtain ⟨v3, vs3, d3, ds3, p3, q3, rfl, rfl, rfl, h3, r3⟩ := trodAll_cons r2
  obtain ⟨v4, vs4, d4, ds4, p4, q4, rfl, rfl, rfl, h4, r4⟩ := trodAll_cons r3
  obtain ⟨v5, vs5, d5, ds5, p5, q5, rfl, rfl, rfl, h5, r5⟩ := trodAll_cons r4
  obtain ⟨v6, vs6, d6, ds6, p6, q6, rfl, rfl, rfl, h6, r6⟩ := trodAll_cons r5
  obtain ⟨rfl, rfl, rfl⟩ := trodAll_nil r6
  obtain rfl : args = #[v0, v1, v2, v3, v4, v5, v6] := by cases args; simp_all
  obtain ⟨rfl, rfl⟩ := trodVars_none hV
  obtain ⟨a0, len0, cap0, rfl⟩ := okWide_slice Trym.underlying22 (hval 0 22 v0 rfl rfl)
  have k0 := h0
  have lt0 : ∀ x ∈ p0, x.block < W.heap.size := by obtain ⟨m, hm⟩ := k0; exact DataW.trod_lt m _ _ _ hm
  obtain ⟨s0, rfl, n0, st0, e0⟩ : ∃ ss : List ByteArray, ss.length = len0 ∧ ss.length ≤ 9223372036854775807 ∧ StrsAt W a0 ss ∧ (a0 = none → cap0 = 0) := by
    obtain ⟨fuel, hf⟩ := h0
    exact open22 hf
  obtain ⟨a1, len1, cap1, rfl⟩ := okWide_slice Trym.underlying22 (hval 1 22 v1 rfl rfl)
  have k1 := h1
  have lt1 : ∀ x ∈ p1, x.block < W.heap.size := by obtain ⟨m, hm⟩ := k1; exact DataW.trod_lt m _ _ _ hm
  obtain ⟨s1, rfl, n1, st1, e1⟩ : ∃ ss : List ByteArray, ss.length = len1 ∧ ss.length ≤ 9223372036854775807 ∧ StrsAt W a1 ss ∧ (a1 = none → cap1 = 0) := by
    obtain ⟨fuel, hf⟩ := h1
    exact open22 hf
  obtain ⟨a2, len2, cap2, rfl⟩ := okWide_slice Trym.underlying22 (hval 2 22 v2 rfl rfl)
  have k2 := h2
  have lt2 : ∀ x ∈ p2, x.block < W.heap.size := by obtain ⟨m, hm⟩ := k2; exact DataW.trod_lt m _ _ _ hm
  obtain ⟨s2, rfl, n2, st2, e2⟩ : ∃ ss : List ByteArray, ss.length = len2 ∧ ss.length ≤ 9223372036854775807 ∧ StrsAt W a2 ss ∧ (a2 = none → cap2 = 0) := by
    obtain ⟨fuel, hf⟩ := h2
    exact open22 hf
  obtain ⟨a3, len3, cap3, rfl⟩ := okWide_slice Trym.underlying22 (hval 3 22 v3 rfl rfl)
  have k3 := h3
  have lt3 : ∀ x ∈ p3, x.block < W.heap.size := by obtain ⟨m, hm⟩ := k3; exact DataW.trod_lt m _ _ _ hm
  obtain ⟨s3, rfl, n3, st3, e3⟩ : ∃ ss : List ByteArray, ss.length = len3 ∧ ss.length ≤ 9223372036854775807 ∧ StrsAt W a3 ss ∧ (a3 = none → cap3 = 0) := by
    obtain ⟨fuel, hf⟩ := h3
    exact open22 hf
  obtain ⟨a4, rfl, rfl, rfl, w4⟩ := open_string Trym.underlying9 (hval 4 9 v4 rfl rfl) h4
  obtain ⟨a5, rfl, rfl, rfl, w5⟩ := open_string Trym.underlying9 (hval 5 9 v5 rfl rfl) h5
  obtain ⟨a6, rfl, rfl, rfl⟩ := open_bool Trym.underlying4 (hval 6 4 v6 rfl rfl) h6
  clear hA0 hval0
  refine (edit_walk a0 a1 a2 a3 cap0 cap1 cap2 cap3 s0 s1 s2 s3 a4 a5 a6 W n0 n1 n2 n3 (by unfold maxLen at w4; omega) (by unfold maxLen at w5; omega) st0 st1 st2 st3 e0 e1 e2 e3).mono fun e W' ⟨he, bel⟩ => ?_
  subst he
  exact ⟨_, rfl, _, _, _, [], _, [], hW', trodAll_mk1 (shut_bool Trym.underlying4 _), (trodAll_cons_mk (Below.trod laidOut (by kernel_rfl) (of_decide_eq_true (by kernel_rfl)) k0 bel lt0) (trodAll_cons_mk (Below.trod laidOut (by kernel_rfl) (of_decide_eq_true (by kernel_rfl)) k1 bel lt1) (trodAll_cons_mk (Below.trod laidOut (by kernel_rfl) (of_decide_eq_true (by kernel_rfl)) k2 bel lt2) (trodAll_cons_mk (Below.trod laidOut (by kernel_rfl) (of_decide_eq_true (by kernel_rfl)) k3 bel lt3) (trodAll_cons_mk (shut_string Trym.underlying9 w4) (trodAll_cons_mk (shut_string Trym.underlying9 w5) (trodAll_cons_mk (shut_bool Trym.underlying4 _) trodAll_mk0))))))), rfl, bel.frame _, fun h => by cases h⟩

theorem over : Rows.fnValuesSameAfterOneEditRow.holds Trym.pinned (OpenSpec.ofChange Rows.fnValuesSameAfterOneEditSpec) :=
  OpenClaim.holds_of_wide 4 Trym.f4 rfl rfl rfl rfl rfl rfl rfl ⟨rfl, rfl, rfl, rfl, rfl⟩ rfl rfl rfl rfl rfl (by kernel_rfl) Trym.func4 (by kernel_rfl)
    (of_decide_eq_true (by kernel_rfl)) (by unfold Func.isWrapper; first | (rw [if_pos (by decide +kernel)]; kernel_rfl) | (rw [if_neg (by decide +kernel)]; exact ⟨rfl, rfl⟩))
    (fun os started H enc _ => lifted os started H enc)
end Go.Proofs.Qxb6603597aMods.fnValuesSameAfterOneEdit

namespace Go.Proofs.Qxb6603597aMods
/-- The given statement, and nothing else. -/
theorem fnValuesSameAfterOneEdit_proved : Rows.FnValuesSameAfterOneEditSaid := fnValuesSameAfterOneEdit.over
end Go.Proofs.Qxb6603597aMods
#print axioms Go.Proofs.Qxb6603597aMods.fnValuesSameAfterOneEdit_proved
