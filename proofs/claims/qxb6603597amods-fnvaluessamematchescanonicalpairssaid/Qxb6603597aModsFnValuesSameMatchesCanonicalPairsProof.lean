/-
  The proof of one given statement of this seat: the row's frame (the kit's own way, turned to slices of strings); the walk lies in the texts that it imports.
-/
import Derived.Test.Qxb6603597aModsPairs
import Derived.WalkKit
import Derived.ProofKit
import Derived.OpenShut
import Derived.ShutString
import Derived.ChangeOld
import Derived.Below
import Derived.SliceStrings
namespace Go.Proofs.Qxb6603597aMods.fnValuesSameMatchesCanonicalPairs
open Go.ChangeShapes Go.WideShapes Go.ChangeAt Go.RowKit
open Go.ChangeMaps (open_string shut_string)
set_option linter.unusedVariables false

theorem own : ownKnob Trym.prog.godebug = none := by kernel_rfl
theorem laidOut : laidOutB Trym.prog = true := by kernel_rfl

/-- A slice of strings that came in, as the walk is told of it. -/
theorem open22 {H : Type} {enc : TypeId × Value → H} {W : World} {fuel : Nat} {a : Option Addr} {len cap : Nat} {y : DataW H × List MemPlace}
    (h : DataW.trod enc Trym.prog W 0 (fun _ => true) true fuel 22 (Value.cells (.slice a len cap)).toList = some y) :
    ∃ ss : List ByteArray, ss.length = len ∧ ss.length ≤ 9223372036854775807 ∧ StrsAt W a ss ∧ (a = none → cap = 0) := by
  rcases open_strings Trym.underlying22 Trym.underlying9 (by kernel_rfl) h with ⟨hcs, _⟩ | ⟨x, l, c, ss, hcs, _, hl, hm, hz, _, hcell, hws⟩
  · simp [Value.cells] at hcs
    obtain ⟨rfl, rfl, rfl⟩ := hcs
    exact ⟨[], rfl, by simp, fun k hk => absurd hk (Nat.not_lt_zero _), fun _ => rfl⟩
  · simp [Value.cells] at hcs
    obtain ⟨rfl, rfl, rfl⟩ := hcs
    have hz' : ss.length = cap := by simpa using hz
    unfold maxLen at hm hws
    refine ⟨ss.take len, by simp; omega, by simp; omega, fun k hk => ?_, fun e => by cases e⟩
    have hk' : k < len := by simp at hk; omega
    have e1 : nth (ss.take len) k = ss.getD k ByteArray.empty := by
      unfold nth
      simp [List.getD, hk']
    have e2 : ss.getD k ByteArray.empty ∈ ss := by
      have hk2 : k < ss.length := by omega
      simp [List.getD, hk2]
    refine ⟨x, rfl, by rw [e1]; exact hcell k (by omega), ?_⟩
    rw [e1]
    have := hws _ e2
    omega

set_option maxRecDepth 100000 in
theorem lifted (os : Os) (started : os.Started) (H : Type) (enc : TypeId × Value → H) :
    ReturnsInHanded {} Trym.checked os 3 .any (Rows.fnValuesSameMatchesCanonicalPairsSpec.pre6 enc Trym.prog Trym.f3 Rows.fnValuesSameMatchesCanonicalPairsRow.domain false) (Rows.fnValuesSameMatchesCanonicalPairsSpec.post enc Trym.prog Trym.f3 false true false false) := by
  refine returnsInHanded_of_change (C := Trym.checked) own started (by kernel_rfl) Trym.func3
    (ChangeSpec.witness6 (enc := enc) (C := Trym.checked) false ⟨#[], #[.slice none 0 0, .slice none 0 0, .slice none 0 0, .slice none 0 0, .slice none 0 0, .slice none 0 0, .slice none 0 0, .slice none 0 0], []⟩ 8 (by kernel_rfl) (by kernel_rfl) (by kernel_rfl) (by kernel_rfl)) ?_
  intro W base args ds gs before hval0 hW hcnd _
  have hval : ∀ (j : Nat) t v, Trym.f3.params[j]? = some t → args[j]? = some v → Value.okWide Trym.prog W .any base t v := hval0
  have hW' := hW
  obtain ⟨p, q, hA0, hV, rfl, hfz, hnd⟩ := hW
  have hA : DataW.TrodAll enc Trym.prog W 0 (fun _ => true) true Trym.f3.params.toList args.toList ds p := hA0
  rw [Trym.params3] at hA hval
  obtain ⟨v0, vs0, d0, ds0, p0, q0, hargs, rfl, rfl, h0, r0⟩ := trodAll_cons hA
  obtain ⟨v1, vs1, d1, ds1, p1, q1, rfl, rfl, rfl, h1, r1⟩ := trodAll_cons r0
  obtain ⟨v2, vs2, d2, ds2, p2, q2, rfl, rfl, rfl, h2, r2⟩ := trodAll_cons r1
  obtain ⟨v3, vs3, d3, ds3, p3, q3, rfl, rfl, rfl, h3, r3⟩ := trodAll_cons r2
  obtain ⟨v4, vs4, d4, ds4, p4, q4, rfl, rfl, rfl, h4, r4⟩ := trodAll_cons r3
  obtain ⟨v5, vs5, d5, ds5, p5, q5, rfl, rfl, rfl, h5, r5⟩ := trodAll_cons r4
  obtain ⟨v6, vs6, d6, ds6, p6, q6, rfl, rfl, rfl, h6, r6⟩ := trodAll_cons r5
  obtain ⟨v7, vs7, d7, ds7, p7, q7, rfl, rfl, rfl, h7, r7⟩ := trodAll_cons r6
  obtain ⟨rfl, rfl, rfl⟩ := trodAll_nil r7
  obtain rfl : args = #[v0, v1, v2, v3, v4, v5, v6, v7] := by cases args; simp_all
  obtain ⟨rfl, rfl⟩ := trodVars_none hV
  obtain ⟨a0, len0, cap0, rfl⟩ := okWide_slice Trym.underlying22 (hval 0 22 v0 rfl rfl)
  have k0 := h0
  have lt0 : ∀ x ∈ p0, x.block < W.heap.size := by obtain ⟨m, hm⟩ := k0; exact DataW.trod_lt m _ _ _ hm
  obtain ⟨s0, rfl, n0, st0, e0⟩ : ∃ ss : List ByteArray, ss.length = len0 ∧ ss.length ≤ 9223372036854775807 ∧ StrsAt W a0 ss ∧ (a0 = none → cap0 = 0) := by
    obtain ⟨fuel, hf⟩ := h0
    exact open22 hf
  obtain ⟨a1, len1, cap1, rfl⟩ := okWide_slice Trym.underlying22 (hval 1 22 v1 rfl rfl)
  have k1 := h1
  have lt1 : ∀ x ∈ p1, x.block < W.heap.size := by obtain ⟨m, hm⟩ := k1; exact DataW.trod_lt m _ _ _ hm
  obtain ⟨s1, rfl, n1, st1, e1⟩ : ∃ ss : List ByteArray, ss.length = len1 ∧ ss.length ≤ 9223372036854775807 ∧ StrsAt W a1 ss ∧ (a1 = none → cap1 = 0) := by
    obtain ⟨fuel, hf⟩ := h1
    exact open22 hf
  obtain ⟨a2, len2, cap2, rfl⟩ := okWide_slice Trym.underlying22 (hval 2 22 v2 rfl rfl)
  have k2 := h2
  have lt2 : ∀ x ∈ p2, x.block < W.heap.size := by obtain ⟨m, hm⟩ := k2; exact DataW.trod_lt m _ _ _ hm
  obtain ⟨s2, rfl, n2, st2, e2⟩ : ∃ ss : List ByteArray, ss.length = len2 ∧ ss.length ≤ 9223372036854775807 ∧ StrsAt W a2 ss ∧ (a2 = none → cap2 = 0) := by
    obtain ⟨fuel, hf⟩ := h2
    exact open22 hf
  obtain ⟨a3, len3, cap3, rfl⟩ := okWide_slice Trym.underlying22 (hval 3 22 v3 rfl rfl)
  have k3 := h3
  have lt3 : ∀ x ∈ p3, x.block < W.heap.size := by obtain ⟨m, hm⟩ := k3; exact DataW.trod_lt m _ _ _ hm
  obtain ⟨s3, rfl, n3, st3, e3⟩ : ∃ ss : List ByteArray, ss.length = len3 ∧ ss.length ≤ 9223372036854775807 ∧ StrsAt W a3 ss ∧ (a3 = none → cap3 = 0) := by
    obtain ⟨fuel, hf⟩ := h3
    exact open22 hf
  obtain ⟨a4, len4, cap4, rfl⟩ := okWide_slice Trym.underlying22 (hval 4 22 v4 rfl rfl)
  have k4 := h4
  have lt4 : ∀ x ∈ p4, x.block < W.heap.size := by obtain ⟨m, hm⟩ := k4; exact DataW.trod_lt m _ _ _ hm
  obtain ⟨s4, rfl, n4, st4, e4⟩ : ∃ ss : List ByteArray, ss.length = len4 ∧ ss.length ≤ 9223372036854775807 ∧ StrsAt W a4 ss ∧ (a4 = none → cap4 = 0) := by
    obtain ⟨fuel, hf⟩ := h4
    exact open22 hf
  obtain ⟨a5, len5, cap5, rfl⟩ := okWide_slice Trym.underlying22 (hval 5 22 v5 rfl rfl)
  have k5 := h5
  have lt5 : ∀ x ∈ p5, x.block < W.heap.size := by obtain ⟨m, hm⟩ := k5; exact DataW.trod_lt m _ _ _ hm
  obtain ⟨s5, rfl, n5, st5, e5⟩ : ∃ ss : List ByteArray, ss.length = len5 ∧ ss.length ≤ 9223372036854775807 ∧ StrsAt W a5 ss ∧ (a5 = none → cap5 = 0) := by
    obtain ⟨fuel, hf⟩ := h5
    exact open22 hf
  obtain ⟨a6, len6, cap6, rfl⟩ := okWide_slice Trym.underlying22 (hval 6 22 v6 rfl rfl)
  have k6 := h6
  have lt6 : ∀ x ∈ p6, x.block < W.heap.size := by obtain ⟨m, hm⟩ := k6; exact DataW.trod_lt m _ _ _ hm
  obtain ⟨s6, rfl, n6, st6, e6⟩ : ∃ ss : List ByteArray, ss.length = len6 ∧ ss.length ≤ 9223372036854775807 ∧ StrsAt W a6 ss ∧ (a6 = none → cap6 = 0) := by
    obtain ⟨fuel, hf⟩ := h6
    exact open22 hf
  obtain ⟨a7, len7, cap7, rfl⟩ := okWide_slice Trym.underlying22 (hval 7 22 v7 rfl rfl)
  have k7 := h7
  have lt7 : ∀ x ∈ p7, x.block < W.heap.size := by obtain ⟨m, hm⟩ := k7; exact DataW.trod_lt m _ _ _ hm
  obtain ⟨s7, rfl, n7, st7, e7⟩ : ∃ ss : List ByteArray, ss.length = len7 ∧ ss.length ≤ 9223372036854775807 ∧ StrsAt W a7 ss ∧ (a7 = none → cap7 = 0) := by
    obtain ⟨fuel, hf⟩ := h7
    exact open22 hf
  clear hA0 hval0
  refine (pairs_walk a0 a1 a2 a3 a4 a5 a6 a7 cap0 cap1 cap2 cap3 cap4 cap5 cap6 cap7 s0 s1 s2 s3 s4 s5 s6 s7 W n0 n1 n2 n3 n4 n5 n6 n7 st0 st1 st2 st3 st4 st5 st6 st7 e0 e1 e2 e3 e4 e5 e6 e7).mono fun e W' ⟨he, bel⟩ => ?_
  subst he
  exact ⟨_, rfl, _, _, _, [], _, [], hW', trodAll_mk1 (shut_bool Trym.underlying4 _), (trodAll_cons_mk (Below.trod laidOut (by kernel_rfl) (of_decide_eq_true (by kernel_rfl)) k0 bel lt0) (trodAll_cons_mk (Below.trod laidOut (by kernel_rfl) (of_decide_eq_true (by kernel_rfl)) k1 bel lt1) (trodAll_cons_mk (Below.trod laidOut (by kernel_rfl) (of_decide_eq_true (by kernel_rfl)) k2 bel lt2) (trodAll_cons_mk (Below.trod laidOut (by kernel_rfl) (of_decide_eq_true (by kernel_rfl)) k3 bel lt3) (trodAll_cons_mk (Below.trod laidOut (by kernel_rfl) (of_decide_eq_true (by kernel_rfl)) k4 bel lt4) (trodAll_cons_mk (Below.trod laidOut (by kernel_rfl) (of_decide_eq_true (by kernel_rfl)) k5 bel lt5) (trodAll_cons_mk (Below.trod laidOut (by kernel_rfl) (of_decide_eq_true (by kernel_rfl)) k6 bel lt6) (trodAll_cons_mk (Below.trod laidOut (by kernel_rfl) (of_decide_eq_true (by kernel_rfl)) k7 bel lt7) trodAll_mk0)))))))), rfl, bel.frame _, fun h => by cases h⟩

theorem over : Rows.fnValuesSameMatchesCanonicalPairsRow.holds Trym.pinned (OpenSpec.ofChange Rows.fnValuesSameMatchesCanonicalPairsSpec) :=
  OpenClaim.holds_of_wide 3 Trym.f3 rfl rfl rfl rfl rfl rfl rfl ⟨rfl, rfl, rfl, rfl, rfl⟩ rfl rfl rfl rfl rfl (by kernel_rfl) Trym.func3 (by kernel_rfl)
    (of_decide_eq_true (by kernel_rfl)) (by unfold Func.isWrapper; first | (rw [if_pos (by decide +kernel)]; kernel_rfl) | (rw [if_neg (by decide +kernel)]; exact ⟨rfl, rfl⟩))
    (fun os started H enc _ => lifted os started H enc)
end Go.Proofs.Qxb6603597aMods.fnValuesSameMatchesCanonicalPairs

namespace Go.Proofs.Qxb6603597aMods
/-- The given statement, and nothing else. -/
theorem fnValuesSameMatchesCanonicalPairs_proved : Rows.FnValuesSameMatchesCanonicalPairsSaid := fnValuesSameMatchesCanonicalPairs.over
end Go.Proofs.Qxb6603597aMods
#print axioms Go.Proofs.Qxb6603597aMods.fnValuesSameMatchesCanonicalPairs_proved
