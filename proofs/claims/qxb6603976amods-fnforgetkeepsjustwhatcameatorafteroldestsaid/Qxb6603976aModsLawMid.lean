import Derived.Test.Qxb6603976aModsLawTail
namespace Go.Proofs.Qxb6603976aMods
open Go.ChangeShapes Go.WideShapes Go.ChangeAt Go.RowKit
set_option linter.unusedVariables false

set_option maxRecDepth 1000000 in
set_option maxHeartbeats 4000000 in
theorem law_mid (ag ce o : Int) (x1 x2 x3 : Option Addr) (d1 d2 : Nat) (ps zs ds : List Int) (cd co : Bool) (w v3 : World) (HE : Hid (ps.length = zs.length)) (l2' : zs.length ≤ 32768) (l3' : ds.length ≤ 32768)
    (j1 : IntsAt v3 x1 ps) (j2 : IntsAt v3 x2 zs) (j3 : IntsAt v3 x3 ds) (hx3 : ∀ p, x3 = some p → p.block < v3.heap.size) (B1 : Below w.heap.size w v3)
    (K1 K0 : Act → World → Prop) (hK1 : ∀ a w', Code.wp Trym.prog (restOf ((Trym.f7.body.bind (fromRegion 23)).getD .skip)) (bodyPost Trym.prog Trym.f7 fun e w' => e = .returned (.bool true) ∧ Below w.heap.size w w') a w' → K1 a w')
    (hK0 : ∀ a w', Code.wp Trym.prog (restOf (headOf ((Trym.f7.body.bind (fromRegion 23)).getD .skip))) (Exit.then K1 (bodyPost Trym.prog Trym.f7 fun e w' => e = .returned (.bool true) ∧ Below w.heap.size w w')) a w' → K0 a w')
    (u8 u9 u10 u11 u12 u13 u14 u15 u16 u17 u18 u19 u20 u21 u22 u23 u24 u25 u26 u27 u28 u29 u30 u31 u32 u33 u34 u35 u36 u37 u38 u39 u40 u41 u42 u43 u44 u45 u46 u47 u48 u49 u50 u51 u52 u53 u54 u55 u56 u57 u58 u59 u60 u61 u62 u63 u64 u65 u66 u67 u68 u69 u70 u71 u72 u73 u74 u75 u76 u77 u78 u79 u80 u81 u82 u83 u84 u85 u86 u87 u88 u89 u90 u91 u92 u93 u94 u95 u96 u97 u98 u99 u100 u101 u102 u103 u104 u105 u106 u107 u108 u109 u110 u111 u112 u113 u114 u115 u116 u117 u118 u119 u120 u121 u122 u123 u124 u125 u126 u127 u128 u129 u130 u131 u132 u133 u134 u135 u136 u137 u138 u139 u140 u141 u142 u143 u144 u145 u146 u147 u148 u149 u150 u151 u152 u153 u154 u155 u156 u157 u158 u159 u160 u161 u162 u163 u164 u165 u166 u167 u168 u169 u170 u171 u172 u173 u174 u175 u176 u177 u178 u179 u180 u181 u182 u183 u184 u185 u186 u187 u188 u189 u190 u191 u192 u193 u194 u195 u196 u197 u198 u199 u200 u201 u202 u203 u204 u205 u206 u207 u208 u209 u210 u211 u212 u213 u214 u215 u216 u217 u218 u219 u220 u221 u222 u223 u224 u225 u226 u227 u228 u229 u230 u231 u232 u233 u234 u235 u236 u237 u238 u239 u240 u241 : Value) :
    Code.wp Trym.prog (headOf (headOf ((Trym.f7.body.bind (fromRegion 23)).getD .skip))) (Exit.then K0 (Exit.then K1 (bodyPost Trym.prog Trym.f7 fun e w' => e = .returned (.bool true) ∧ Below w.heap.size w w'))) ⟨#[.int .i64 ag, .slice x1 zs.length d1, .slice x2 zs.length d2, .slice x3 ds.length ds.length, .bool cd, .int .i64 ce, .bool co, .int .i64 o, u8, u9, u10, u11, u12, u13, u14, u15, u16, u17, u18, u19, u20, u21, u22, u23, u24, u25, u26, u27, u28, u29, u30, u31, u32, u33, u34, u35, u36, u37, u38, u39, u40, u41, u42, u43, u44, u45, u46, u47, u48, u49, u50, u51, u52, u53, u54, u55, u56, u57, u58, u59, u60, u61, u62, u63, u64, u65, u66, u67, u68, u69, u70, u71, u72, u73, u74, u75, u76, u77, u78, u79, u80, u81, u82, u83, u84, u85, u86, u87, u88, u89, u90, u91, u92, u93, u94, u95, u96, u97, u98, u99, u100, u101, u102, u103, u104, u105, u106, u107, u108, u109, u110, u111, u112, u113, u114, u115, u116, u117, u118, u119, u120, u121, u122, u123, u124, u125, u126, u127, u128, u129, u130, u131, u132, u133, u134, u135, u136, u137, u138, u139, u140, u141, u142, u143, u144, u145, u146, u147, u148, u149, u150, u151, u152, u153, u154, u155, u156, u157, u158, u159, u160, u161, u162, u163, u164, u165, u166, u167, u168, u169, u170, u171, u172, u173, u174, u175, u176, u177, u178, u179, u180, u181, u182, u183, u184, u185, u186, u187, u188, u189, u190, u191, u192, u193, u194, u195, u196, u197, u198, u199, u200, u201, u202, u203, u204, u205, u206, u207, u208, u209, u210, u211, u212, u213, u214, u215, u216, u217, u218, u219, u220, u221, u222, u223, u224, u225, u226, u227, u228, u229, u230, u231, u232, u233, u234, u235, u236, u237, u238, u239, u240, u241], []⟩ v3 := by
  conv => arg 2; whnf
  generalize hr : restOf ((Trym.f7.body.bind (fromRegion 23)).getD .skip) = rest at hK1
  conv at hr => lhs; whnf
  subst hr
  generalize hr : restOf (headOf ((Trym.f7.body.bind (fromRegion 23)).getD .skip)) = rest at hK0
  conv at hr => lhs; whnf
  subst hr
  go_wp2
  go_loopw [20] (fun i wr => ∃ k : Nat, 1 ≤ k ∧ i = .int .i64 k ∧ k ≤ zs.length + 1 ∧ Hid (∀ r, 1 ≤ r → r < k → r < zs.length → nthI zs (r - 1) ≤ nthI zs r) ∧ Below v3.heap.size v3 wr) (fun i _ => zs.length + 1 - (intOf i).toNat)
  case atStart => exact ⟨1, Nat.le_refl _, rfl, by omega, fun r a b => by omega, Below.refl _ _⟩
  obtain ⟨k, hk1, rfl, hk2, HS, BL⟩ := hrel
  by_cases hlt : k < zs.length
  · obtain ⟨k, rfl⟩ : ∃ r, k = r + 1 := ⟨k - 1, by omega⟩
    obtain ⟨p, rfl, s1⟩ := (j2.below BL) k (by omega)
    obtain ⟨p', hp', s2⟩ := (j2.below BL) (k + 1) (by omega)
    cases hp'
    have i1 : (k : Int) < (zs.length : Int) := by omega
    have i2 : (k : Int) + 1 < (zs.length : Int) := by omega
    have i3 : (k : Int) + 1 - 1 = (k : Int) := by omega
    have i4 : IntKind.i64.wrap (k : Int) = (k : Int) := wrap_nat k (by omega)
    have s2' : wr.cell? ⟨p.block, p.off + (k + 1), none⟩ = some (.int .i64 (nthI zs (k + 1))) := s2
    clear j1 j2 j3 hx3
    by_cases hle : nthI zs k ≤ nthI zs (k + 1)
    · have HLE : Hid (nthI zs k ≤ nthI zs (k + 1)) := hle
      go_wp2
      go_quiet (fail)
      go_wp2
      refine ⟨⟨k + 1 + 1, by omega, by go_num, by omega, fun r a b c => ?_, bel_drewN BL _⟩, by simp [intOf]; omega⟩
      by_cases e : r = k + 1
      · subst e; exact HLE.out
      · exact HS.out r a (by omega) c
    · go_wp2
      go_quiet (fail)
      go_wp2
      go_ret
      exact ⟨rfl, bel_drewN (B1.trans (BL.mono B1.size)) _⟩
  have SZ : Hid (∀ r, 1 ≤ r → r < zs.length → nthI zs (r - 1) ≤ nthI zs r) := fun r a b => HS.out r a (by omega) b
  obtain ⟨v4, rfl⟩ : ∃ x, x = wr := ⟨_, rfl⟩
  replace j1 := j1.below BL
  replace j2 := j2.below BL
  replace j3 := j3.below BL
  have hx4 : ∀ p, x3 = some p → p.block < v4.heap.size := fun p hp => by have := hx3 p hp; have := BL.size; omega
  replace B1 := B1.trans (BL.mono B1.size)
  clear HS BL hx3
  go_wp2
  go_loopw [21] (fun i wr => ∃ k : Nat, 1 ≤ k ∧ i = .int .i64 k ∧ k ≤ ds.length + 1 ∧ Hid (∀ r, 1 ≤ r → r < k → r < ds.length → nthI ds (r - 1) ≤ nthI ds r) ∧ Below v4.heap.size v4 wr) (fun i _ => ds.length + 1 - (intOf i).toNat)
  case atStart => exact ⟨1, Nat.le_refl _, rfl, by omega, fun r a b => by omega, Below.refl _ _⟩
  obtain ⟨k, hk1, rfl, hk2, HS, BL⟩ := hrel
  by_cases hlt : k < ds.length
  · obtain ⟨k, rfl⟩ : ∃ r, k = r + 1 := ⟨k - 1, by omega⟩
    obtain ⟨p, rfl, s1⟩ := (j3.below BL) k (by omega)
    obtain ⟨p', hp', s2⟩ := (j3.below BL) (k + 1) (by omega)
    cases hp'
    have i1 : (k : Int) < (ds.length : Int) := by omega
    have i2 : (k : Int) + 1 < (ds.length : Int) := by omega
    have i3 : (k : Int) + 1 - 1 = (k : Int) := by omega
    have i4 : IntKind.i64.wrap (k : Int) = (k : Int) := wrap_nat k (by omega)
    have s2' : wr.cell? ⟨p.block, p.off + (k + 1), none⟩ = some (.int .i64 (nthI ds (k + 1))) := s2
    clear j1 j2 j3 hx4
    by_cases hle : nthI ds k ≤ nthI ds (k + 1)
    · have HLE : Hid (nthI ds k ≤ nthI ds (k + 1)) := hle
      go_wp2
      go_quiet (fail)
      go_wp2
      refine ⟨⟨k + 1 + 1, by omega, by go_num, by omega, fun r a b c => ?_, bel_drewN BL _⟩, by simp [intOf]; omega⟩
      by_cases e : r = k + 1
      · subst e; exact HLE.out
      · exact HS.out r a (by omega) c
    · go_wp2
      go_quiet (fail)
      go_wp2
      go_ret
      exact ⟨rfl, bel_drewN (B1.trans (BL.mono B1.size)) _⟩
  have SD : Hid (∀ r, 1 ≤ r → r < ds.length → nthI ds (r - 1) ≤ nthI ds r) := fun r a b => HS.out r a (by omega) b
  obtain ⟨v5, rfl⟩ : ∃ x, x = wr := ⟨_, rfl⟩
  replace j1 := j1.below BL
  replace j2 := j2.below BL
  replace j3 := j3.below BL
  have hx5 : ∀ p, x3 = some p → p.block < v5.heap.size := fun p hp => by have := hx4 p hp; have := BL.size; omega
  replace B1 := B1.trans (BL.mono B1.size)
  clear HS BL hx4
  go_upto_region 33 with fail
  rename_i K aK
  exact law_tail ag ce o x1 x2 x3 d1 d2 ps zs ds cd co w v5 HE l2' l3' j1 j2 j3 hx5 B1 SZ SD K aK _ _ _ _ _ _ _ _ _ _ _ _ _ _ _ _ _ _ _ _ _ _ _ _ _ _ _ _ _ _ _ _ _ _ _ _ _ _ _ _ _ _ _ _ _ _ _ _ _ _ _ _ _ _ _ _ _ _ _ _ _ _ _ _ _ _ _ _ _ _ _ _ _ _ _ _ _ _ _ _ _ _ _ _ _ _ _ _ _ _ _ _ _ _ _ _ _ _ _ _ _ _ _ _ _ _ _ _ _ _ _ _ _ _ _ _ _ _ _ _ _ _ _ _ _ _ _ _ _ _ _ _ _ _ _ _ _ _ _ _ _ _ _ _ _ _ _ _ _ _ _ _ _ _ _ _ _ _ _ _ _ _ _ _ _ _ _ _ _ _ _ _ _ _ _ _ _ _ _ _ _ _ _ _ _ _ _ _ _ _ _ _ _ _ _ _ _ _ _ _ _ _ _ _ _ _ _ _ _ _ _ _ _ _ _ _ _ _ _ _ _ _ _ _ _ _ _ _ _ _ _ _ _ _
end Go.Proofs.Qxb6603976aMods
