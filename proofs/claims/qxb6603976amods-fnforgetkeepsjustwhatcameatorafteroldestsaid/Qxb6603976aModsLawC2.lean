import Derived.Test.Qxb6603976aModsLawC3
namespace Go.Proofs.Qxb6603976aMods
open Go.ChangeShapes Go.WideShapes Go.ChangeAt Go.RowKit
set_option linter.unusedVariables false

set_option maxRecDepth 1000000 in
set_option maxHeartbeats 4000000 in
theorem law_c2 (ag ce o : Int) (x1 a2 a3 : Option Addr) (d1 c2 c3 : Nat) (ps zs ds : List Int) (cd co : Bool) (w v : World) (HE : Hid (ps.length = zs.length)) (l1' : ps.length ≤ 32768) (l2' : zs.length ≤ 32768) (l3' : ds.length ≤ 32768)
    (j1 : IntsAt v x1 ps) (h2 : IntsAt v a2 zs) (h3 : IntsAt v a3 ds) (E3 : Hid (a3 = none → c3 = 0)) (B1 : Below w.heap.size w v)
    (K1 K0 : Act → World → Prop) (hK1 : ∀ a w', Code.wp Trym.prog (restOf ((Trym.f7.body.bind (fromRegion 15)).getD .skip)) (bodyPost Trym.prog Trym.f7 fun e w' => e = .returned (.bool true) ∧ Below w.heap.size w w') a w' → K1 a w')
    (hK0 : ∀ a w', Code.wp Trym.prog (restOf (headOf ((Trym.f7.body.bind (fromRegion 15)).getD .skip))) (Exit.then K1 (bodyPost Trym.prog Trym.f7 fun e w' => e = .returned (.bool true) ∧ Below w.heap.size w w')) a w' → K0 a w')
    (u8 u9 u10 u11 u12 u13 u14 u15 u16 u17 u18 u19 u20 u21 u22 u23 u24 u25 u26 u27 u28 u29 u30 u31 u32 u33 u34 u35 u36 u37 u38 u39 u40 u41 u42 u43 u44 u45 u46 u47 u48 u49 u50 u51 u52 u53 u54 u55 u56 u57 u58 u59 u60 u61 u62 u63 u64 u65 u66 u67 u68 u69 u70 u71 u72 u73 u74 u75 u76 u77 u78 u79 u80 u81 u82 u83 u84 u85 u86 u87 u88 u89 u90 u91 u92 u93 u94 u95 u96 u97 u98 u99 u100 u101 u102 u103 u104 u105 u106 u107 u108 u109 u110 u111 u112 u113 u114 u115 u116 u117 u118 u119 u120 u121 u122 u123 u124 u125 u126 u127 u128 u129 u130 u131 u132 u133 u134 u135 u136 u137 u138 u139 u140 u141 u142 u143 u144 u145 u146 u147 u148 u149 u150 u151 u152 u153 u154 u155 u156 u157 u158 u159 u160 u161 u162 u163 u164 u165 u166 u167 u168 u169 u170 u171 u172 u173 u174 u175 u176 u177 u178 u179 u180 u181 u182 u183 u184 u185 u186 u187 u188 u189 u190 u191 u192 u193 u194 u195 u196 u197 u198 u199 u200 u201 u202 u203 u204 u205 u206 u207 u208 u209 u210 u211 u212 u213 u214 u215 u216 u217 u218 u219 u220 u221 u222 u223 u224 u225 u226 u227 u228 u229 u230 u231 u232 u233 u234 u235 u236 u237 u238 u239 u240 u241 : Value) :
    Code.wp Trym.prog (headOf (headOf ((Trym.f7.body.bind (fromRegion 15)).getD .skip))) (Exit.then K0 (Exit.then K1 (bodyPost Trym.prog Trym.f7 fun e w' => e = .returned (.bool true) ∧ Below w.heap.size w w'))) ⟨#[.int .i64 ag, .slice x1 zs.length d1, .slice a2 zs.length c2, .slice a3 ds.length c3, .bool cd, .int .i64 ce, .bool co, .int .i64 o, u8, u9, u10, u11, u12, u13, u14, u15, u16, u17, u18, u19, u20, u21, u22, u23, u24, u25, u26, u27, u28, u29, u30, u31, u32, u33, u34, u35, u36, u37, u38, u39, u40, u41, u42, u43, u44, u45, u46, u47, u48, u49, u50, u51, u52, u53, u54, u55, u56, u57, u58, u59, u60, u61, u62, u63, u64, u65, u66, u67, u68, u69, u70, u71, u72, u73, u74, u75, u76, u77, u78, u79, u80, u81, u82, u83, u84, u85, u86, u87, u88, u89, u90, u91, u92, u93, u94, u95, u96, u97, u98, u99, u100, u101, u102, u103, u104, u105, u106, u107, u108, u109, u110, u111, u112, u113, u114, u115, u116, u117, u118, u119, u120, u121, u122, u123, u124, u125, u126, u127, u128, u129, u130, u131, u132, u133, u134, u135, u136, u137, u138, u139, u140, u141, u142, u143, u144, u145, u146, u147, u148, u149, u150, u151, u152, u153, u154, u155, u156, u157, u158, u159, u160, u161, u162, u163, u164, u165, u166, u167, u168, u169, u170, u171, u172, u173, u174, u175, u176, u177, u178, u179, u180, u181, u182, u183, u184, u185, u186, u187, u188, u189, u190, u191, u192, u193, u194, u195, u196, u197, u198, u199, u200, u201, u202, u203, u204, u205, u206, u207, u208, u209, u210, u211, u212, u213, u214, u215, u216, u217, u218, u219, u220, u221, u222, u223, u224, u225, u226, u227, u228, u229, u230, u231, u232, u233, u234, u235, u236, u237, u238, u239, u240, u241], []⟩ v := by
  conv => arg 2; whnf
  generalize hr : restOf ((Trym.f7.body.bind (fromRegion 15)).getD .skip) = rest at hK1
  conv at hr => lhs; whnf
  subst hr
  generalize hr : restOf (headOf ((Trym.f7.body.bind (fromRegion 15)).getD .skip)) = rest at hK0
  conv at hr => lhs; whnf
  subst hr
  have q28 := neq_nil 28 3 Trym.underlying28
  have q40 := neq_nil 40 2 Trym.underlying40
  cases a2 with
  | none =>
    go_upto_region 19 with fail
    rename_i M1 aM1 M0 aM0
    exact law_c3 ag ce o x1 none a3 d1 c2 c3 ps zs ds cd co w v HE l1' l2' l3' j1 h2 h3 E3 B1 M1 M0 aM1 aM0 _ _ _ _ _ _ _ _ _ _ _ _ _ _ _ _ _ _ _ _ _ _ _ _ _ _ _ _ _ _ _ _ _ _ _ _ _ _ _ _ _ _ _ _ _ _ _ _ _ _ _ _ _ _ _ _ _ _ _ _ _ _ _ _ _ _ _ _ _ _ _ _ _ _ _ _ _ _ _ _ _ _ _ _ _ _ _ _ _ _ _ _ _ _ _ _ _ _ _ _ _ _ _ _ _ _ _ _ _ _ _ _ _ _ _ _ _ _ _ _ _ _ _ _ _ _ _ _ _ _ _ _ _ _ _ _ _ _ _ _ _ _ _ _ _ _ _ _ _ _ _ _ _ _ _ _ _ _ _ _ _ _ _ _ _ _ _ _ _ _ _ _ _ _ _ _ _ _ _ _ _ _ _ _ _ _ _ _ _ _ _ _ _ _ _ _ _ _ _ _ _ _ _ _ _ _ _ _ _ _ _ _ _ _ _ _ _ _ _ _ _ _ _ _ _ _ _ _ _ _ _ _ _ _
  | some p =>
    have mk := mk40 zs.length l2' v
    have cp := copy_ints 40 2 Trym.underlying40 (by kernel_rfl) p c2 zs v h2
    have BX : Below v.heap.size v (v.alloc (.cells (zs.map (Value.int .i64)).toArray 2)) := (Below.refl _ _).alloc (Nat.le_refl _) _
    have HX : Hid (IntsAt (v.alloc (.cells (zs.map (Value.int .i64)).toArray 2)) x1 ps ∧ IntsAt (v.alloc (.cells (zs.map (Value.int .i64)).toArray 2)) a3 ds ∧ Below w.heap.size w (v.alloc (.cells (zs.map (Value.int .i64)).toArray 2))) := ⟨j1.below BX, h3.below BX, B1.trans (BX.mono B1.size)⟩
    clear h3 j1 h2 BX
    go_upto_region 19 with fail
    rename_i M1 aM1 M0 aM0
    exact law_c3 ag ce o x1 (some ⟨v.heap.size, 0, none⟩) a3 d1 zs.length c3 ps zs ds cd co w _ HE l1' l2' l3' HX.out.1 (copied_ints v 2 zs) HX.out.2.1 E3 HX.out.2.2 M1 M0 aM1 aM0 _ _ _ _ _ _ _ _ _ _ _ _ _ _ _ _ _ _ _ _ _ _ _ _ _ _ _ _ _ _ _ _ _ _ _ _ _ _ _ _ _ _ _ _ _ _ _ _ _ _ _ _ _ _ _ _ _ _ _ _ _ _ _ _ _ _ _ _ _ _ _ _ _ _ _ _ _ _ _ _ _ _ _ _ _ _ _ _ _ _ _ _ _ _ _ _ _ _ _ _ _ _ _ _ _ _ _ _ _ _ _ _ _ _ _ _ _ _ _ _ _ _ _ _ _ _ _ _ _ _ _ _ _ _ _ _ _ _ _ _ _ _ _ _ _ _ _ _ _ _ _ _ _ _ _ _ _ _ _ _ _ _ _ _ _ _ _ _ _ _ _ _ _ _ _ _ _ _ _ _ _ _ _ _ _ _ _ _ _ _ _ _ _ _ _ _ _ _ _ _ _ _ _ _ _ _ _ _ _ _ _ _ _ _ _ _ _ _ _ _ _ _ _ _ _ _ _ _ _ _ _ _ _ _
end Go.Proofs.Qxb6603976aMods
