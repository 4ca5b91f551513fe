import Derived.Test.Qxb6603976aModsCopy
namespace Go.Proofs.Qxb6603976aMods
open Go.ChangeShapes Go.WideShapes Go.ChangeAt Go.RowKit
set_option linter.unusedVariables false

/-- In order: from the first that is not before 'o' on, none is. -/
theorem sorted_ge {zs : List Int} {o : Int} (hs : ∀ r, 1 ≤ r → r < zs.length → nthI zs (r - 1) ≤ nthI zs r) (i : Nat) (h1 : firstGe zs o ≤ i) (h2 : i < zs.length) : ¬ nthI zs i < o := by
  induction i with
  | zero =>
    have h0 : firstGe zs o = 0 := by omega
    have := firstGe_at zs o (by omega)
    rw [h0] at this
    exact this
  | succ i ih =>
    by_cases e : firstGe zs o = i + 1
    · have := firstGe_at zs o (by omega)
      rw [e] at this
      exact this
    · have h := ih (by omega) (by omega)
      have := hs (i + 1) (by omega) h2
      simp only [Nat.add_sub_cancel] at this
      omega

theorem nthI_drop (zs : List Int) (n j : Nat) : nthI (zs.drop n) j = nthI zs (n + j) := by simp [nthI]

theorem wrap_nat (k : Nat) (h : k ≤ 40000) : IntKind.i64.wrap (k : Int) = (k : Int) := by rw [IntKind.wrap_i64]; omega

/-- The code from the region with this number on. -/
def firstRegion : Code → Option Nat
  | .region n _ _ => some n
  | .seq a _ => firstRegion a
  | .block _ c => firstRegion c
  | .loop c => firstRegion c
  | _ => none
def headOf : Code → Code
  | .seq a _ => a
  | c => c
def restOf : Code → Code
  | .seq _ b => b
  | c => c
def fromRegion (n : Nat) : Code → Option Code
  | .seq a b => if firstRegion b = some n then some b else match fromRegion n a with
    | some c => some c
    | none => fromRegion n b
  | .block _ c => fromRegion n c
  | .loop c => fromRegion n c
  | .cond _ a b => match fromRegion n a with
    | some c => some c
    | none => fromRegion n b
  | _ => none

set_option maxRecDepth 1000000 in
set_option maxHeartbeats 4000000 in
theorem law_tail (ag ce o : Int) (x1 x2 x3 : Option Addr) (d1 d2 : Nat) (ps zs ds : List Int) (cd co : Bool) (w v5 : World) (HE : Hid (ps.length = zs.length)) (l2' : zs.length ≤ 32768) (l3' : ds.length ≤ 32768)
    (j1 : IntsAt v5 x1 ps) (j2 : IntsAt v5 x2 zs) (j3 : IntsAt v5 x3 ds) (hx5 : ∀ p, x3 = some p → p.block < v5.heap.size) (B1 : Below w.heap.size w v5)
    (SZ : Hid (∀ r, 1 ≤ r → r < zs.length → nthI zs (r - 1) ≤ nthI zs r)) (SD : Hid (∀ r, 1 ≤ r → r < ds.length → nthI ds (r - 1) ≤ nthI ds r))
    (K : Act → World → Prop) (hK : ∀ a w', Code.wp Trym.prog (restOf ((Trym.f7.body.bind (fromRegion 33)).getD .skip)) (bodyPost Trym.prog Trym.f7 fun e w' => e = .returned (.bool true) ∧ Below w.heap.size w w') a w' → K a w')
    (u8 u9 u10 u11 u12 u13 u14 u15 u16 u17 u18 u19 u20 u21 u22 u23 u24 u25 u26 u27 u28 u29 u30 u31 u32 u33 u34 u35 u36 u37 u38 u39 u40 u41 u42 u43 u44 u45 u46 u47 u48 u49 u50 u51 u52 u53 u54 u55 u56 u57 u58 u59 u60 u61 u62 u63 u64 u65 u66 u67 u68 u69 u70 u71 u72 u73 u74 u75 u76 u77 u78 u79 u80 u81 u82 u83 u84 u85 u86 u87 u88 u89 u90 u91 u92 u93 u94 u95 u96 u97 u98 u99 u100 u101 u102 u103 u104 u105 u106 u107 u108 u109 u110 u111 u112 u113 u114 u115 u116 u117 u118 u119 u120 u121 u122 u123 u124 u125 u126 u127 u128 u129 u130 u131 u132 u133 u134 u135 u136 u137 u138 u139 u140 u141 u142 u143 u144 u145 u146 u147 u148 u149 u150 u151 u152 u153 u154 u155 u156 u157 u158 u159 u160 u161 u162 u163 u164 u165 u166 u167 u168 u169 u170 u171 u172 u173 u174 u175 u176 u177 u178 u179 u180 u181 u182 u183 u184 u185 u186 u187 u188 u189 u190 u191 u192 u193 u194 u195 u196 u197 u198 u199 u200 u201 u202 u203 u204 u205 u206 u207 u208 u209 u210 u211 u212 u213 u214 u215 u216 u217 u218 u219 u220 u221 u222 u223 u224 u225 u226 u227 u228 u229 u230 u231 u232 u233 u234 u235 u236 u237 u238 u239 u240 u241 : Value) :
    Code.wp Trym.prog (headOf ((Trym.f7.body.bind (fromRegion 33)).getD .skip)) (Exit.then K (bodyPost Trym.prog Trym.f7 fun e w' => e = .returned (.bool true) ∧ Below w.heap.size w w')) ⟨#[.int .i64 ag, .slice x1 zs.length d1, .slice x2 zs.length d2, .slice x3 ds.length ds.length, .bool cd, .int .i64 ce, .bool co, .int .i64 o, u8, u9, u10, u11, u12, u13, u14, u15, u16, u17, u18, u19, u20, u21, u22, u23, u24, u25, u26, u27, u28, u29, u30, u31, u32, u33, u34, u35, u36, u37, u38, u39, u40, u41, u42, u43, u44, u45, u46, u47, u48, u49, u50, u51, u52, u53, u54, u55, u56, u57, u58, u59, u60, u61, u62, u63, u64, u65, u66, u67, u68, u69, u70, u71, u72, u73, u74, u75, u76, u77, u78, u79, u80, u81, u82, u83, u84, u85, u86, u87, u88, u89, u90, u91, u92, u93, u94, u95, u96, u97, u98, u99, u100, u101, u102, u103, u104, u105, u106, u107, u108, u109, u110, u111, u112, u113, u114, u115, u116, u117, u118, u119, u120, u121, u122, u123, u124, u125, u126, u127, u128, u129, u130, u131, u132, u133, u134, u135, u136, u137, u138, u139, u140, u141, u142, u143, u144, u145, u146, u147, u148, u149, u150, u151, u152, u153, u154, u155, u156, u157, u158, u159, u160, u161, u162, u163, u164, u165, u166, u167, u168, u169, u170, u171, u172, u173, u174, u175, u176, u177, u178, u179, u180, u181, u182, u183, u184, u185, u186, u187, u188, u189, u190, u191, u192, u193, u194, u195, u196, u197, u198, u199, u200, u201, u202, u203, u204, u205, u206, u207, u208, u209, u210, u211, u212, u213, u214, u215, u216, u217, u218, u219, u220, u221, u222, u223, u224, u225, u226, u227, u228, u229, u230, u231, u232, u233, u234, u235, u236, u237, u238, u239, u240, u241], []⟩ v5 := by
  conv => arg 2; whnf
  generalize hr : restOf ((Trym.f7.body.bind (fromRegion 33)).getD .skip) = rest at hK
  conv at hr => lhs; whnf
  subst hr
  go_wp2_with fail
  refine (zzforget_any ag ce o x1 x2 x3 d1 d2 ps zs ds cd co _ HE.out l2' l3' j1 j2 j3 hx5).mono ?_
  rintro e v6 ⟨⟨y1, y2, y3, rfl, t1, t2, t3⟩, BF⟩
  replace j1 := j1.below BF
  replace j2 := j2.below BF
  replace j3 := j3.below BF
  replace B1 := B1.trans (BF.mono B1.size)
  have F1 : Hid (∀ i, i < firstGe zs o → nthI zs i < o) := firstGe_lt zs o
  have F2 : Hid (∀ i, firstGe zs o ≤ i → i < zs.length → ¬ nthI zs i < o) := fun i a b => sorted_ge SZ.out i a b
  have F3 : Hid (∀ i, i < firstGe ds o → nthI ds i < o) := firstGe_lt ds o
  have F4 : Hid (∀ i, firstGe ds o ≤ i → i < ds.length → ¬ nthI ds i < o) := fun i a b => sorted_ge SD.out i a b
  have g1 := firstGe_le zs o
  have g2 := firstGe_le ds o
  have T1 : Hid (∀ m, m < zs.length - firstGe zs o → ∃ p, y1 = some p ∧ v6.cell? (p.add m) = some (.int .i64 (nthI ps (firstGe zs o + m)))) := fun m hm => by
    obtain ⟨p, hp, hc⟩ := t1 m (by have := HE.out; simp; omega)
    exact ⟨p, hp, by rw [hc, nthI_drop]⟩
  have T2 : Hid (∀ m, m < zs.length - firstGe zs o → ∃ p, y2 = some p ∧ v6.cell? (p.add m) = some (.int .i64 (nthI zs (firstGe zs o + m)))) := fun m hm => by
    obtain ⟨p, hp, hc⟩ := t2 m (by simp; omega)
    exact ⟨p, hp, by rw [hc, nthI_drop]⟩
  have T3 : Hid (∀ m, m < ds.length - firstGe ds o → ∃ p, y3 = some p ∧ v6.cell? (p.add m) = some (.int .i64 (nthI ds (firstGe ds o + m)))) := fun m hm => by
    obtain ⟨p, hp, hc⟩ := t3 m (by simp; omega)
    exact ⟨p, hp, by rw [hc, nthI_drop]⟩
  clear t1 t2 t3 BF hx5 SZ SD
  generalize firstGe zs o = N1 at *
  generalize firstGe ds o = N2 at *
  generalize hM1 : zs.length - N1 = M1 at *
  have EM1 : Hid (zs.length - N1 = M1) := hM1
  generalize hM2 : ds.length - N2 = M2 at *
  have EM2 : Hid (ds.length - N2 = M2) := hM2
  have m1l : M1 ≤ 32768 := by omega
  have m2l : M2 ≤ 32768 := by omega
  clear hM1 hM2
  go_wp2
  go_loopw [29, 30] (fun j i wr => ∃ k m : Nat, k ≤ zs.length ∧ i = .int .i64 k ∧ j = .int .i64 m ∧ m ≤ M1 ∧ Hid (m = k - N1) ∧ Below v6.heap.size v6 wr) (fun _ i _ => zs.length - (intOf i).toNat)
  case atStart => exact ⟨0, 0, Nat.zero_le _, rfl, rfl, Nat.zero_le _, by show 0 = 0 - N1; omega, Below.refl _ _⟩
  obtain ⟨k, m, hk, rfl, rfl, hmM, HM, BL⟩ := hrel
  by_cases hlt : k < zs.length
  · obtain ⟨p2, rfl, s2⟩ := (j2.below BL) k hlt
    by_cases hkn : k < N1
    · have hless := F1.out k hkn
      clear j1 j2 j3
      go_wp2
      exact ⟨⟨k + 1, m, by omega, by go_num, rfl, hmM, by show m = k + 1 - N1; have := HM.out; omega, BL⟩, by simp [intOf]; omega⟩
    · have hless := F2.out k (by omega) hlt
      have hmlt : m < M1 := by have := HM.out; have := EM1.out; omega
      obtain ⟨p1, rfl, s1⟩ := (j1.below BL) k (by have := HE.out; omega)
      obtain ⟨r1, rfl, u1⟩ := T1.out m hmlt
      obtain ⟨r2, rfl, u2⟩ := T2.out m hmlt
      have ek : N1 + m = k := by have := HM.out; omega
      rw [ek] at u1 u2
      have w1 := (BL.cell (by have := cell_lt u1; exact this)).trans u1
      have w2 := (BL.cell (by have := cell_lt u2; exact this)).trans u2
      have dm : decide ((M1 : Int) ≤ (m : Int)) = false := by simp; omega
      have im : (m : Int) < (M1 : Int) := by omega
      have ik : (k : Int) < (zs.length : Int) := by omega
      have ik' : (k : Int) < (ps.length : Int) := by have := HE.out; omega
      clear j1 j2 j3 u1 u2 ek
      go_wp2
      go_quiet (fail)
      go_wp2
      exact ⟨⟨k + 1, m + 1, by omega, by go_num, by go_num, by omega, by show m + 1 = k + 1 - N1; have := HM.out; omega, bel_drewN BL _⟩, by simp [intOf]; omega⟩
  obtain rfl : m = M1 := by have := HM.out; have := EM1.out; omega
  obtain ⟨v7, rfl⟩ : ∃ x, x = wr := ⟨_, rfl⟩
  replace j3 := j3.below BL
  have T4 : Hid (∀ m, m < M2 → ∃ p, y3 = some p ∧ v7.cell? (p.add m) = some (.int .i64 (nthI ds (N2 + m)))) := fun m hm => by
    obtain ⟨p, hp, hc⟩ := T3.out m hm
    exact ⟨p, hp, (BL.cell (by have := cell_lt hc; exact this)).trans hc⟩
  replace B1 := B1.trans (BL.mono B1.size)
  clear j1 j2 T1 T2 T3 F1 F2 HM BL
  go_wp2
  go_loopw [29, 31] (fun j i wr => ∃ r t : Nat, r ≤ ds.length ∧ i = .int .i64 r ∧ j = .int .i64 t ∧ t ≤ M2 ∧ Hid (t = r - N2) ∧ Below v7.heap.size v7 wr) (fun _ i _ => ds.length - (intOf i).toNat)
  case atStart => exact ⟨0, 0, Nat.zero_le _, rfl, rfl, Nat.zero_le _, by show 0 = 0 - N2; omega, Below.refl _ _⟩
  obtain ⟨r, t, hr, rfl, rfl, htM, HT, BL⟩ := hrel
  by_cases hrt : r < ds.length
  · obtain ⟨p3, rfl, s3⟩ := (j3.below BL) r hrt
    by_cases hrn : r < N2
    · have hless := F3.out r hrn
      clear j3
      go_wp2
      exact ⟨⟨r + 1, t, by omega, by go_num, rfl, htM, by show t = r + 1 - N2; have := HT.out; omega, BL⟩, by simp [intOf]; omega⟩
    · have hless := F4.out r (by omega) hrt
      have htlt : t < M2 := by have := HT.out; have := EM2.out; omega
      obtain ⟨r3, rfl, u3⟩ := T4.out t htlt
      have er : N2 + t = r := by have := HT.out; omega
      rw [er] at u3
      have w3 := (BL.cell (by have := cell_lt u3; exact this)).trans u3
      have dt : decide ((M2 : Int) ≤ (t : Int)) = false := by simp; omega
      have it : (t : Int) < (M2 : Int) := by omega
      have ir : (r : Int) < (ds.length : Int) := by omega
      clear j3 u3 er
      go_wp2
      go_quiet (fail)
      go_wp2
      exact ⟨⟨r + 1, t + 1, by omega, by go_num, by go_num, by omega, by show t + 1 = r + 1 - N2; have := HT.out; omega, bel_drewN BL _⟩, by simp [intOf]; omega⟩
  obtain rfl : t = M2 := by have := HT.out; have := EM2.out; omega
  replace B1 := B1.trans (BL.mono B1.size)
  clear j3 T4 F3 F4 HT BL
  have hcase : cd = false ∨ (cd = true ∧ co = true) ∨ (cd = true ∧ co = false ∧ ce < o) ∨ (cd = true ∧ co = false ∧ o ≤ ce) := by
    cases cd <;> cases co <;> simp <;> omega
  rcases hcase with rfl | ⟨rfl, rfl⟩ | ⟨rfl, rfl, hlo⟩ | ⟨rfl, rfl, hlo⟩
  · go_wp2
    go_ret
    exact ⟨rfl, B1⟩
  · go_wp2
    go_ret
    exact ⟨rfl, B1⟩
  · have hd : decide (o ≤ ce) = false := by simp; omega
    go_wp2
    go_ret
    exact ⟨rfl, B1⟩
  · have hd : decide (o ≤ ce) = true := by simp; omega
    go_wp2
    go_ret
    exact ⟨rfl, B1⟩
end Go.Proofs.Qxb6603976aMods
