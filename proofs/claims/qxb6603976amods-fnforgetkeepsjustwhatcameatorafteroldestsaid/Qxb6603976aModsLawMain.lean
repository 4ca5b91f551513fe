import Derived.Test.Qxb6603976aModsLawTail
namespace Go.Proofs.Qxb6603976aMods
open Go.ChangeShapes Go.WideShapes Go.ChangeAt Go.RowKit
set_option linter.unusedVariables false

set_option maxRecDepth 100000 in
set_option maxHeartbeats 4000000 in
theorem law_main (ag ce o : Int) (a1 a2 a3 : Option Addr) (c1 c2 c3 : Nat) (ps zs ds : List Int) (cd co : Bool) (w : World) (n1 : ps.length ≤ 9223372036854775807) (n2 : zs.length ≤ 9223372036854775807) (n3 : ds.length ≤ 9223372036854775807)
    (h1 : IntsAt w a1 ps) (h2 : IntsAt w a2 zs) (h3 : IntsAt w a3 ds) (e3 : a3 = none → c3 = 0) (l1' : ps.length ≤ 32768) (l2' : zs.length ≤ 32768) (l3' : ds.length ≤ 32768) (hE : ps.length = zs.length) :
    Calls Trym.prog 7 #[.int .i64 ag, .slice a1 ps.length c1, .slice a2 zs.length c2, .slice a3 ds.length c3, .bool cd, .int .i64 ce, .bool co, .int .i64 o] w fun e w' => e = .returned (.bool true) ∧ Below w.heap.size w w' := by
  have E3 : Hid (a3 = none → c3 = 0) := e3
  clear e3
  have HE : Hid (ps.length = zs.length) := hE
  have hq : ((ps.length : Int) == (zs.length : Int)) = true := by simp [hE]
  clear hE
  go_enter Trym.func7, Trym.ntmps7
  go_wp2_with fail
  refine (bytes20_any ag ce o a1 a2 a3 c1 c2 c3 ps.length zs.length ds.length cd co _ n1 n2 n3).mono ?_
  rintro e w' ⟨⟨r, rfl⟩, hw⟩
  subst w'
  cases r
  case false =>
    go_wp2
    go_ret
    exact ⟨rfl, Below.refl _ _⟩
  have q28 := neq_nil 28 3 Trym.underlying28
  have q40 := neq_nil 40 2 Trym.underlying40
  go_upto_if 58 with fail
  go_cut [1] (fun v w1 => ∃ x c, v = .slice x zs.length c ∧ IntsAt w1 x ps ∧ Below w.heap.size w w1)
  case first =>
    cases a1 with
    | none =>
      go_wp2
      go_meet
      case rel => exact ⟨none, c1, by rw [HE.out], h1, Below.refl _ _⟩
    | some p =>
      have mk := mk28 ps.length l1' w
      have cp := copy_ints 28 3 Trym.underlying28 (by kernel_rfl) p c1 ps w h1
      clear h2 h3
      go_wp2
      go_meet
      case rel => exact ⟨some ⟨w.heap.size, 0, none⟩, ps.length, by rw [HE.out], copied_ints w 3 ps, (Below.refl _ _).alloc (Nat.le_refl _) _⟩
  case rest =>
  obtain ⟨x1, d1, rfl, j1, B1⟩ := hcut
  replace h2 := h2.below B1
  replace h3 := h3.below B1
  clear h1
  obtain ⟨v1, rfl⟩ : ∃ x, x = wc := ⟨_, rfl⟩
  go_upto_if 67 with fail
  go_cut [2] (fun v w1 => ∃ x c, v = .slice x zs.length c ∧ IntsAt w1 x zs ∧ Below v1.heap.size v1 w1)
  case first =>
    cases a2 with
    | none =>
      go_wp2
      go_meet
      case rel => exact ⟨none, c2, rfl, h2, Below.refl _ _⟩
    | some p =>
      have mk := mk40 zs.length l2' v1
      have cp := copy_ints 40 2 Trym.underlying40 (by kernel_rfl) p c2 zs v1 h2
      clear h2 h3 j1
      go_wp2
      go_meet
      case rel => exact ⟨_, _, rfl, copied_ints v1 2 zs, (Below.refl _ _).alloc (Nat.le_refl _) _⟩
  case rest =>
  obtain ⟨x2, d2, rfl, j2, B2⟩ := hcut
  replace j1 := j1.below B2
  replace h3 := h3.below B2
  replace B1 := B1.trans (B2.mono B1.size)
  clear h2 B2
  obtain ⟨v2, rfl⟩ : ∃ x, x = wc := ⟨_, rfl⟩
  go_upto_if 76 with fail
  go_cut [3] (fun v w1 => ∃ x, v = .slice x ds.length ds.length ∧ IntsAt w1 x ds ∧ (∀ p, x = some p → p.block < w1.heap.size) ∧ Below v2.heap.size v2 w1)
  case first =>
    cases a3 with
    | none =>
      have hds : ds = [] := by
        cases ds with
        | nil => rfl
        | cons d r => obtain ⟨p, hp, _⟩ := h3 0 (by simp); cases hp
      subst hds
      obtain rfl : c3 = 0 := E3.out rfl
      go_wp2
      go_meet
      case rel => exact ⟨none, rfl, h3, (fun p hp => by cases hp), Below.refl _ _⟩
    | some p =>
      have mk := mk40 ds.length l3' v2
      have cp := copy_ints 40 2 Trym.underlying40 (by kernel_rfl) p c3 ds v2 h3
      clear h3 j1 j2
      go_wp2
      go_meet
      case rel => exact ⟨_, rfl, copied_ints v2 2 ds, (fun q hq => by cases hq; simp), (Below.refl _ _).alloc (Nat.le_refl _) _⟩
  case rest =>
  obtain ⟨x3, rfl, j3, hx3, B2⟩ := hcut
  replace j1 := j1.below B2
  replace j2 := j2.below B2
  replace B1 := B1.trans (B2.mono B1.size)
  clear h3 B2 q28 q40
  obtain ⟨v3, rfl⟩ : ∃ x, x = wc := ⟨_, rfl⟩
  go_wp2
  go_loopw [20] (fun i wr => ∃ k : Nat, 1 ≤ k ∧ i = .int .i64 k ∧ k ≤ zs.length + 1 ∧ Hid (∀ r, 1 ≤ r → r < k → r < zs.length → nthI zs (r - 1) ≤ nthI zs r) ∧ Below v3.heap.size v3 wr) (fun i _ => zs.length + 1 - (intOf i).toNat)
  case atStart => exact ⟨1, Nat.le_refl _, rfl, by omega, fun r a b => by omega, Below.refl _ _⟩
  obtain ⟨k, hk1, rfl, hk2, HS, BL⟩ := hrel
  by_cases hlt : k < zs.length
  · obtain ⟨k, rfl⟩ : ∃ r, k = r + 1 := ⟨k - 1, by omega⟩
    obtain ⟨p, rfl, s1⟩ := (j2.below BL) k (by omega)
    obtain ⟨p', hp', s2⟩ := (j2.below BL) (k + 1) (by omega)
    cases hp'
    have i1 : (k : Int) < (zs.length : Int) := by omega
    have i2 : (k : Int) + 1 < (zs.length : Int) := by omega
    have i3 : (k : Int) + 1 - 1 = (k : Int) := by omega
    have i4 : IntKind.i64.wrap (k : Int) = (k : Int) := wrap_nat k (by omega)
    have s2' : wr.cell? ⟨p.block, p.off + (k + 1), none⟩ = some (.int .i64 (nthI zs (k + 1))) := s2
    clear j1 j2 j3 hx3
    by_cases hle : nthI zs k ≤ nthI zs (k + 1)
    · have HLE : Hid (nthI zs k ≤ nthI zs (k + 1)) := hle
      go_wp2
      go_quiet (fail)
      go_wp2
      refine ⟨⟨k + 1 + 1, by omega, by go_num, by omega, fun r a b c => ?_, bel_drewN BL _⟩, by simp [intOf]; omega⟩
      by_cases e : r = k + 1
      · subst e; exact HLE.out
      · exact HS.out r a (by omega) c
    · go_wp2
      go_quiet (fail)
      go_wp2
      go_ret
      exact ⟨rfl, bel_drewN (B1.trans (BL.mono B1.size)) _⟩
  have SZ : Hid (∀ r, 1 ≤ r → r < zs.length → nthI zs (r - 1) ≤ nthI zs r) := fun r a b => HS.out r a (by omega) b
  obtain ⟨v4, rfl⟩ : ∃ x, x = wr := ⟨_, rfl⟩
  replace j1 := j1.below BL
  replace j2 := j2.below BL
  replace j3 := j3.below BL
  have hx4 : ∀ p, x3 = some p → p.block < v4.heap.size := fun p hp => by have := hx3 p hp; have := BL.size; omega
  replace B1 := B1.trans (BL.mono B1.size)
  clear HS BL hx3
  go_wp2
  go_loopw [21] (fun i wr => ∃ k : Nat, 1 ≤ k ∧ i = .int .i64 k ∧ k ≤ ds.length + 1 ∧ Hid (∀ r, 1 ≤ r → r < k → r < ds.length → nthI ds (r - 1) ≤ nthI ds r) ∧ Below v4.heap.size v4 wr) (fun i _ => ds.length + 1 - (intOf i).toNat)
  case atStart => exact ⟨1, Nat.le_refl _, rfl, by omega, fun r a b => by omega, Below.refl _ _⟩
  obtain ⟨k, hk1, rfl, hk2, HS, BL⟩ := hrel
  by_cases hlt : k < ds.length
  · obtain ⟨k, rfl⟩ : ∃ r, k = r + 1 := ⟨k - 1, by omega⟩
    obtain ⟨p, rfl, s1⟩ := (j3.below BL) k (by omega)
    obtain ⟨p', hp', s2⟩ := (j3.below BL) (k + 1) (by omega)
    cases hp'
    have i1 : (k : Int) < (ds.length : Int) := by omega
    have i2 : (k : Int) + 1 < (ds.length : Int) := by omega
    have i3 : (k : Int) + 1 - 1 = (k : Int) := by omega
    have i4 : IntKind.i64.wrap (k : Int) = (k : Int) := wrap_nat k (by omega)
    have s2' : wr.cell? ⟨p.block, p.off + (k + 1), none⟩ = some (.int .i64 (nthI ds (k + 1))) := s2
    clear j1 j2 j3 hx4
    by_cases hle : nthI ds k ≤ nthI ds (k + 1)
    · have HLE : Hid (nthI ds k ≤ nthI ds (k + 1)) := hle
      go_wp2
      go_quiet (fail)
      go_wp2
      refine ⟨⟨k + 1 + 1, by omega, by go_num, by omega, fun r a b c => ?_, bel_drewN BL _⟩, by simp [intOf]; omega⟩
      by_cases e : r = k + 1
      · subst e; exact HLE.out
      · exact HS.out r a (by omega) c
    · go_wp2
      go_quiet (fail)
      go_wp2
      go_ret
      exact ⟨rfl, bel_drewN (B1.trans (BL.mono B1.size)) _⟩
  have SD : Hid (∀ r, 1 ≤ r → r < ds.length → nthI ds (r - 1) ≤ nthI ds r) := fun r a b => HS.out r a (by omega) b
  obtain ⟨v5, rfl⟩ : ∃ x, x = wr := ⟨_, rfl⟩
  replace j1 := j1.below BL
  replace j2 := j2.below BL
  replace j3 := j3.below BL
  have hx5 : ∀ p, x3 = some p → p.block < v5.heap.size := fun p hp => by have := hx4 p hp; have := BL.size; omega
  replace B1 := B1.trans (BL.mono B1.size)
  clear HS BL hx4
  go_upto_region 33 with fail
  rename_i K aK
  exact law_tail ag ce o x1 x2 x3 d1 d2 ps zs ds cd co w v5 HE l2' l3' j1 j2 j3 hx5 B1 SZ SD K aK _ _ _ _ _ _ _ _ _ _ _ _ _ _ _ _ _ _ _ _ _ _ _ _ _ _ _ _ _ _ _ _ _ _ _ _ _ _ _ _ _ _ _ _ _ _ _ _ _ _ _ _ _ _ _ _ _ _ _ _ _ _ _ _ _ _ _ _ _ _ _ _ _ _ _ _ _ _ _ _ _ _ _ _ _ _ _ _ _ _ _ _ _ _ _ _ _ _ _ _ _ _ _ _ _ _ _ _ _ _ _ _ _ _ _ _ _ _ _ _ _ _ _ _ _ _ _ _ _ _ _ _ _ _ _ _ _ _ _ _ _ _ _ _ _ _ _ _ _ _ _ _ _ _ _ _ _ _ _ _ _ _ _ _ _ _ _ _ _ _ _ _ _ _ _ _ _ _ _ _ _ _ _ _ _ _ _ _ _ _ _ _ _ _ _ _ _ _ _ _ _ _ _ _ _ _ _ _ _ _ _ _ _ _ _ _ _ _ _ _ _ _ _ _ _ _ _ _ _ _ _ _ _ _
end Go.Proofs.Qxb6603976aMods
