import Derived.Test.Qxb6603976aModsLawC2
namespace Go.Proofs.Qxb6603976aMods
open Go.ChangeShapes Go.WideShapes Go.ChangeAt Go.RowKit
set_option linter.unusedVariables false

set_option maxRecDepth 100000 in
set_option maxHeartbeats 4000000 in
theorem law_main (ag ce o : Int) (a1 a2 a3 : Option Addr) (c1 c2 c3 : Nat) (ps zs ds : List Int) (cd co : Bool) (w : World) (n1 : ps.length ≤ 9223372036854775807) (n2 : zs.length ≤ 9223372036854775807) (n3 : ds.length ≤ 9223372036854775807)
    (h1 : IntsAt w a1 ps) (h2 : IntsAt w a2 zs) (h3 : IntsAt w a3 ds) (e3 : a3 = none → c3 = 0) (l1' : ps.length ≤ 32768) (l2' : zs.length ≤ 32768) (l3' : ds.length ≤ 32768) (hE : ps.length = zs.length) :
    Calls Trym.prog 7 #[.int .i64 ag, .slice a1 ps.length c1, .slice a2 zs.length c2, .slice a3 ds.length c3, .bool cd, .int .i64 ce, .bool co, .int .i64 o] w fun e w' => e = .returned (.bool true) ∧ Below w.heap.size w w' := by
  have E3 : Hid (a3 = none → c3 = 0) := e3
  clear e3
  have HE : Hid (ps.length = zs.length) := hE
  have hq : ((ps.length : Int) == (zs.length : Int)) = true := by simp [hE]
  clear hE
  go_enter Trym.func7, Trym.ntmps7
  go_wp2_with fail
  refine (bytes20_any ag ce o a1 a2 a3 c1 c2 c3 ps.length zs.length ds.length cd co _ n1 n2 n3).mono ?_
  rintro e w' ⟨⟨r, rfl⟩, hw⟩
  subst w'
  cases r
  case false =>
    go_wp2
    go_ret
    exact ⟨rfl, Below.refl _ _⟩
  have q28 := neq_nil 28 3 Trym.underlying28
  have q40 := neq_nil 40 2 Trym.underlying40
  cases a1 with
  | none =>
    have hps : ps = [] := by
      cases ps with
      | nil => rfl
      | cons d r => obtain ⟨p, hp, _⟩ := h1 0 (by simp); cases hp
    subst hps
    have hzs : zs.length = 0 := HE.out.symm
    have hzs' : zs = [] := List.eq_nil_of_length_eq_zero hzs
    subst hzs'
    go_upto_region 15 with fail
    rename_i M1 aM1 M0 aM0
    exact law_c2 ag ce o none a2 a3 c1 c2 c3 [] [] ds cd co w w rfl l1' l2' l3' h1 h2 h3 E3 (Below.refl _ _) M1 M0 aM1 aM0 _ _ _ _ _ _ _ _ _ _ _ _ _ _ _ _ _ _ _ _ _ _ _ _ _ _ _ _ _ _ _ _ _ _ _ _ _ _ _ _ _ _ _ _ _ _ _ _ _ _ _ _ _ _ _ _ _ _ _ _ _ _ _ _ _ _ _ _ _ _ _ _ _ _ _ _ _ _ _ _ _ _ _ _ _ _ _ _ _ _ _ _ _ _ _ _ _ _ _ _ _ _ _ _ _ _ _ _ _ _ _ _ _ _ _ _ _ _ _ _ _ _ _ _ _ _ _ _ _ _ _ _ _ _ _ _ _ _ _ _ _ _ _ _ _ _ _ _ _ _ _ _ _ _ _ _ _ _ _ _ _ _ _ _ _ _ _ _ _ _ _ _ _ _ _ _ _ _ _ _ _ _ _ _ _ _ _ _ _ _ _ _ _ _ _ _ _ _ _ _ _ _ _ _ _ _ _ _ _ _ _ _ _ _ _ _ _ _ _ _ _ _ _ _ _ _ _ _ _ _ _ _ _ _
  | some p =>
    have mk := mk28 ps.length l1' w
    have cp := copy_ints 28 3 Trym.underlying28 (by kernel_rfl) p c1 ps w h1
    have BX : Below w.heap.size w (w.alloc (.cells (ps.map (Value.int .i64)).toArray 3)) := (Below.refl _ _).alloc (Nat.le_refl _) _
    have HX : Hid (IntsAt (w.alloc (.cells (ps.map (Value.int .i64)).toArray 3)) a2 zs ∧ IntsAt (w.alloc (.cells (ps.map (Value.int .i64)).toArray 3)) a3 ds ∧ Below w.heap.size w (w.alloc (.cells (ps.map (Value.int .i64)).toArray 3))) := ⟨h2.below BX, h3.below BX, BX⟩
    clear h1 h2 h3 BX
    go_upto_region 15 with fail
    rename_i M1 aM1 M0 aM0
    rw [HE.out]
    exact law_c2 ag ce o (some ⟨w.heap.size, 0, none⟩) a2 a3 zs.length c2 c3 ps zs ds cd co w _ HE l1' l2' l3' (copied_ints w 3 ps) HX.out.1 HX.out.2.1 E3 HX.out.2.2 M1 M0 aM1 aM0 _ _ _ _ _ _ _ _ _ _ _ _ _ _ _ _ _ _ _ _ _ _ _ _ _ _ _ _ _ _ _ _ _ _ _ _ _ _ _ _ _ _ _ _ _ _ _ _ _ _ _ _ _ _ _ _ _ _ _ _ _ _ _ _ _ _ _ _ _ _ _ _ _ _ _ _ _ _ _ _ _ _ _ _ _ _ _ _ _ _ _ _ _ _ _ _ _ _ _ _ _ _ _ _ _ _ _ _ _ _ _ _ _ _ _ _ _ _ _ _ _ _ _ _ _ _ _ _ _ _ _ _ _ _ _ _ _ _ _ _ _ _ _ _ _ _ _ _ _ _ _ _ _ _ _ _ _ _ _ _ _ _ _ _ _ _ _ _ _ _ _ _ _ _ _ _ _ _ _ _ _ _ _ _ _ _ _ _ _ _ _ _ _ _ _ _ _ _ _ _ _ _ _ _ _ _ _ _ _ _ _ _ _ _ _ _ _ _ _ _ _ _ _ _ _ _ _ _ _ _ _ _ _ _
end Go.Proofs.Qxb6603976aMods
