import Derived.Test.Qxb6603976aModsForget
namespace Go.Proofs.Qxb6603976aMods
open Go.ChangeShapes Go.WideShapes Go.ChangeAt Go.RowKit
set_option linter.unusedVariables false

theorem Trym.info53 : (Trym.prog.info? 53).map (fun i => (i.zero, i.size, i.bytes)) = some (some (.agg #[.int .i64 0, .int .i64 0]), 2, 16) := by kernel_rfl
theorem Trym.info3 : (Trym.prog.info? 3).map (fun i => (i.zero, i.size, i.bytes)) = some (some (.int .i64 0), 1, 8) := by kernel_rfl
theorem Trym.info2 : (Trym.prog.info? 2).map (fun i => (i.zero, i.size, i.bytes)) = some (some (.int .i64 0), 1, 8) := by kernel_rfl

/-- The attempts laid so far. -/
def Laid (ps zs : List Int) (k : Nat) (xs : List Value) : Prop := ∀ i, i < k → xs[i * 2]? = some (.int .i64 (nthI ps i)) ∧ xs[i * 2 + 1]? = some (.int .i64 (nthI zs i))

theorem laid_step {ps zs : List Int} {k : Nat} {xs : List Value} (h : Laid ps zs k xs) (hl : k * 2 + 1 < xs.length) : Laid ps zs (k + 1) ((xs.set (k * 2) (.int .i64 (nthI ps k))).set (k * 2 + 1) (.int .i64 (nthI zs k))) := by
  intro i hi
  by_cases e : i = k
  · subst e
    constructor
    · rw [List.getElem?_set_ne (by omega), List.getElem?_set_self (by omega)]
    · rw [List.getElem?_set_self (by simpa using hl)]
  · have := h i (by omega)
    constructor
    · rw [List.getElem?_set_ne (by omega), List.getElem?_set_ne (by omega)]; exact this.1
    · rw [List.getElem?_set_ne (by omega), List.getElem?_set_ne (by omega)]; exact this.2

theorem add_block (p : Addr) (k : Nat) : (p.add k).block = p.block := by
  unfold Addr.add
  split <;> rfl
theorem add_add (p : Addr) (a b : Nat) : (p.add a).add b = p.add (a + b) := by
  unfold Addr.add
  by_cases ha : a = 0
  · subst ha; simp
  · by_cases hb : b = 0
    · subst hb; simp
    · simp [ha, hb]; omega
theorem six_cells (w : World) (c0 c1 c2 c3 c4 c5 : Value) : (w.alloc (.cells #[c0, c1, c2, c3, c4, c5] 56)).cell? ⟨w.heap.size, 0, none⟩ = some c0 ∧ (w.alloc (.cells #[c0, c1, c2, c3, c4, c5] 56)).cell? ⟨w.heap.size, 1, none⟩ = some c1 ∧ (w.alloc (.cells #[c0, c1, c2, c3, c4, c5] 56)).cell? ⟨w.heap.size, 2, none⟩ = some c2 ∧
    (w.alloc (.cells #[c0, c1, c2, c3, c4, c5] 56)).cell? ⟨w.heap.size, 3, none⟩ = some c3 ∧ (w.alloc (.cells #[c0, c1, c2, c3, c4, c5] 56)).cell? ⟨w.heap.size, 4, none⟩ = some c4 ∧ (w.alloc (.cells #[c0, c1, c2, c3, c4, c5] 56)).cell? ⟨w.heap.size, 5, none⟩ = some c5 := by
  refine ⟨?_, ?_, ?_, ?_, ?_, ?_⟩ <;> go_simp
theorem six_frozen (w : World) (cs : Array Value) (j : Nat) : (w.alloc (.cells cs 56)).frozen? ⟨w.heap.size, j, none⟩ = false := by go_simp

def zeros (m : Nat) : Array Value := madeCells (Value.cells (.int .i64 0)) m
theorem size_zeros (m : Nat) : (zeros m).size = m := size_madeCells _ _
theorem mk28 (m : Nat) (hm : m ≤ 32768) (W : World) : Sem.run Trym.prog (Instr.makeSlice 28 (.int .i64 m) (.int .i64 m)) W = .ok (.slice (some ⟨W.heap.size, 0, none⟩) m m) (W.alloc (.cells (zeros m) 3)) := by
  obtain ⟨i0, hi, hz0, hz1, hz2⟩ := info_parts Trym.info3
  have hmk := run_make (P := Trym.prog) W 28 3 i0 (.int .i64 0) Trym.underlying28 hi hz0 .i64 .i64 m m (by omega) (by omega) (by rw [hz2]; omega) (by omega)
  rw [hz1, Nat.mul_one] at hmk
  simp only [Int.toNat_natCast] at hmk
  exact hmk
theorem mk40 (m : Nat) (hm : m ≤ 32768) (W : World) : Sem.run Trym.prog (Instr.makeSlice 40 (.int .i64 m) (.int .i64 m)) W = .ok (.slice (some ⟨W.heap.size, 0, none⟩) m m) (W.alloc (.cells (zeros m) 2)) := by
  obtain ⟨i0, hi, hz0, hz1, hz2⟩ := info_parts Trym.info2
  have hmk := run_make (P := Trym.prog) W 40 2 i0 (.int .i64 0) Trym.underlying40 hi hz0 .i64 .i64 m m (by omega) (by omega) (by rw [hz2]; omega) (by omega)
  rw [hz1, Nat.mul_one] at hmk
  simp only [Int.toNat_natCast] at hmk
  exact hmk

/-- The first k numbers are copied. -/
def Copied (zs : List Int) (k : Nat) (xs : List Value) : Prop := ∀ i, i < k → xs[i]? = some (.int .i64 (nthI zs i))
theorem copied_step {zs : List Int} {k : Nat} {xs : List Value} (h : Copied zs k xs) (hl : k < xs.length) : Copied zs (k + 1) (xs.set k (.int .i64 (nthI zs k))) := by
  intro i hi
  by_cases e : i = k
  · subst e
    rw [List.getElem?_set_self hl]
  · rw [List.getElem?_set_ne (by omega)]
    exact h i (by omega)
theorem row_ints {base : Nat} {w : World} {e : TypeId} {g m cap : Nat} {xs : List Value} {zs : List Int} (h : w.ownsRow base e 1 (.slice (some ⟨g, 0, none⟩) m cap) m xs) (hl : zs.length = m) (hc : Copied zs m xs) : IntsAt w (some ⟨g, 0, none⟩) zs := by
  intro k hk
  exact ⟨_, rfl, h.cells rfl k _ (hc k (by omega))⟩

/-- The seven results. -/
def RetForget (ag ce : Int) (cd' co : Bool) (m1 m2 : Nat) (Ps Zs Ds : List Int) (e : Ending) (w' : World) : Prop :=
  ∃ x1 x2 x3, e = .returned (.tuple #[.int .i64 ag, .slice x1 m1 m1, .slice x2 m1 m1, .slice x3 m2 m2, .bool cd', .int .i64 ce, .bool co]) ∧ IntsAt w' x1 Ps ∧ IntsAt w' x2 Zs ∧ IntsAt w' x3 Ds

/-- What 'forget' leaves, cell by cell. -/
theorem forgot_facts {b g z d n1 n2 : Nat} {a3 : Option Addr} {ag ce o : Int} {cd co : Bool} {w w' : World} {u1 u2 : Value} (hF : Forgot b g z d n1 n2 a3 ce o cd co w w') (q0 : w.cell? ⟨b, 0, none⟩ = some (.int .i64 ag)) (q1 : w.cell? ⟨b, 1, none⟩ = some u1) (q2 : w.cell? ⟨b, 2, none⟩ = some u2)
    (q3 : w.cell? ⟨b, 3, none⟩ = some (.bool cd)) (q4 : w.cell? ⟨b, 4, none⟩ = some (.int .i64 ce)) (q5 : w.cell? ⟨b, 5, none⟩ = some (.bool co)) :
    ∃ x a3', (n1 < z → x = n1 * 2) ∧ (n2 < d → ∃ p, a3 = some p ∧ a3' = some (p.add n2)) ∧ w'.cell? ⟨b, 0, none⟩ = some (.int .i64 ag) ∧ w'.cell? ⟨b, 1, none⟩ = some (.slice (some ⟨g, x, none⟩) (z - n1) (z - n1)) ∧ w'.cell? ⟨b, 2, none⟩ = some (.slice a3' (d - n2) (d - n2)) ∧
      w'.cell? ⟨b, 3, none⟩ = some (.bool (cd && (co || decide (o ≤ ce)))) ∧ w'.cell? ⟨b, 4, none⟩ = some (.int .i64 ce) ∧ w'.cell? ⟨b, 5, none⟩ = some (.bool co) ∧ w.grownBy w' (some b) := by
  obtain ⟨x, a3', hx, ha, hw⟩ := hF
  refine ⟨x, a3', hx, ha, ?_⟩
  have hg : ∀ (W : World) (q : Nat) (v : Value), W.grownBy (W.setCell ⟨b, q, none⟩ v) (some b) := fun W q v =>
    ⟨rfl, rfl, rfl, by simp [World.setCell], fun k _ hk => Below.heap_setCell W ⟨b, q, none⟩ v k (fun e => hk (by rw [e]))⟩
  have tr : ∀ {a c d : World}, a.grownBy c (some b) → c.grownBy d (some b) → a.grownBy d (some b) := fun h k =>
    ⟨k.os.trans h.os, k.tape.trans h.tape, k.output.trans h.output, Nat.le_trans h.size k.size, fun i hi hne => (k.block i (Nat.lt_of_lt_of_le hi h.size) hne).trans (h.block i hi hne)⟩
  rcases hw with ⟨rfl, hc⟩ | ⟨rfl, hc⟩
  · rw [hc]
    exact ⟨by go_simp, by go_simp, by go_simp, by go_simp, by go_simp, by go_simp, tr (hg _ _ _) (hg _ _ _)⟩
  · rw [hc]
    exact ⟨by go_simp, by go_simp, by go_simp, by go_simp, by go_simp, by go_simp, tr (tr (hg _ _ _) (hg _ _ _)) (hg _ _ _)⟩

set_option maxRecDepth 100000 in
set_option maxHeartbeats 2000000 in
theorem zzforget_any (ag ce o : Int) (a1 a2 a3 : Option Addr) (c1 c2 : Nat) (ps zs ds : List Int) (cd co : Bool) (w : World) (hps : ps.length = zs.length) (hn : zs.length ≤ 32768) (hm : ds.length ≤ 32768)
    (h1 : IntsAt w a1 ps) (h2 : IntsAt w a2 zs) (h3 : IntsAt w a3 ds) (hlt3 : ∀ p, a3 = some p → p.block < w.heap.size) :
    Calls Trym.prog 21 #[.int .i64 ag, .slice a1 zs.length c1, .slice a2 zs.length c2, .slice a3 ds.length ds.length, .bool cd, .int .i64 ce, .bool co, .int .i64 o] w fun e w' => RetForget ag ce (cd && (co || decide (o ≤ ce))) co (zs.length - firstGe zs o) (ds.length - firstGe ds o) (ps.drop (firstGe zs o)) (zs.drop (firstGe zs o)) (ds.drop (firstGe ds o)) e w' ∧ Below w.heap.size w w' := by
  obtain ⟨i0, hi, hz0, hz1, hz2⟩ := info_parts Trym.info53
  have hmk := run_make (P := Trym.prog) w 51 53 i0 (.agg #[.int .i64 0, .int .i64 0]) Trym.underlying51 hi hz0 .i64 .i64 zs.length zs.length (by omega) (by omega) (by rw [hz2]; omega) (by omega)
  have hsz := size_madeCells (Value.cells (.agg #[.int .i64 0, .int .i64 0])) (zs.length * 2)
  rw [hz1] at hmk
  simp only [Int.toNat_natCast] at hmk
  generalize madeCells (Value.cells (.agg #[.int .i64 0, .int .i64 0])) (zs.length * 2) = cs0 at hmk hsz
  clear hi hz0 hz1 hz2
  have HP : Hid (ps.length = zs.length) := hps
  have HS : Hid (cs0.size = zs.length * 2) := hsz
  clear hps hsz
  go_enter Trym.func21, Trym.ntmps21
  go_wp2
  go_loopw [36] (fun i wr => ∃ (k : Nat) (xs : List Value), k ≤ zs.length ∧ i = .int .i64 k ∧ wr.ownsRow w.heap.size 53 2 (.slice (some ⟨w.heap.size, 0, none⟩) zs.length zs.length) zs.length xs ∧ Hid (Laid ps zs k xs) ∧ Below w.heap.size w wr ∧ wr.heap.size = w.heap.size + 1) (fun i _ => zs.length - (intOf i).toNat)
  case atStart => exact ⟨0, cs0.toList, Nat.zero_le _, rfl, World.ownsRow_lit w cs0 zs.length (Nat.le_refl _) (by unfold maxLen; omega) HS.out, fun i hi => by omega, (Below.refl _ _).alloc (Nat.le_refl _) _, by simp⟩
  obtain ⟨k, xs, hk, rfl, hown, HL, hB, hsize⟩ := hrel
  clear hmk
  by_cases hlt : k < zs.length
  · obtain ⟨p1, rfl, d1⟩ := h1 k (by rw [HP.out]; exact hlt)
    obtain ⟨p2, rfl, d2⟩ := h2 k hlt
    replace d1 := (hB.cell (cell_lt d1)).trans d1
    replace d2 := (hB.cell (cell_lt d2)).trans d2
    have z1 := hown.frozenAt (k * 2)
    have z2 := hown.frozenAt (k * 2 + 1)
    have y1 := hown.cellAt (k * 2) (by omega)
    have y2 := hown.cellAt (k * 2 + 1) (by omega)
    have hxl := hown.1
    rw [List.getElem?_eq_getElem (by omega)] at y1 y2
    clear h1 h2 h3
    go_wp2
    go_region
    go_wp2
    obtain ⟨b1, g1⟩ := hown.stored (k * 2) (.int .i64 (nthI ps k))
    obtain ⟨b2, g2⟩ := b1.stored (k * 2 + 1) (.int .i64 (nthI zs k))
    exact ⟨⟨k + 1, _, by omega, by go_num, b2, laid_step HL.out (by omega), ((hB.setCell (by exact Nat.le_refl _) _).setCell (by exact Nat.le_refl _) _).drew, by show ((wr.setCell _ _).setCell _ _).heap.size = _; simp [hsize]⟩, by simp [intOf]; omega⟩
  · obtain rfl : k = zs.length := by omega
    have i3 := h3.below hB
    clear h1 h2 h3
    have hBA : Below wr.heap.size wr (wr.alloc (.cells #[.int .i64 ag, .slice (some ⟨w.heap.size, 0, none⟩) zs.length zs.length, .slice a3 ds.length ds.length, .bool cd, .int .i64 ce, .bool co] 56)) := (Below.refl _ _).alloc (Nat.le_refl _) _
    have i4 := i3.below hBA
    have hcs : ∀ i, i < zs.length → wr.cell? ⟨w.heap.size, i * 2, none⟩ = some (.int .i64 (nthI ps i)) ∧ wr.cell? ⟨w.heap.size, i * 2 + 1, none⟩ = some (.int .i64 (nthI zs i)) := fun i hi => by
      rw [hown.cellAt _ (by omega), hown.cellAt _ (by omega)]
      exact HL.out i hi
    have hcs' : ∀ i, i < zs.length → (wr.alloc (.cells #[.int .i64 ag, .slice (some ⟨w.heap.size, 0, none⟩) zs.length zs.length, .slice a3 ds.length ds.length, .bool cd, .int .i64 ce, .bool co] 56)).cell? ⟨w.heap.size, i * 2, none⟩ = some (.int .i64 (nthI ps i)) ∧ (wr.alloc (.cells #[.int .i64 ag, .slice (some ⟨w.heap.size, 0, none⟩) zs.length zs.length, .slice a3 ds.length ds.length, .bool cd, .int .i64 ce, .bool co] 56)).cell? ⟨w.heap.size, i * 2 + 1, none⟩ = some (.int .i64 (nthI zs i)) := fun i hi => by
      have hlt : w.heap.size < wr.heap.size := by omega
      rw [hBA.cell (by exact hlt), hBA.cell (by exact hlt)]
      exact hcs i hi
    obtain ⟨q0, q1, q2, q3, q4, q5⟩ := six_cells wr (.int .i64 ag) (.slice (some ⟨w.heap.size, 0, none⟩) zs.length zs.length) (.slice a3 ds.length ds.length) (.bool cd) (.int .i64 ce) (.bool co)
    have fz := six_frozen wr #[.int .i64 ag, .slice (some ⟨w.heap.size, 0, none⟩) zs.length zs.length, .slice a3 ds.length ds.length, .bool cd, .int .i64 ce, .bool co]
    rw [hsize] at q0 q1 q2 q3 q4 q5 fz
    have hBB := hB.trans (hBA.mono hB.size)
    have hszA : (wr.alloc (.cells #[.int .i64 ag, .slice (some ⟨w.heap.size, 0, none⟩) zs.length zs.length, .slice a3 ds.length ds.length, .bool cd, .int .i64 ce, .bool co] 56)).heap.size = w.heap.size + 1 + 1 := by simp [hsize]
    have HSA : Hid ((wr.alloc (.cells #[.int .i64 ag, .slice (some ⟨w.heap.size, 0, none⟩) zs.length zs.length, .slice a3 ds.length ds.length, .bool cd, .int .i64 ce, .bool co] 56)).heap.size = w.heap.size + 1 + 1) := hszA
    clear i3 hcs hBA HL hown hszA
    go_wp2_with fail
    refine (forget_any (w.heap.size + 1) w.heap.size zs ds a3 ag ce o cd co _ q1 q2 q3 q4 q5 (fz 1) (fz 2) (fz 3) (fun i hi => (hcs' i hi).2) i4 hn hm (by omega) (fun p hp => by have := hlt3 p hp; omega)).mono ?_
    rintro e v1 ⟨rfl, hF⟩
    obtain ⟨x, a3', hx, ha, r0, r1, r2, r3, r4, r5, hgr⟩ := forgot_facts hF q0 q1 q2 q3 q4 q5
    have hpat : ∀ i, i < zs.length - firstGe zs o → v1.cell? ⟨w.heap.size, x + i * 2, none⟩ = some (.int .i64 (nthI (ps.drop (firstGe zs o)) i)) ∧ v1.cell? ⟨w.heap.size, x + i * 2 + 1, none⟩ = some (.int .i64 (nthI (zs.drop (firstGe zs o)) i)) := fun i hi => by
      have hx' := hx (by omega)
      obtain ⟨c1, c2⟩ := hcs' (firstGe zs o + i) (by omega)
      have e1 : (firstGe zs o + i) * 2 = x + i * 2 := by omega
      rw [e1] at c1 c2
      exact ⟨by rw [hgr.cell c1 (by simp)]; simp [nthI], by rw [hgr.cell c2 (by simp)]; simp [nthI]⟩
    have hden : IntsAt v1 a3' (ds.drop (firstGe ds o)) := fun i hi => by
      simp only [List.length_drop] at hi
      obtain ⟨p, hp, hp'⟩ := ha (by omega)
      refine ⟨_, hp', ?_⟩
      obtain ⟨p2, hp2, c⟩ := i4 (firstGe ds o + i) (by omega)
      rw [hp] at hp2
      cases hp2
      have hb : p.block < w.heap.size := hlt3 p hp
      have e2 : (p.add (firstGe ds o)).add i = p.add (firstGe ds o + i) := add_add p _ _
      rw [e2, hgr.cell c (by simp [add_block]; omega)]
      simp [nthI]
    have hBV : Below w.heap.size w v1 := hBB.grown hgr (by have := HSA.out; omega) (fun j hj => by cases hj; omega)
    have hsv : w.heap.size + 1 + 1 ≤ v1.heap.size := by have := HSA.out; have := hgr.size; omega
    have hfz := firstGe_le zs o
    have hfd := firstGe_le ds o
    have HLen : Hid ((ps.drop (firstGe zs o)).length = zs.length - firstGe zs o ∧ (zs.drop (firstGe zs o)).length = zs.length - firstGe zs o ∧ (ds.drop (firstGe ds o)).length = ds.length - firstGe ds o) := ⟨by have := HP.out; simp; omega, by simp, by simp⟩
    have hm1 : zs.length - firstGe zs o ≤ 32768 := by omega
    have hm2 : ds.length - firstGe ds o ≤ 32768 := by omega
    clear q0 q1 q2 q3 q4 q5 fz hF hgr hcs' i4 hx ha hBB HSA hB hsize
    generalize hEP : ps.drop (firstGe zs o) = Ps at *
    have EP : Hid (ps.drop (firstGe zs o) = Ps) := hEP
    clear hEP
    generalize hEZ : zs.drop (firstGe zs o) = Zs at *
    have EZ : Hid (zs.drop (firstGe zs o) = Zs) := hEZ
    clear hEZ
    generalize hED : ds.drop (firstGe ds o) = Ds at *
    have ED : Hid (ds.drop (firstGe ds o) = Ds) := hED
    clear hED
    generalize hEM : zs.length - firstGe zs o = m1 at *
    have EM : Hid (zs.length - firstGe zs o = m1) := hEM
    clear hEM
    generalize hEN : ds.length - firstGe ds o = m2 at *
    have EN : Hid (ds.length - firstGe ds o = m2) := hEN
    clear hEN
    generalize hEC : (cd && (co || decide (o ≤ ce))) = cd' at *
    have EC : Hid ((cd && (co || decide (o ≤ ce))) = cd') := hEC
    clear hEC
    have mkp := mk28 m1 hm1
    have mka := mk40 m1 hm1
    have mkd := mk40 m2 hm2
    have BA1 : Below v1.heap.size v1 (v1.alloc (.cells (zeros m1) 3)) := (Below.refl _ _).alloc (Nat.le_refl _) _
    have BA2 : Below v1.heap.size v1 ((v1.alloc (.cells (zeros m1) 3)).alloc (.cells (zeros m1) 2)) := BA1.alloc (by simp) _
    have r1a := (BA1.cell (by have := cell_lt r1; exact this)).trans r1
    have r1b := (BA2.cell (by have := cell_lt r1; exact this)).trans r1
    have HB2 : Hid (Below v1.heap.size v1 ((v1.alloc (.cells (zeros m1) 3)).alloc (.cells (zeros m1) 2))) := BA2
    clear BA1 BA2 hfz hfd
    go_wp2
    go_loopw [80] (fun i wr => ∃ (k : Nat) (xs ys : List Value), k ≤ m1 ∧ i = .int .i64 k ∧ wr.ownsRow v1.heap.size 3 1 (.slice (some ⟨v1.heap.size, 0, none⟩) m1 m1) m1 xs ∧ wr.ownsRow v1.heap.size 2 1 (.slice (some ⟨v1.heap.size + 1, 0, none⟩) m1 m1) m1 ys ∧ Hid (Copied Ps k xs) ∧ Hid (Copied Zs k ys) ∧ Below v1.heap.size v1 wr ∧ wr.heap.size = v1.heap.size + 1 + 1) (fun i _ => m1 - (intOf i).toNat)
    case atStart =>
      refine ⟨0, (zeros m1).toList, (zeros m1).toList, Nat.zero_le _, rfl, ?_, ?_, fun i hi => by omega, fun i hi => by omega, HB2.out, by simp⟩
      · exact (World.ownsRow_lit v1 (zeros m1) m1 (Nat.le_refl _) (by unfold maxLen; omega) (by simp [size_zeros])).alloc _
      · have := World.ownsRow_lit (base := v1.heap.size) (e := 2) (size := 1) (v1.alloc (.cells (zeros m1) 3)) (zeros m1) m1 (by simp) (by unfold maxLen; omega) (by simp [size_zeros])
        simpa using this
    obtain ⟨k, xs, ys, hk, rfl, own1, own2, HX, HY, hB3, hsz3⟩ := hrel
    have t1 := (hB3.cell (by have := cell_lt r1; exact this)).trans r1
    by_cases hlt : k < m1
    · obtain ⟨c1, c2⟩ := hpat k hlt
      have d1 := (hB3.cell (by have := cell_lt c1; exact this)).trans c1
      have d2 := (hB3.cell (by have := cell_lt c2; exact this)).trans c2
      have z1 := own1.frozenAt k
      have z2 := own2.frozenAt k
      have y1 := own1.cellAt k (by omega)
      have y2 := own2.cellAt k (by omega)
      have lx := own1.1
      have ly := own2.1
      rw [List.getElem?_eq_getElem (by omega)] at y1 y2
      have HN : Hid (wr.ownsRow v1.heap.size 3 1 (.slice (some ⟨v1.heap.size, 0, none⟩) m1 m1) m1 xs ∧ wr.ownsRow v1.heap.size 2 1 (.slice (some ⟨v1.heap.size + 1, 0, none⟩) m1 m1) m1 ys) := ⟨own1, own2⟩
      have hne : v1.heap.size ≠ w.heap.size := by omega
      have hne2 : v1.heap.size + 1 ≠ w.heap.size := by omega
      have hne3 : v1.heap.size ≠ w.heap.size + 1 := by omega
      have hne4 : v1.heap.size + 1 ≠ w.heap.size + 1 := by omega
      clear hpat hden mkp mka mkd r1 r2 r3 r4 r5 r0 r1a r1b HB2 own1 own2 c1 c2
      go_wp2
      obtain ⟨own1, own2⟩ := HN.out
      obtain ⟨b1, g1⟩ := own1.stored k (.int .i64 (nthI Ps k))
      have k1 := own2.kept g1 (.inr (by show some (v1.heap.size + 1) ≠ some v1.heap.size; simp))
      obtain ⟨b2, g2⟩ := k1.stored k (.int .i64 (nthI Zs k))
      have k2 := b1.kept g2 (.inr (by show some v1.heap.size ≠ some (v1.heap.size + 1); simp))
      exact ⟨⟨k + 1, _, _, by omega, by go_num, k2, b2, copied_step HX.out (by omega), copied_step HY.out (by omega), (hB3.setCell (by exact Nat.le_refl _) _).setCell (by exact Nat.le_succ _) _, by simp [hsz3]⟩, by simp [intOf]; omega⟩
    · obtain rfl : k = m1 := by omega
      obtain ⟨wq, rfl⟩ : ∃ x, x = wr := ⟨_, rfl⟩
      have t2 := (hB3.cell (by have := cell_lt r2; exact this)).trans r2
      have hne : v1.heap.size + 1 + 1 ≠ w.heap.size + 1 := by omega
      have BA3 : Below v1.heap.size v1 (wq.alloc (.cells (zeros m2) 2)) := hB3.alloc hB3.size _
      have t2a := (BA3.cell (by have := cell_lt r2; exact this)).trans r2
      have HO : Hid (wq.ownsRow v1.heap.size 3 1 (.slice (some ⟨v1.heap.size, 0, none⟩) k k) k xs ∧ wq.ownsRow v1.heap.size 2 1 (.slice (some ⟨v1.heap.size + 1, 0, none⟩) k k) k ys) := ⟨own1, own2⟩
      have HB3 : Hid (Below v1.heap.size v1 (wq.alloc (.cells (zeros m2) 2))) := BA3
      have HZ3 : Hid (wq.heap.size = v1.heap.size + 1 + 1) := hsz3
      clear own1 own2 hB3 BA3 mkp mka r1a r1b HB2 hpat
      go_wp2
      go_loopw [117] (fun i w3 => ∃ (r : Nat) (ts : List Value), r ≤ m2 ∧ i = .int .i64 r ∧ w3.ownsRow v1.heap.size 2 1 (.slice (some ⟨v1.heap.size + 1 + 1, 0, none⟩) m2 m2) m2 ts ∧ Hid (w3.ownsRow v1.heap.size 3 1 (.slice (some ⟨v1.heap.size, 0, none⟩) k k) k xs ∧ w3.ownsRow v1.heap.size 2 1 (.slice (some ⟨v1.heap.size + 1, 0, none⟩) k k) k ys) ∧ Hid (Copied Ds r ts) ∧ Below v1.heap.size v1 w3) (fun i _ => m2 - (intOf i).toNat)
      case atStart =>
        refine ⟨0, (zeros m2).toList, Nat.zero_le _, rfl, ?_, ⟨HO.out.1.alloc _, HO.out.2.alloc _⟩, fun i hi => by omega, HB3.out⟩
        have := World.ownsRow_lit (base := v1.heap.size) (e := 2) (size := 1) wq (zeros m2) m2 (by have := HZ3.out; omega) (by unfold maxLen; omega) (by simp [size_zeros])
        rw [HZ3.out] at this
        exact this
      obtain ⟨r, ts, hr, rfl, own3, HO3, HT, hB4⟩ := hrel
      have t2 := (hB4.cell (by have := cell_lt r2; exact this)).trans r2
      by_cases hlr : r < m2
      · obtain ⟨p, rfl, c⟩ := hden r (by rw [HLen.out.2.2]; exact hlr)
        have d := (hB4.cell (by have := cell_lt c; exact this)).trans c
        have z := own3.frozenAt r
        have y := own3.cellAt r (by omega)
        have lt := own3.1
        rw [List.getElem?_eq_getElem (by omega)] at y
        have HN3 : Hid (wr.ownsRow v1.heap.size 2 1 (.slice (some ⟨v1.heap.size + 1 + 1, 0, none⟩) m2 m2) m2 ts) := own3
        clear hden c own3 mkd r1 r2 r3 r4 r5 r0 t2a t1 HO
        go_wp2
        obtain ⟨b3, g3⟩ := HN3.out.stored r (.int .i64 (nthI Ds r))
        exact ⟨⟨r + 1, _, by omega, by go_num, b3, ⟨HO3.out.1.kept g3 (.inr (by show some v1.heap.size ≠ some (v1.heap.size + 1 + 1); simp; omega)), HO3.out.2.kept g3 (.inr (by show some (v1.heap.size + 1) ≠ some (v1.heap.size + 1 + 1); simp))⟩, copied_step HT.out (by omega), hB4.setCell (by show v1.heap.size ≤ v1.heap.size + 1 + 1; omega) _⟩, by simp [intOf]; omega⟩
      · obtain rfl : r = m2 := by omega
        have s0 := (hB4.cell (by have := cell_lt r0; exact this)).trans r0
        have s3 := (hB4.cell (by have := cell_lt r3; exact this)).trans r3
        have s4 := (hB4.cell (by have := cell_lt r4; exact this)).trans r4
        have s5 := (hB4.cell (by have := cell_lt r5; exact this)).trans r5
        have HFin : Hid (∀ q, IntsAt (wr.drewN q) (some ⟨v1.heap.size, 0, none⟩) Ps ∧ IntsAt (wr.drewN q) (some ⟨v1.heap.size + 1, 0, none⟩) Zs ∧ IntsAt (wr.drewN q) (some ⟨v1.heap.size + 1 + 1, 0, none⟩) Ds ∧ Below w.heap.size w (wr.drewN q)) := fun q =>
          ⟨row_ints HO3.out.1 HLen.out.1 HX.out, row_ints HO3.out.2 HLen.out.2.1 HY.out, row_ints own3 HLen.out.2.2 HT.out, bel_drewN (hBV.trans (hB4.mono hBV.size)) q⟩
        clear hden own3 mkd r1 r2 r3 r4 r5 r0 t2a t1 t2 HO HO3 hB4 hBV
        go_wp2
        go_quiet (fail)
        go_wp2
        obtain ⟨f1, f2, f3, f4⟩ := HFin.out nq
        refine bodyPost_ret (v := .tuple #[.int .i64 ag, .slice (some ⟨v1.heap.size, 0, none⟩) k k, .slice (some ⟨v1.heap.size + 1, 0, none⟩) k k, .slice (some ⟨v1.heap.size + 1 + 1, 0, none⟩) r r, .bool cd', .int .i64 ce, .bool co]) (by simp [results, Trym.results21, go_sem]) rfl ?_
        rw [EP.out, EZ.out, ED.out, EM.out, EN.out, EC.out]
        exact ⟨⟨_, _, _, rfl, f1, f2, f3⟩, f4⟩
end Go.Proofs.Qxb6603976aMods
