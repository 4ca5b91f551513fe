import Derived.Test.Qxb6603976aModsInts
namespace Go.Proofs.Qxb6603976aMods
open Go.ChangeShapes Go.WideShapes Go.ChangeAt Go.RowKit
set_option linter.unusedVariables false

/-- What 'forget' leaves: the two slices cut, the cooldown cleared where it ended before 'oldest' and was seen to end; nothing else. -/
def Forgot (b g z d n1 n2 : Nat) (a3 : Option Addr) (ce o : Int) (cd co : Bool) (w w' : World) : Prop :=
  ∃ x a3', (n1 < z → x = n1 * 2) ∧ (n2 < d → ∃ p, a3 = some p ∧ a3' = some (p.add n2)) ∧
    ((w' = (w.setCell ⟨b, 1, none⟩ (.slice (some ⟨g, x, none⟩) (z - n1) (z - n1))).setCell ⟨b, 2, none⟩ (.slice a3' (d - n2) (d - n2)) ∧ (cd && (co || decide (o ≤ ce))) = cd) ∨
     (w' = ((w.setCell ⟨b, 1, none⟩ (.slice (some ⟨g, x, none⟩) (z - n1) (z - n1))).setCell ⟨b, 2, none⟩ (.slice a3' (d - n2) (d - n2))).setCell ⟨b, 3, none⟩ (.bool false) ∧ (cd && (co || decide (o ≤ ce))) = false))

theorem setCell_ints {w : World} {a : Option Addr} {ds : List Int} (h : IntsAt w a ds) {q : Addr} (hne : ∀ p, a = some p → p.block ≠ q.block) (v : Value) : IntsAt (w.setCell q v) a ds := by
  intro k hk
  obtain ⟨p, hp, hc⟩ := h k hk
  refine ⟨p, hp, ?_⟩
  rw [← hc]
  have hpb : (p.add k).block = p.block := by unfold Addr.add; split <;> rfl
  exact World.cell?_of_block (w := w) (Below.heap_setCell w q v _ (by rw [hpb]; exact hne p hp))

set_option maxRecDepth 100000 in
set_option maxHeartbeats 1000000 in
theorem forget_lt_lt (b g : Nat) (zs : List Int) (ds : List Int) (p : Addr) (ag ce o : Int) (cd co : Bool) (w : World)
    (q1 : w.cell? ⟨b, 1, none⟩ = some (.slice (some ⟨g, 0, none⟩) zs.length zs.length)) (q2 : w.cell? ⟨b, 2, none⟩ = some (.slice (some p) ds.length ds.length)) (q3 : w.cell? ⟨b, 3, none⟩ = some (.bool cd)) (q4 : w.cell? ⟨b, 4, none⟩ = some (.int .i64 ce)) (q5 : w.cell? ⟨b, 5, none⟩ = some (.bool co))
    (f1 : w.frozen? ⟨b, 1, none⟩ = false) (f2 : w.frozen? ⟨b, 2, none⟩ = false) (f3 : w.frozen? ⟨b, 3, none⟩ = false)
    (hz : ∀ i, i < zs.length → w.cell? ⟨g, i * 2 + 1, none⟩ = some (.int .i64 (nthI zs i))) (hn : zs.length ≤ 32768) (hgb : g ≠ b) (N1 : firstGe zs o < zs.length) (hd : IntsAt w (some p) ds) (hm : ds.length ≤ 32768) (hpb : p.block ≠ b) (N2 : firstGe ds o < ds.length) :
    Calls Trym.prog 25 #[.pointer (some ⟨b, 0, none⟩), .int .i64 o] w fun e w' => e = .returned (.tuple #[]) ∧ Forgot b g zs.length ds.length (firstGe zs o) (firstGe ds o) (some p) ce o cd co w w' := by
  have hfl := firstGe_le zs o
  have hfa := firstGe_at zs o N1
  have hgl := firstGe_le ds o
  have hga := firstGe_at ds o N2
  have HL1 : Hid (∀ i, i < firstGe zs o → nthI zs i < o) := firstGe_lt zs o
  have HL2 : Hid (∀ i, i < firstGe ds o → nthI ds i < o) := firstGe_lt ds o
  generalize firstGe zs o = n1 at *
  generalize firstGe ds o = n2 at *
  go_enter Trym.func25, Trym.ntmps25
  go_wp2
  go_loop [4] (fun n => ∃ m : Nat, m ≤ n1 ∧ n = .int .i64 m) (fun n => zs.length - (intOf n).toNat)
  case atStart => exact ⟨0, Nat.zero_le _, rfl⟩
  obtain ⟨m, hmf, rfl⟩ := hrel
  by_cases hlt : m < n1
  · have hless : nthI zs m < o := HL1.out m hlt
    have hc := hz m (by omega)
    clear hz hd
    go_wp2
    exact ⟨⟨m + 1, by omega, by go_num⟩, by simp [intOf]; omega⟩
  · obtain rfl : m = n1 := by omega
    have hc := hz m N1
    clear hz
    go_wp2
    go_loop [4] (fun n => ∃ r : Nat, r ≤ n2 ∧ n = .int .i64 r) (fun n => ds.length - (intOf n).toNat)
    case atStart => exact ⟨0, Nat.zero_le _, rfl⟩
    obtain ⟨r, hrf, rfl⟩ := hrel
    have hd' := setCell_ints (q := ⟨b, 1, none⟩) hd (fun q hq => by cases hq; exact hpb) (.slice (some ⟨g, m * 2, none⟩) (zs.length - m) (zs.length - m))
    by_cases hlr : r < n2
    · have hless2 : nthI ds r < o := HL2.out r hlr
      obtain ⟨p', hp', hc2⟩ := hd' r (by omega)
      cases hp'
      clear hd hd'
      go_wp2
      exact ⟨⟨r + 1, by omega, by go_num⟩, by simp [intOf]; omega⟩
    · obtain rfl : r = n2 := by omega
      obtain ⟨p', hp', hc2⟩ := hd' r N2
      cases hp'
      clear hd hd'
      have hcase : cd = false ∨ (cd = true ∧ co = true) ∨ (cd = true ∧ co = false ∧ ce < o) ∨ (cd = true ∧ co = false ∧ o ≤ ce) := by
        cases cd <;> cases co <;> simp <;> omega
      rcases hcase with rfl | ⟨rfl, rfl⟩ | ⟨rfl, rfl, hlo⟩ | ⟨rfl, rfl, hlo⟩
      · go_wp2
        go_end0
        exact ⟨rfl, m * 2, some (p.add r), fun _ => rfl, fun _ => ⟨p, rfl, rfl⟩, .inl ⟨rfl, by simp⟩⟩
      · go_wp2
        go_end0
        exact ⟨rfl, m * 2, some (p.add r), fun _ => rfl, fun _ => ⟨p, rfl, rfl⟩, .inl ⟨rfl, by simp⟩⟩
      · go_wp2
        go_end0
        exact ⟨rfl, m * 2, some (p.add r), fun _ => rfl, fun _ => ⟨p, rfl, rfl⟩, .inr ⟨rfl, by simp; omega⟩⟩
      · go_wp2
        go_end0
        exact ⟨rfl, m * 2, some (p.add r), fun _ => rfl, fun _ => ⟨p, rfl, rfl⟩, .inl ⟨rfl, by simp; omega⟩⟩
set_option maxRecDepth 100000 in
set_option maxHeartbeats 1000000 in
theorem forget_lt_eq (b g : Nat) (zs : List Int) (ds : List Int) (p : Addr) (ag ce o : Int) (cd co : Bool) (w : World)
    (q1 : w.cell? ⟨b, 1, none⟩ = some (.slice (some ⟨g, 0, none⟩) zs.length zs.length)) (q2 : w.cell? ⟨b, 2, none⟩ = some (.slice (some p) ds.length ds.length)) (q3 : w.cell? ⟨b, 3, none⟩ = some (.bool cd)) (q4 : w.cell? ⟨b, 4, none⟩ = some (.int .i64 ce)) (q5 : w.cell? ⟨b, 5, none⟩ = some (.bool co))
    (f1 : w.frozen? ⟨b, 1, none⟩ = false) (f2 : w.frozen? ⟨b, 2, none⟩ = false) (f3 : w.frozen? ⟨b, 3, none⟩ = false)
    (hz : ∀ i, i < zs.length → w.cell? ⟨g, i * 2 + 1, none⟩ = some (.int .i64 (nthI zs i))) (hn : zs.length ≤ 32768) (hgb : g ≠ b) (N1 : firstGe zs o < zs.length) (hd : IntsAt w (some p) ds) (hm : ds.length ≤ 32768) (hpb : p.block ≠ b) (N2 : firstGe ds o = ds.length) :
    Calls Trym.prog 25 #[.pointer (some ⟨b, 0, none⟩), .int .i64 o] w fun e w' => e = .returned (.tuple #[]) ∧ Forgot b g zs.length ds.length (firstGe zs o) (firstGe ds o) (some p) ce o cd co w w' := by
  have hfl := firstGe_le zs o
  have hfa := firstGe_at zs o N1
  have hgl := firstGe_le ds o
  have HL1 : Hid (∀ i, i < firstGe zs o → nthI zs i < o) := firstGe_lt zs o
  have HL2 : Hid (∀ i, i < firstGe ds o → nthI ds i < o) := firstGe_lt ds o
  generalize firstGe zs o = n1 at *
  generalize firstGe ds o = n2 at *
  subst N2
  go_enter Trym.func25, Trym.ntmps25
  go_wp2
  go_loop [4] (fun n => ∃ m : Nat, m ≤ n1 ∧ n = .int .i64 m) (fun n => zs.length - (intOf n).toNat)
  case atStart => exact ⟨0, Nat.zero_le _, rfl⟩
  obtain ⟨m, hmf, rfl⟩ := hrel
  by_cases hlt : m < n1
  · have hless : nthI zs m < o := HL1.out m hlt
    have hc := hz m (by omega)
    clear hz hd
    go_wp2
    exact ⟨⟨m + 1, by omega, by go_num⟩, by simp [intOf]; omega⟩
  · obtain rfl : m = n1 := by omega
    have hc := hz m N1
    clear hz
    go_wp2
    go_loop [4] (fun n => ∃ r : Nat, r ≤ ds.length ∧ n = .int .i64 r) (fun n => ds.length - (intOf n).toNat)
    case atStart => exact ⟨0, Nat.zero_le _, rfl⟩
    obtain ⟨r, hrf, rfl⟩ := hrel
    have hd' := setCell_ints (q := ⟨b, 1, none⟩) hd (fun q hq => by cases hq; exact hpb) (.slice (some ⟨g, m * 2, none⟩) (zs.length - m) (zs.length - m))
    by_cases hlr : r < ds.length
    · have hless2 : nthI ds r < o := HL2.out r hlr
      obtain ⟨p', hp', hc2⟩ := hd' r (by omega)
      cases hp'
      clear hd hd'
      go_wp2
      exact ⟨⟨r + 1, by omega, by go_num⟩, by simp [intOf]; omega⟩
    · obtain rfl : r = ds.length := by omega
      clear hd hd'
      have hcase : cd = false ∨ (cd = true ∧ co = true) ∨ (cd = true ∧ co = false ∧ ce < o) ∨ (cd = true ∧ co = false ∧ o ≤ ce) := by
        cases cd <;> cases co <;> simp <;> omega
      rcases hcase with rfl | ⟨rfl, rfl⟩ | ⟨rfl, rfl, hlo⟩ | ⟨rfl, rfl, hlo⟩
      · go_wp2
        go_end0
        exact ⟨rfl, m * 2, some p, fun _ => rfl, fun h => absurd h (Nat.lt_irrefl _), .inl ⟨by simp only [Nat.sub_self], by simp⟩⟩
      · go_wp2
        go_end0
        exact ⟨rfl, m * 2, some p, fun _ => rfl, fun h => absurd h (Nat.lt_irrefl _), .inl ⟨by simp only [Nat.sub_self], by simp⟩⟩
      · go_wp2
        go_end0
        exact ⟨rfl, m * 2, some p, fun _ => rfl, fun h => absurd h (Nat.lt_irrefl _), .inr ⟨by simp only [Nat.sub_self], by simp; omega⟩⟩
      · go_wp2
        go_end0
        exact ⟨rfl, m * 2, some p, fun _ => rfl, fun h => absurd h (Nat.lt_irrefl _), .inl ⟨by simp only [Nat.sub_self], by simp; omega⟩⟩
set_option maxRecDepth 100000 in
set_option maxHeartbeats 1000000 in
theorem forget_lt_nil (b g : Nat) (zs : List Int) (ag ce o : Int) (cd co : Bool) (w : World)
    (q1 : w.cell? ⟨b, 1, none⟩ = some (.slice (some ⟨g, 0, none⟩) zs.length zs.length)) (q2 : w.cell? ⟨b, 2, none⟩ = some (.slice none 0 0)) (q3 : w.cell? ⟨b, 3, none⟩ = some (.bool cd)) (q4 : w.cell? ⟨b, 4, none⟩ = some (.int .i64 ce)) (q5 : w.cell? ⟨b, 5, none⟩ = some (.bool co))
    (f1 : w.frozen? ⟨b, 1, none⟩ = false) (f2 : w.frozen? ⟨b, 2, none⟩ = false) (f3 : w.frozen? ⟨b, 3, none⟩ = false)
    (hz : ∀ i, i < zs.length → w.cell? ⟨g, i * 2 + 1, none⟩ = some (.int .i64 (nthI zs i))) (hn : zs.length ≤ 32768) (hgb : g ≠ b) (N1 : firstGe zs o < zs.length) :
    Calls Trym.prog 25 #[.pointer (some ⟨b, 0, none⟩), .int .i64 o] w fun e w' => e = .returned (.tuple #[]) ∧ Forgot b g zs.length 0 (firstGe zs o) (firstGe [] o) none ce o cd co w w' := by
  have hfl := firstGe_le zs o
  have hfa := firstGe_at zs o N1
  have HL1 : Hid (∀ i, i < firstGe zs o → nthI zs i < o) := firstGe_lt zs o
  have e0 : firstGe [] o = 0 := rfl
  rw [e0]
  clear e0
  generalize firstGe zs o = n1 at *
  go_enter Trym.func25, Trym.ntmps25
  go_wp2
  go_loop [4] (fun n => ∃ m : Nat, m ≤ n1 ∧ n = .int .i64 m) (fun n => zs.length - (intOf n).toNat)
  case atStart => exact ⟨0, Nat.zero_le _, rfl⟩
  obtain ⟨m, hmf, rfl⟩ := hrel
  by_cases hlt : m < n1
  · have hless : nthI zs m < o := HL1.out m hlt
    have hc := hz m (by omega)
    clear hz
    go_wp2
    exact ⟨⟨m + 1, by omega, by go_num⟩, by simp [intOf]; omega⟩
  · obtain rfl : m = n1 := by omega
    have hc := hz m N1
    clear hz
    go_wp2
    refine wp_loop_rounds 1 ?_
    rw [rounds_succ]
    have hcase : cd = false ∨ (cd = true ∧ co = true) ∨ (cd = true ∧ co = false ∧ ce < o) ∨ (cd = true ∧ co = false ∧ o ≤ ce) := by
      cases cd <;> cases co <;> simp <;> omega
    rcases hcase with rfl | ⟨rfl, rfl⟩ | ⟨rfl, rfl, hlo⟩ | ⟨rfl, rfl, hlo⟩
    · go_wp2
      go_end0
      exact ⟨rfl, m * 2, none, fun _ => rfl, fun h => absurd h (Nat.lt_irrefl _), .inl ⟨by simp only [Nat.sub_self], by simp⟩⟩
    · go_wp2
      go_end0
      exact ⟨rfl, m * 2, none, fun _ => rfl, fun h => absurd h (Nat.lt_irrefl _), .inl ⟨by simp only [Nat.sub_self], by simp⟩⟩
    · go_wp2
      go_end0
      exact ⟨rfl, m * 2, none, fun _ => rfl, fun h => absurd h (Nat.lt_irrefl _), .inr ⟨by simp only [Nat.sub_self], by simp; omega⟩⟩
    · go_wp2
      go_end0
      exact ⟨rfl, m * 2, none, fun _ => rfl, fun h => absurd h (Nat.lt_irrefl _), .inl ⟨by simp only [Nat.sub_self], by simp; omega⟩⟩
set_option maxRecDepth 100000 in
set_option maxHeartbeats 1000000 in
theorem forget_eq_lt (b g : Nat) (zs : List Int) (ds : List Int) (p : Addr) (ag ce o : Int) (cd co : Bool) (w : World)
    (q1 : w.cell? ⟨b, 1, none⟩ = some (.slice (some ⟨g, 0, none⟩) zs.length zs.length)) (q2 : w.cell? ⟨b, 2, none⟩ = some (.slice (some p) ds.length ds.length)) (q3 : w.cell? ⟨b, 3, none⟩ = some (.bool cd)) (q4 : w.cell? ⟨b, 4, none⟩ = some (.int .i64 ce)) (q5 : w.cell? ⟨b, 5, none⟩ = some (.bool co))
    (f1 : w.frozen? ⟨b, 1, none⟩ = false) (f2 : w.frozen? ⟨b, 2, none⟩ = false) (f3 : w.frozen? ⟨b, 3, none⟩ = false)
    (hz : ∀ i, i < zs.length → w.cell? ⟨g, i * 2 + 1, none⟩ = some (.int .i64 (nthI zs i))) (hn : zs.length ≤ 32768) (hgb : g ≠ b) (N1 : firstGe zs o = zs.length) (hd : IntsAt w (some p) ds) (hm : ds.length ≤ 32768) (hpb : p.block ≠ b) (N2 : firstGe ds o < ds.length) :
    Calls Trym.prog 25 #[.pointer (some ⟨b, 0, none⟩), .int .i64 o] w fun e w' => e = .returned (.tuple #[]) ∧ Forgot b g zs.length ds.length (firstGe zs o) (firstGe ds o) (some p) ce o cd co w w' := by
  have hfl := firstGe_le zs o
  have hgl := firstGe_le ds o
  have hga := firstGe_at ds o N2
  have HL1 : Hid (∀ i, i < firstGe zs o → nthI zs i < o) := firstGe_lt zs o
  have HL2 : Hid (∀ i, i < firstGe ds o → nthI ds i < o) := firstGe_lt ds o
  generalize firstGe zs o = n1 at *
  subst N1
  generalize firstGe ds o = n2 at *
  go_enter Trym.func25, Trym.ntmps25
  go_wp2
  go_loop [4] (fun n => ∃ m : Nat, m ≤ zs.length ∧ n = .int .i64 m) (fun n => zs.length - (intOf n).toNat)
  case atStart => exact ⟨0, Nat.zero_le _, rfl⟩
  obtain ⟨m, hmf, rfl⟩ := hrel
  by_cases hlt : m < zs.length
  · have hless : nthI zs m < o := HL1.out m hlt
    have hc := hz m (by omega)
    clear hz hd
    go_wp2
    exact ⟨⟨m + 1, by omega, by go_num⟩, by simp [intOf]; omega⟩
  · obtain rfl : m = zs.length := by omega
    clear hz
    go_wp2
    go_loop [4] (fun n => ∃ r : Nat, r ≤ n2 ∧ n = .int .i64 r) (fun n => ds.length - (intOf n).toNat)
    case atStart => exact ⟨0, Nat.zero_le _, rfl⟩
    obtain ⟨r, hrf, rfl⟩ := hrel
    have hd' := setCell_ints (q := ⟨b, 1, none⟩) hd (fun q hq => by cases hq; exact hpb) (.slice (some ⟨g, 0, none⟩) 0 0)
    by_cases hlr : r < n2
    · have hless2 : nthI ds r < o := HL2.out r hlr
      obtain ⟨p', hp', hc2⟩ := hd' r (by omega)
      cases hp'
      clear hd hd'
      go_wp2
      exact ⟨⟨r + 1, by omega, by go_num⟩, by simp [intOf]; omega⟩
    · obtain rfl : r = n2 := by omega
      obtain ⟨p', hp', hc2⟩ := hd' r N2
      cases hp'
      clear hd hd'
      have hcase : cd = false ∨ (cd = true ∧ co = true) ∨ (cd = true ∧ co = false ∧ ce < o) ∨ (cd = true ∧ co = false ∧ o ≤ ce) := by
        cases cd <;> cases co <;> simp <;> omega
      rcases hcase with rfl | ⟨rfl, rfl⟩ | ⟨rfl, rfl, hlo⟩ | ⟨rfl, rfl, hlo⟩
      · go_wp2
        go_end0
        exact ⟨rfl, 0, some (p.add r), fun h => absurd h (Nat.lt_irrefl _), fun _ => ⟨p, rfl, rfl⟩, .inl ⟨by simp only [Nat.sub_self], by simp⟩⟩
      · go_wp2
        go_end0
        exact ⟨rfl, 0, some (p.add r), fun h => absurd h (Nat.lt_irrefl _), fun _ => ⟨p, rfl, rfl⟩, .inl ⟨by simp only [Nat.sub_self], by simp⟩⟩
      · go_wp2
        go_end0
        exact ⟨rfl, 0, some (p.add r), fun h => absurd h (Nat.lt_irrefl _), fun _ => ⟨p, rfl, rfl⟩, .inr ⟨by simp only [Nat.sub_self], by simp; omega⟩⟩
      · go_wp2
        go_end0
        exact ⟨rfl, 0, some (p.add r), fun h => absurd h (Nat.lt_irrefl _), fun _ => ⟨p, rfl, rfl⟩, .inl ⟨by simp only [Nat.sub_self], by simp; omega⟩⟩
set_option maxRecDepth 100000 in
set_option maxHeartbeats 1000000 in
theorem forget_eq_eq (b g : Nat) (zs : List Int) (ds : List Int) (p : Addr) (ag ce o : Int) (cd co : Bool) (w : World)
    (q1 : w.cell? ⟨b, 1, none⟩ = some (.slice (some ⟨g, 0, none⟩) zs.length zs.length)) (q2 : w.cell? ⟨b, 2, none⟩ = some (.slice (some p) ds.length ds.length)) (q3 : w.cell? ⟨b, 3, none⟩ = some (.bool cd)) (q4 : w.cell? ⟨b, 4, none⟩ = some (.int .i64 ce)) (q5 : w.cell? ⟨b, 5, none⟩ = some (.bool co))
    (f1 : w.frozen? ⟨b, 1, none⟩ = false) (f2 : w.frozen? ⟨b, 2, none⟩ = false) (f3 : w.frozen? ⟨b, 3, none⟩ = false)
    (hz : ∀ i, i < zs.length → w.cell? ⟨g, i * 2 + 1, none⟩ = some (.int .i64 (nthI zs i))) (hn : zs.length ≤ 32768) (hgb : g ≠ b) (N1 : firstGe zs o = zs.length) (hd : IntsAt w (some p) ds) (hm : ds.length ≤ 32768) (hpb : p.block ≠ b) (N2 : firstGe ds o = ds.length) :
    Calls Trym.prog 25 #[.pointer (some ⟨b, 0, none⟩), .int .i64 o] w fun e w' => e = .returned (.tuple #[]) ∧ Forgot b g zs.length ds.length (firstGe zs o) (firstGe ds o) (some p) ce o cd co w w' := by
  have hfl := firstGe_le zs o
  have hgl := firstGe_le ds o
  have HL1 : Hid (∀ i, i < firstGe zs o → nthI zs i < o) := firstGe_lt zs o
  have HL2 : Hid (∀ i, i < firstGe ds o → nthI ds i < o) := firstGe_lt ds o
  generalize firstGe zs o = n1 at *
  subst N1
  generalize firstGe ds o = n2 at *
  subst N2
  go_enter Trym.func25, Trym.ntmps25
  go_wp2
  go_loop [4] (fun n => ∃ m : Nat, m ≤ zs.length ∧ n = .int .i64 m) (fun n => zs.length - (intOf n).toNat)
  case atStart => exact ⟨0, Nat.zero_le _, rfl⟩
  obtain ⟨m, hmf, rfl⟩ := hrel
  by_cases hlt : m < zs.length
  · have hless : nthI zs m < o := HL1.out m hlt
    have hc := hz m (by omega)
    clear hz hd
    go_wp2
    exact ⟨⟨m + 1, by omega, by go_num⟩, by simp [intOf]; omega⟩
  · obtain rfl : m = zs.length := by omega
    clear hz
    go_wp2
    go_loop [4] (fun n => ∃ r : Nat, r ≤ ds.length ∧ n = .int .i64 r) (fun n => ds.length - (intOf n).toNat)
    case atStart => exact ⟨0, Nat.zero_le _, rfl⟩
    obtain ⟨r, hrf, rfl⟩ := hrel
    have hd' := setCell_ints (q := ⟨b, 1, none⟩) hd (fun q hq => by cases hq; exact hpb) (.slice (some ⟨g, 0, none⟩) 0 0)
    by_cases hlr : r < ds.length
    · have hless2 : nthI ds r < o := HL2.out r hlr
      obtain ⟨p', hp', hc2⟩ := hd' r (by omega)
      cases hp'
      clear hd hd'
      go_wp2
      exact ⟨⟨r + 1, by omega, by go_num⟩, by simp [intOf]; omega⟩
    · obtain rfl : r = ds.length := by omega
      clear hd hd'
      have hcase : cd = false ∨ (cd = true ∧ co = true) ∨ (cd = true ∧ co = false ∧ ce < o) ∨ (cd = true ∧ co = false ∧ o ≤ ce) := by
        cases cd <;> cases co <;> simp <;> omega
      rcases hcase with rfl | ⟨rfl, rfl⟩ | ⟨rfl, rfl, hlo⟩ | ⟨rfl, rfl, hlo⟩
      · go_wp2
        go_end0
        exact ⟨rfl, 0, some p, fun h => absurd h (Nat.lt_irrefl _), fun h => absurd h (Nat.lt_irrefl _), .inl ⟨by simp only [Nat.sub_self], by simp⟩⟩
      · go_wp2
        go_end0
        exact ⟨rfl, 0, some p, fun h => absurd h (Nat.lt_irrefl _), fun h => absurd h (Nat.lt_irrefl _), .inl ⟨by simp only [Nat.sub_self], by simp⟩⟩
      · go_wp2
        go_end0
        exact ⟨rfl, 0, some p, fun h => absurd h (Nat.lt_irrefl _), fun h => absurd h (Nat.lt_irrefl _), .inr ⟨by simp only [Nat.sub_self], by simp; omega⟩⟩
      · go_wp2
        go_end0
        exact ⟨rfl, 0, some p, fun h => absurd h (Nat.lt_irrefl _), fun h => absurd h (Nat.lt_irrefl _), .inl ⟨by simp only [Nat.sub_self], by simp; omega⟩⟩
set_option maxRecDepth 100000 in
set_option maxHeartbeats 1000000 in
theorem forget_eq_nil (b g : Nat) (zs : List Int) (ag ce o : Int) (cd co : Bool) (w : World)
    (q1 : w.cell? ⟨b, 1, none⟩ = some (.slice (some ⟨g, 0, none⟩) zs.length zs.length)) (q2 : w.cell? ⟨b, 2, none⟩ = some (.slice none 0 0)) (q3 : w.cell? ⟨b, 3, none⟩ = some (.bool cd)) (q4 : w.cell? ⟨b, 4, none⟩ = some (.int .i64 ce)) (q5 : w.cell? ⟨b, 5, none⟩ = some (.bool co))
    (f1 : w.frozen? ⟨b, 1, none⟩ = false) (f2 : w.frozen? ⟨b, 2, none⟩ = false) (f3 : w.frozen? ⟨b, 3, none⟩ = false)
    (hz : ∀ i, i < zs.length → w.cell? ⟨g, i * 2 + 1, none⟩ = some (.int .i64 (nthI zs i))) (hn : zs.length ≤ 32768) (hgb : g ≠ b) (N1 : firstGe zs o = zs.length) :
    Calls Trym.prog 25 #[.pointer (some ⟨b, 0, none⟩), .int .i64 o] w fun e w' => e = .returned (.tuple #[]) ∧ Forgot b g zs.length 0 (firstGe zs o) (firstGe [] o) none ce o cd co w w' := by
  have hfl := firstGe_le zs o
  have HL1 : Hid (∀ i, i < firstGe zs o → nthI zs i < o) := firstGe_lt zs o
  have e0 : firstGe [] o = 0 := rfl
  rw [e0]
  clear e0
  generalize firstGe zs o = n1 at *
  subst N1
  go_enter Trym.func25, Trym.ntmps25
  go_wp2
  go_loop [4] (fun n => ∃ m : Nat, m ≤ zs.length ∧ n = .int .i64 m) (fun n => zs.length - (intOf n).toNat)
  case atStart => exact ⟨0, Nat.zero_le _, rfl⟩
  obtain ⟨m, hmf, rfl⟩ := hrel
  by_cases hlt : m < zs.length
  · have hless : nthI zs m < o := HL1.out m hlt
    have hc := hz m (by omega)
    clear hz
    go_wp2
    exact ⟨⟨m + 1, by omega, by go_num⟩, by simp [intOf]; omega⟩
  · obtain rfl : m = zs.length := by omega
    clear hz
    go_wp2
    refine wp_loop_rounds 1 ?_
    rw [rounds_succ]
    have hcase : cd = false ∨ (cd = true ∧ co = true) ∨ (cd = true ∧ co = false ∧ ce < o) ∨ (cd = true ∧ co = false ∧ o ≤ ce) := by
      cases cd <;> cases co <;> simp <;> omega
    rcases hcase with rfl | ⟨rfl, rfl⟩ | ⟨rfl, rfl, hlo⟩ | ⟨rfl, rfl, hlo⟩
    · go_wp2
      go_end0
      exact ⟨rfl, 0, none, fun h => absurd h (Nat.lt_irrefl _), fun h => absurd h (Nat.lt_irrefl _), .inl ⟨by simp only [Nat.sub_self], by simp⟩⟩
    · go_wp2
      go_end0
      exact ⟨rfl, 0, none, fun h => absurd h (Nat.lt_irrefl _), fun h => absurd h (Nat.lt_irrefl _), .inl ⟨by simp only [Nat.sub_self], by simp⟩⟩
    · go_wp2
      go_end0
      exact ⟨rfl, 0, none, fun h => absurd h (Nat.lt_irrefl _), fun h => absurd h (Nat.lt_irrefl _), .inr ⟨by simp only [Nat.sub_self], by simp; omega⟩⟩
    · go_wp2
      go_end0
      exact ⟨rfl, 0, none, fun h => absurd h (Nat.lt_irrefl _), fun h => absurd h (Nat.lt_irrefl _), .inl ⟨by simp only [Nat.sub_self], by simp; omega⟩⟩
theorem forget_any (b g : Nat) (zs ds : List Int) (a3 : Option Addr) (ag ce o : Int) (cd co : Bool) (w : World)
    (q1 : w.cell? ⟨b, 1, none⟩ = some (.slice (some ⟨g, 0, none⟩) zs.length zs.length)) (q2 : w.cell? ⟨b, 2, none⟩ = some (.slice a3 ds.length ds.length)) (q3 : w.cell? ⟨b, 3, none⟩ = some (.bool cd)) (q4 : w.cell? ⟨b, 4, none⟩ = some (.int .i64 ce)) (q5 : w.cell? ⟨b, 5, none⟩ = some (.bool co))
    (f1 : w.frozen? ⟨b, 1, none⟩ = false) (f2 : w.frozen? ⟨b, 2, none⟩ = false) (f3 : w.frozen? ⟨b, 3, none⟩ = false)
    (hz : ∀ i, i < zs.length → w.cell? ⟨g, i * 2 + 1, none⟩ = some (.int .i64 (nthI zs i))) (hd : IntsAt w a3 ds) (hn : zs.length ≤ 32768) (hm : ds.length ≤ 32768) (hgb : g ≠ b) (hpb : ∀ p, a3 = some p → p.block ≠ b) :
    Calls Trym.prog 25 #[.pointer (some ⟨b, 0, none⟩), .int .i64 o] w fun e w' => e = .returned (.tuple #[]) ∧ Forgot b g zs.length ds.length (firstGe zs o) (firstGe ds o) a3 ce o cd co w w' := by
  have h1 : firstGe zs o < zs.length ∨ firstGe zs o = zs.length := by have := firstGe_le zs o; omega
  have h2 : firstGe ds o < ds.length ∨ firstGe ds o = ds.length := by have := firstGe_le ds o; omega
  cases a3 with
  | none =>
    have hds : ds = [] := by
      cases ds with
      | nil => rfl
      | cons d r => obtain ⟨p, hp, _⟩ := hd 0 (by simp); cases hp
    subst hds
    rcases h1 with h1 | h1
    · exact forget_lt_nil b g zs ag ce o cd co w q1 q2 q3 q4 q5 f1 f2 f3 hz hn hgb h1
    · exact forget_eq_nil b g zs ag ce o cd co w q1 q2 q3 q4 q5 f1 f2 f3 hz hn hgb h1
  | some p =>
    rcases h1 with h1 | h1 <;> rcases h2 with h2 | h2
    · exact forget_lt_lt b g zs ds p ag ce o cd co w q1 q2 q3 q4 q5 f1 f2 f3 hz hn hgb h1 hd hm (hpb p rfl) h2
    · exact forget_lt_eq b g zs ds p ag ce o cd co w q1 q2 q3 q4 q5 f1 f2 f3 hz hn hgb h1 hd hm (hpb p rfl) h2
    · exact forget_eq_lt b g zs ds p ag ce o cd co w q1 q2 q3 q4 q5 f1 f2 f3 hz hn hgb h1 hd hm (hpb p rfl) h2
    · exact forget_eq_eq b g zs ds p ag ce o cd co w q1 q2 q3 q4 q5 f1 f2 f3 hz hn hgb h1 hd hm (hpb p rfl) h2
end Go.Proofs.Qxb6603976aMods
