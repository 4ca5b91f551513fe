import Derived.Test.Qxb6603597aModsMaps
namespace Go.Proofs.Qxb6603597aMods
open Go.ChangeShapes Go.WideShapes Go.ChangeAt Go.RowKit
set_option linter.unusedVariables false

theorem KL_inj {a b : ByteArray} (h : KL a = KL b) : a = b := by
  unfold KL at h
  injection h with h
  cases a; cases b
  simp only [ByteArray.mk.injEq]
  exact Array.toList_inj.1 h
theorem VD_inj {a b : ByteArray} (h : VD a = VD b) : a = b := by
  unfold VD at h
  injection h with h
  exact KL_inj h

/-- The two read alike. -/
def SameD (A B : DataW Unit) : Prop := Maps.size A = Maps.size B ∧ ∀ k, Maps.has A k = true → Maps.has B k = true ∧ ∀ z, A.atKey k z = B.atKey k z

theorem atKey_any {D : DataW Unit} {k : Lit} (h : Maps.has D k = true) (z z' : DataW Unit) : D.atKey k z = D.atKey k z' := by
  cases D <;> simp only [Maps.has] at h <;> try cases h
  simp only [DataW.atKey]
  rename_i es
  cases hf : es.find? (fun p => p.1.sameKey k) with
  | some p => rfl
  | none =>
    rw [List.find?_eq_none] at hf
    obtain ⟨p, hp, hk⟩ := List.any_eq_true.1 h
    exact absurd hk (hf p hp)

section
variable (w : World) {ops : Array Oper} {rest : List Oper} {o : Oper} {a : Act} {Q : Exit → Act → World → Prop}

/-- The range's step over a map[string]string. -/
theorem next_ss (hg : o.guard = none) (it : Operand) (hop : o.op = Op.next it false)
    (b r n : Nat) (D : DataW Unit) (left : Lit → Bool) (cnt : Nat) (hit : a.eval it = .pointer (some ⟨r, 0, none⟩)) (h : w.ranges Trym.prog 9 (plainElem Trym.prog 9) b r n D left cnt)
    (hDone : cnt = 0 → (∀ kl, left kl = false) → wpList Trym.prog ops Q rest (a.put o.dst (.tuple #[.bool false])) w)
    (hMore : ∀ (x c : ByteArray) (w' : World) (cnt' : Nat), x.size ≤ 9223372036854775807 → left (KL x) = true → (∀ zd, D.atKey (KL x) zd = VD c) → w'.ranges Trym.prog 9 (plainElem Trym.prog 9) b r n D (fun z => left z && !z.sameKey (KL x)) cnt' → cnt' < cnt →
      w.grownBy w' (some r) → w'.heap.size = w.heap.size → (Instr.entry (.pointer (some ⟨r, 0, none⟩))).run Trym.prog w' = .ok (.tuple #[.string x, .string c]) w' → wpList Trym.prog ops Q rest (a.put o.dst (.tuple #[.bool true, .string x, .string c])) w') :
    wpList Trym.prog ops Q (o :: rest) a w :=
  wpList_next_ranges w hg it hop 9 law9 (plainElem Trym.prog 9) Value.string Value.string
    (fun key kl hkey => by cases key <;> simp [keyOf, Trym.underlying9, mapKey] at hkey; exact ⟨_, rfl⟩)
    (fun v y hv => by obtain ⟨c, rfl, _⟩ := plainElem_string_inv Trym.underlying9 hv; exact ⟨c, rfl⟩)
    b r n D left cnt hit h hDone (fun x c kl y w' cnt' hkey hlk hv hat hrg hlt hgr hsz hen => by
      have hk : x.size ≤ maxLen ∧ kl = KL x := by
        simp [keyOf, Trym.underlying9, mapKey] at hkey
        exact ⟨hkey.1, hkey.2.symm⟩
      obtain ⟨hx, rfl⟩ := hk
      obtain ⟨c', ec, rfl, hwc⟩ := plainElem_string_inv Trym.underlying9 hv
      cases ec
      exact hMore x c w' cnt' (by unfold maxLen at hx; omega) hlk hat hrg hlt hgr hsz hen)

theorem zero9 (w : World) : (zeroValue 9).run Trym.prog w = .ok (.string ⟨#[]⟩) w := by
  obtain ⟨i0, hi, hz0, hz1, hz2⟩ := info_parts Trym.info9
  simp [zeroValue, typeInfo, hi, hz0]

/-- 'v, ok := m[k]'. -/
theorem lookup_ss (hg : o.guard = none) (m x : Operand) (hop : o.op = Op.lookup 26 m x true) (b n : Nat) (D : DataW Unit)
    (hm : a.eval m = .map (some b)) (hown : w.ownsMap Trym.prog 9 (plainElem Trym.prog 9) b n D) (key : Value) (kl : Lit) (hx : a.eval x = key) (hkey : keyOf Trym.prog 9 key = some kl)
    (hK : ∀ s : ByteArray, D.atKey kl (VD ⟨#[]⟩) = VD s → wpList Trym.prog ops Q rest (a.put o.dst (.tuple #[.string s, .bool (Maps.has D kl)])) w) :
    wpList Trym.prog ops Q (o :: rest) a w :=
  wpList_lookup_own_ok w hg m x 26 hop 9 9 law9 Trym.underlying26 (plainElem Trym.prog 9) (zero9 w) (VD ⟨#[]⟩) [] (val9 (by simp [ByteArray.size])) b n D hm hown key kl hx hkey (fun v ps hv => by
    obtain ⟨s, rfl, hc, _⟩ := plainElem_string_inv Trym.underlying9 hv
    exact hK s (congrArg Prod.fst hc))
end

set_option maxRecDepth 100000 in
set_option maxHeartbeats 400000 in
theorem same_nil (vb : Value) (D : DataW Unit) (w : World) (hb : MapAt w vb D) :
    Calls Trym.prog 21 #[.map none, vb] w fun e w' => e = .returned (.bool (decide (Maps.size D = 0))) ∧ Below w.heap.size w w' := by
  have hrg := run_range_nilMap (P := Trym.prog) w 26 9 9 Trym.underlying26
  have hnx : ∀ ty, (Instr.next (.pointer (some ⟨w.heap.size, 0, none⟩)) false ty).run Trym.prog (w.alloc (.mapIter none 0 #[] 0)) = _ := fun ty => run_next_nilMap w ty 0 0 #[]
  have hl0 : ∀ ty, Sem.run Trym.prog (Builtin.len_ #[26] ty #[.map none]) w = .ok (.int .i64 0) w := fun ty => Maps.len_nil Trym.underlying26 ty
  have hlb : ∀ ty, Sem.run Trym.prog (Builtin.len_ #[26] ty #[vb]) w = .ok (.int .i64 (Maps.size D)) w := by
    rcases hb with ⟨rfl, rfl⟩ | ⟨b, rfl, hown⟩
    · exact fun ty => Maps.len_nil Trym.underlying26 ty
    · exact fun ty => hown.len Trym.underlying26 ty
  generalize Maps.size D = n at hlb
  by_cases hn : n = 0
  · subst hn
    go_enter Trym.func21, Trym.ntmps21
    go_wp2
    refine wp_loop_rounds 1 ?_
    rw [rounds_succ]
    go_wp2
    go_ret
    exact ⟨rfl, (Below.refl _ _).alloc (Nat.le_refl _) _⟩
  · have hd : decide (n = 0) = false := by simp [hn]
    have hp : 0 < n := by omega
    clear hn
    go_enter Trym.func21, Trym.ntmps21
    go_wp2
    go_ret
    exact ⟨by rw [hd]; rfl, Below.refl _ _⟩

theorem MapAt.len {w : World} {vb : Value} {D : DataW Unit} (h : MapAt w vb D) (ty : TypeId) : Sem.run Trym.prog (Builtin.len_ #[26] ty #[vb]) w = .ok (.int .i64 (Maps.size D)) w := by
  rcases h with ⟨rfl, rfl⟩ | ⟨b, rfl, hown⟩
  · exact Maps.len_nil Trym.underlying26 ty
  · exact hown.len Trym.underlying26 ty

/-- A map's value stays what it is while blocks from B on are written and new ones made. -/
theorem MapAt.below {w w' : World} {v : Value} {D : DataW Unit} (h : MapAt w v D) (hb : Below w.heap.size w w') : MapAt w' v D := by
  rcases h with h | ⟨b, rfl, hown⟩
  · exact .inl h
  · have hlt := hown.lt
    obtain ⟨es, clock, he, r⟩ := hown
    exact .inr ⟨b, rfl, es, clock, (hb.block b hlt).trans he, r⟩

/-- All keys of A that have come out already are in B, with the same value. -/
def Done (A B : DataW Unit) (left : Lit → Bool) : Prop := ∀ k, Maps.has A k = true → left k = false → Maps.has B k = true ∧ ∀ z, A.atKey k z = B.atKey k z

theorem done_start (A B : DataW Unit) : Done A B (Maps.has A) := fun k h1 h2 => by rw [h1] at h2; cases h2

theorem done_step {A B : DataW Unit} {left : Lit → Bool} {x : Lit} {d : DataW Unit} {z0 : DataW Unit} (h : Done A B left) (hA : ∀ z, A.atKey x z = d) (hB : Maps.has B x = true) (hz : B.atKey x z0 = d) : Done A B (fun z => left z && !z.sameKey x) := by
  intro k hk hl
  cases hs : k.sameKey x with
  | true =>
    obtain rfl := WideAt.sameKey_eq hs
    exact ⟨hB, fun z => by rw [hA z, atKey_any hB z z0, hz]⟩
  | false =>
    refine h k hk ?_
    simpa [hs] using hl

theorem lookup_nil (w : World) {x : ByteArray} (hx : x.size ≤ 9223372036854775807) : Sem.run Trym.prog (Instr.lookup 26 (.map none) (.string x) true) w = .ok (.tuple #[.string ⟨#[]⟩, .bool false]) w :=
  Maps.look_nil true law9 Trym.underlying26 (zero9 w) (key9 hx)

theorem toList_inj {s c : ByteArray} (h : s.toList = c.toList) : s = c := by
  rw [Go.ByteArray.toList_eq, Go.ByteArray.toList_eq] at h
  exact KL_inj (congrArg Lit.string h)
theorem str_eq {s c : ByteArray} (h : (!s.toList == c.toList) = false) : s = c := by
  simp only [Bool.not_eq_false', beq_iff_eq] at h
  exact toList_inj h
theorem str_ne {s c : ByteArray} (h : (!s.toList == c.toList) = true) : s ≠ c := by
  rintro rfl
  simp at h

/-- It returns whether A and B read alike. -/
def RetSame (A B : DataW Unit) (e : Ending) : Prop := ∃ r, e = .returned (.bool r) ∧ (r = true ↔ SameD A B)

theorem ret_yes {A B : DataW Unit} {e : Ending} (he : e = .returned (.bool true)) (h : SameD A B) : RetSame A B e := ⟨true, he, by simp [h]⟩
theorem ret_no {A B : DataW Unit} {e : Ending} (he : e = .returned (.bool false)) (h : ¬ SameD A B) : RetSame A B e := ⟨false, he, by simp [h]⟩

theorem not_same_has {A B : DataW Unit} {x : Lit} {d : DataW Unit} (hA : ∀ z, A.atKey x z = d) (hB : Maps.has B x = false) : ¬ SameD A B := fun h => by
  have := (h.2 x (Maps.has_true_of_atKey hA)).1
  rw [hB] at this
  cases this
theorem not_same_val {A B : DataW Unit} {x : Lit} {c s : ByteArray} (hA : ∀ z, A.atKey x z = VD c) (z0 : DataW Unit) (hB : B.atKey x z0 = VD s) (hne : s ≠ c) : ¬ SameD A B := fun h => by
  have := (h.2 x (Maps.has_true_of_atKey hA)).2 z0
  rw [hA, hB] at this
  exact hne (VD_inj this).symm

set_option maxRecDepth 100000 in
set_option maxHeartbeats 1000000 in
theorem same_own_own (b b2 : Nat) (A B : DataW Unit) (w : World) (ha : w.ownsMap Trym.prog 9 (plainElem Trym.prog 9) b 5000 A) (hb : w.ownsMap Trym.prog 9 (plainElem Trym.prog 9) b2 5000 B) (hne : Maps.size A = Maps.size B) :
    Calls Trym.prog 21 #[.map (some b), .map (some b2)] w fun e w' => RetSame A B e ∧ Below w.heap.size w w' := by
  have hla : ∀ ty, Sem.run Trym.prog (Builtin.len_ #[26] ty #[.map (some b)]) w = .ok (.int .i64 (Maps.size A)) w := fun ty => ha.len Trym.underlying26 ty
  have hlb : ∀ ty, Sem.run Trym.prog (Builtin.len_ #[26] ty #[.map (some b2)]) w = .ok (.int .i64 (Maps.size A)) w := by rw [hne]; exact fun ty => hb.len Trym.underlying26 ty
  have HN : Hid (Maps.size A = Maps.size B) := hne
  have hlt2 := hb.lt
  clear hne
  go_enter Trym.func21, Trym.ntmps21
  go_wp2_with (first | (at_range; refine wpList_range_own _ rfl _ 26 rfl 9 9 law9 Trym.underlying26 _ b 5000 A rfl ha ?_; intro w0 hrg0 hg0 hs0) | go_in)
  go_frame
  go_loopw [5] (fun _ wr => ∃ left cnt, wr.ranges Trym.prog 9 (plainElem Trym.prog 9) b w.heap.size 5000 A left cnt ∧ Done A B left ∧ wr.ownsMap Trym.prog 9 (plainElem Trym.prog 9) b2 5000 B ∧ Below w.heap.size w wr) (fun _ wr => wr.rangeLeft b w.heap.size)
  case atStart => exact ⟨_, _, hrg0, done_start A B, hb.kept hg0 (by simp), (Below.refl _ _).grown hg0 (Nat.le_refl _) (by simp)⟩
  obtain ⟨left, cnt, hrg, hdn, hob, hnx⟩ := hrel
  clear hla hlb ha hb hrg0 hg0 hs0
  go_wp2_with (first
    | (at_next; refine next_ss _ rfl _ rfl b w.heap.size 5000 A left cnt rfl hrg ?_ ?_)
    | go_in)
  · intro _ hl0
    go_wp2
    go_ret
    exact ⟨ret_yes rfl ⟨HN.out, fun k hk => hdn k hk (hl0 k)⟩, hnx⟩
  · intro x c w1 cnt1 hx hlx hat hrg1 hlt hg1 hs1 hen
    have hob1 := hob.kept hg1 (fun e => by have := Option.some.inj e; omega)
    have hkey := key9 hx
    have hnx1 := hnx.grown hg1 hnx.size (fun j hj => by cases hj; exact Nat.le_refl _)
    clear hs1 hg1 hob hnx
    cases hB : Maps.has B (KL x) with
    | false =>
      go_wp2_with (first
        | (at_lookup; refine lookup_ss _ rfl _ _ rfl b2 5000 B rfl hob1 _ _ rfl hkey ?_; intro s hsv)
        | go_in)
      go_ret
      exact ⟨ret_no rfl (not_same_has hat hB), hnx1⟩
    | true =>
      go_wp2_with (first
        | (at_lookup; refine lookup_ss _ rfl _ _ rfl b2 5000 B rfl hob1 _ _ rfl hkey ?_; intro s hsv)
        | go_in)
      case roundEnd =>
        rename_i hq
        obtain rfl := str_eq hq
        exact ⟨⟨_, _, hrg1, done_step hdn hat hB hsv, hob1, hnx1⟩, by rw [hrg1.left_eq, hrg.left_eq]; exact hlt⟩
      go_ret
      exact ⟨ret_no rfl (not_same_val hat _ hsv (str_ne ‹_›)), hnx1⟩

set_option maxRecDepth 100000 in
set_option maxHeartbeats 1000000 in
theorem same_own_nil (b : Nat) (A : DataW Unit) (w : World) (ha : w.ownsMap Trym.prog 9 (plainElem Trym.prog 9) b 5000 A) (hne : Maps.size A = 0) :
    Calls Trym.prog 21 #[.map (some b), .map none] w fun e w' => RetSame A (.map []) e ∧ Below w.heap.size w w' := by
  have hla : ∀ ty, Sem.run Trym.prog (Builtin.len_ #[26] ty #[.map (some b)]) w = .ok (.int .i64 0) w := fun ty => by have := ha.len (t := 26) (e := 9) Trym.underlying26 ty; rw [hne] at this; exact this
  have hlb : ∀ ty, Sem.run Trym.prog (Builtin.len_ #[26] ty #[.map none]) w = .ok (.int .i64 0) w := fun ty => Maps.len_nil Trym.underlying26 ty
  have HN : Hid (Maps.size A = 0) := hne
  clear hne
  go_enter Trym.func21, Trym.ntmps21
  go_wp2_with (first | (at_range; refine wpList_range_own _ rfl _ 26 rfl 9 9 law9 Trym.underlying26 _ b 5000 A rfl ha ?_; intro w0 hrg0 hg0 hs0) | go_in)
  go_frame
  go_loopw [5] (fun _ wr => ∃ left cnt, wr.ranges Trym.prog 9 (plainElem Trym.prog 9) b w.heap.size 5000 A left cnt ∧ cnt = 0 ∧ Done A (.map []) left ∧ Below w.heap.size w wr) (fun _ wr => wr.rangeLeft b w.heap.size)
  case atStart => exact ⟨_, _, hrg0, HN.out, done_start A _, (Below.refl _ _).grown hg0 (Nat.le_refl _) (by simp)⟩
  obtain ⟨left, cnt, hrg, rfl, hdn, hnx⟩ := hrel
  clear hla hlb ha hrg0 hg0 hs0
  go_wp2_with (first
    | (at_next; refine next_ss _ rfl _ rfl b w.heap.size 5000 A left 0 rfl hrg ?_ (fun _ _ _ _ _ _ _ _ hlt => absurd hlt (Nat.not_lt_zero _)))
    | go_in)
  intro hl0
  go_wp2
  go_ret
  exact ⟨ret_yes rfl ⟨HN.out, fun k hk => hdn k hk (hl0 k)⟩, hnx⟩

set_option maxRecDepth 100000 in
set_option maxHeartbeats 1000000 in
/-- The lengths differ. -/
theorem same_short (va vb : Value) (A B : DataW Unit) (w : World) (ha : MapAt w va A) (hb : MapAt w vb B) (hne : Maps.size A ≠ Maps.size B) :
    Calls Trym.prog 21 #[va, vb] w fun e w' => RetSame A B e ∧ Below w.heap.size w w' := by
  have hla : ∀ ty, Sem.run Trym.prog (Builtin.len_ #[26] ty #[va]) w = .ok (.int .i64 (Maps.size A)) w := fun ty => ha.len ty
  have hlb : ∀ ty, Sem.run Trym.prog (Builtin.len_ #[26] ty #[vb]) w = .ok (.int .i64 (Maps.size B)) w := fun ty => hb.len ty
  have HN : Hid (¬ SameD A B) := fun h => hne h.1
  have hq : (((Maps.size A : Nat) : Int) == ((Maps.size B : Nat) : Int)) = false := by simp; omega
  clear ha hb hne
  generalize Maps.size A = n at *
  generalize Maps.size B = m at *
  go_enter Trym.func21, Trym.ntmps21
  go_wp2
  go_ret
  exact ⟨ret_no rfl HN.out, Below.refl _ _⟩

theorem sameValues_any (va vb : Value) (A B : DataW Unit) (w : World) (ha : MapAt w va A) (hb : MapAt w vb B) :
    Calls Trym.prog 21 #[va, vb] w fun e w' => RetSame A B e ∧ Below w.heap.size w w' := by
  by_cases hne : Maps.size A = Maps.size B
  · rcases ha with ⟨rfl, rfl⟩ | ⟨b, rfl, hown⟩
    · refine (same_nil vb B w hb).mono ?_
      rintro e w' ⟨rfl, hw⟩
      have h0 : Maps.size B = 0 := hne.symm
      rw [h0]
      exact ⟨ret_yes rfl ⟨hne, fun k hk => by cases hk⟩, hw⟩
    · rcases hb with ⟨rfl, rfl⟩ | ⟨b2, rfl, hown2⟩
      · exact same_own_nil b A w hown hne
      · exact same_own_own b b2 A B w hown hown2 hne
  · exact same_short va vb A B w ha hb hne

theorem bcell {W w1 : World} (hb : Below W.heap.size W w1) : (∀ b o, b < W.heap.size → w1.cell? ⟨b, o, none⟩ = W.cell? ⟨b, o, none⟩) :=
  fun b o h => hb.cell (p := ⟨b, o, none⟩) h

/-- It returns whether both pairs of maps read alike. -/
def RetSame2 (A1 A2 B1 B2 : DataW Unit) (e : Ending) : Prop := ∃ r, e = .returned (.bool r) ∧ (r = true ↔ SameD A1 B1 ∧ SameD A2 B2)

set_option maxRecDepth 100000 in
set_option maxHeartbeats 1000000 in
theorem Same_any (m1 m2 m3 m4 : Value) (A1 A2 B1 B2 : DataW Unit) (w : World) (h1 : MapAt w m1 A1) (h2 : MapAt w m2 A2) (h3 : MapAt w m3 B1) (h4 : MapAt w m4 B2) :
    Calls Trym.prog 11 #[.agg #[m1, m2], .agg #[m3, m4]] w fun e w' => RetSame2 A1 A2 B1 B2 e ∧ Below w.heap.size w w' := by
  have hbw : Below w.heap.size w ((w.alloc (.cells #[m1, m2] 29)).alloc (.cells #[m3, m4] 29)) := ((Below.refl _ _).alloc (Nat.le_refl _) _).alloc (by simp) _
  have k1 := h1.below hbw
  have k2 := h2.below hbw
  have k3 := h3.below hbw
  have k4 := h4.below hbw
  clear h1 h2 h3 h4
  go_enter Trym.func11, Trym.ntmps11
  go_wp2_with fail
  refine (sameValues_any m1 m3 A1 B1 _ k1 k3).mono ?_
  rintro e w1 ⟨⟨r, rfl, hr⟩, hb⟩
  have hbx := hbw.trans (hb.mono (by simp; omega))
  have l2 := k2.below hb
  have l4 := k4.below hb
  have HR : Hid (r = true ↔ SameD A1 B1) := hr
  obtain ⟨q1, q2⟩ : w1.cell? ⟨w.heap.size, 1, none⟩ = some m2 ∧ w1.cell? ⟨w.heap.size + 1, 1, none⟩ = some m4 :=
    ⟨(bcell hb _ _ (by simp; omega)).trans (by go_simp), (bcell hb _ _ (by simp)).trans (by go_simp)⟩
  clear k1 k2 k3 k4 hr hb hbw
  cases r with
  | false =>
    go_wp2
    go_ret
    exact ⟨⟨false, rfl, by have := HR.out; simp at this; simp [this]⟩, hbx⟩
  | true =>
    go_wp2_with fail
    refine (sameValues_any m2 m4 A2 B2 _ l2 l4).mono ?_
    rintro e w2 ⟨⟨r2, rfl, hr2⟩, hb2⟩
    have HR2 : Hid (r2 = true ↔ SameD A2 B2) := hr2
    have hby := hbx.trans (hb2.mono hbx.size)
    clear l2 l4 hr2 hb2 q1 q2
    go_wp2
    go_ret
    exact ⟨⟨r2, rfl, by have h1 := HR.out; have h2 := HR2.out; simp at h1; simp [h1, h2]⟩, hby⟩
end Go.Proofs.Qxb6603597aMods
