import Derived.Test.Qxb6603597aModsCanonLaw
import Derived.Deep.QuietTactic
import Derived.BigQuiet
import Derived.WalkSmall
namespace Go.Proofs.Qxb6603597aMods
open Go.ChangeShapes Go.WideShapes Go.ChangeAt Go.RowKit
set_option linter.unusedVariables false

/-- 'append(s, x)' of one string to a row of the call's own, AND WHERE THE NEW ROW LIES. -/
theorem append_ss (w : World) (ty : TypeId) (base : Nat) (v : Value) (n : Nat) (xs : List Value) (hown : w.ownsRow base 9 1 v n xs) (ad : Addr) (c : Nat) (x : ByteArray) (hx : w.cell? ad = some (.string x)) (hn : n ≤ 4096) (hbase : base ≤ w.heap.size) :
    ∃ g cap w', Sem.run Trym.prog (Builtin.append_ #[22, 22] ty #[v, .slice (some ad) 1 c]) w = .ok (.slice (some ⟨g, 0, none⟩) (n + 1) cap) w' ∧ w'.ownsRow base 9 1 (.slice (some ⟨g, 0, none⟩) (n + 1) cap) (n + 1) (xs ++ [.string x]) ∧
      w.grownBy w' v.ownBlock ∧ (v.ownBlock = some g ∨ g = w.heap.size) := by
  obtain ⟨i0, hi, hz0, hz1, hz2⟩ := info_parts Trym.info9
  have hnews : ∀ j u, [Value.string x][j]? = some u → w.cell? (ad.add j) = some u := by
    intro j u hj
    match j, hj with
    | 0, hj =>
      simp at hj
      subst hj
      simpa [Addr.add] using hx
  have h1 : ∀ u ∈ [Value.string x], u.oneCell' = true := by intro u hu; simp at hu; subst hu; rfl
  obtain ⟨v', w', hr, h2, h3, h4⟩ := run_append_own (P := Trym.prog) w base 22 ty 9 i0 (.string ⟨#[]⟩) 1 16 Trym.underlying22 hi hz0 hz1 hz2 rfl (by decide) v n xs hown ad 1 c [.string x] rfl hnews h1 (by unfold maxLen; omega) (by omega) hbase
  have hne : v' ≠ .slice none 0 0 := fun e => by have := (h4.1 e).2; omega
  rcases h2.2 with ⟨e, _⟩ | ⟨g, cap, cur, rfl, _⟩
  · exact absurd e hne
  refine ⟨g, cap, w', hr, h2, h3, ?_⟩
  rcases hown.2 with ⟨rfl, rfl⟩ | ⟨g0, cap0, cur0, rfl, _, hg0, hnc, hcm, hcs, htake⟩
  · have hr' := run_append_nil (P := Trym.prog) w 22 ty 9 i0 (.string ⟨#[]⟩) Trym.underlying22 hi hz0 ad 1 c [.string x] (by rw [hz1]; rfl) hnews (by omega) (by omega) (by rw [hz2]; omega)
    rw [hr'] at hr
    injection hr with e1 e2
    injection e1 with e3
    injection e3 with e4
    injection e4 with e5
    exact .inr e5.symm
  · by_cases hroom : n + 1 ≤ cap0
    · have hr' := run_append_room (P := Trym.prog) w 22 ty 9 i0 Trym.underlying22 hi g0 n cap0 cur0 hg0 ad 1 c [.string x] (by rw [hz1]; rfl) hnews h1 hroom (by rw [hz1]; simp at hcs ⊢; omega)
      rw [hr'] at hr
      injection hr with e1 e2
      injection e1 with e3
      injection e3 with e4
      injection e4 with e5
      exact .inl (by rw [← e5]; rfl)
    · have hr' := run_append_grow (P := Trym.prog) w 22 ty 9 i0 (.string ⟨#[]⟩) Trym.underlying22 hi hz0 ⟨g0, 0, none⟩ n cap0 xs (by rw [hz1]; exact hown.1) (hown.cells rfl) ad 1 c [.string x] (by rw [hz1]; rfl) hnews (by omega) (by omega) (growslice_fits (by omega) (by rw [hz2]; omega))
      rw [hr'] at hr
      injection hr with e1 e2
      injection e1 with e3
      injection e3 with e4
      injection e4 with e5
      exact .inr e5.symm

theorem wpList_append_ss (w : World) {ops : Array Oper} {rest : List Oper} {o : Oper} {a : Act} {Q : Exit → Act → World → Prop} (hgd : o.guard = none) (s y : Operand)
    (ho : o.op = .call { callee := .builtin .append, args := #[s, y], argTypes := #[22, 22] }) (base : Nat) (v : Value) (n : Nat) (xs : List Value) (hs : a.eval s = v) (hown : w.ownsRow base 9 1 v n xs)
    (ad : Addr) (c : Nat) (x : ByteArray) (hy : a.eval y = .slice (some ad) 1 c) (hx : w.cell? ad = some (.string x)) (hn : n ≤ 4096) (hbase : base ≤ w.heap.size)
    (h : ∀ g cap w', w'.ownsRow base 9 1 (.slice (some ⟨g, 0, none⟩) (n + 1) cap) (n + 1) (xs ++ [.string x]) → w.grownBy w' v.ownBlock → (v.ownBlock = some g ∨ g = w.heap.size) → wpList Trym.prog ops Q rest (a.put o.dst (.slice (some ⟨g, 0, none⟩) (n + 1) cap)) w') :
    wpList Trym.prog ops Q (o :: rest) a w := by
  refine wpList_plain hgd fun K hK => ?_
  obtain ⟨g, cap, w', hr, h2, h3, h4⟩ := append_ss w o.type base v n xs hown ad c x hx hn hbase
  unfold Oper.wp execOp
  simp only [ho, resolve, invoke, builtin, Sem.run_bind, Sem.run_pure, Result.andThen_ok, List.map_toArray, List.map_cons, List.map_nil, hs, hy, hr]
  exact hK _ _ (h g cap w' h2 h3 h4)


/-- Two rows of the call's own, apart, that hold the keys and the values of L. -/
def Two (base : Nat) (w : World) (v1 v2 : Value) (L : List (ByteArray × ByteArray)) : Prop :=
  w.ownsRow base 9 1 v1 L.length (L.map fun p => .string p.1) ∧ w.ownsRow base 9 1 v2 L.length (L.map fun p => .string p.2) ∧ (v1.ownBlock = none ∨ v1.ownBlock ≠ v2.ownBlock)

def RetCanon (ks vs : List ByteArray) (w : World) (e : Ending) (w' : World) : Prop :=
  ∃ L v1 v2, e = .returned (.tuple #[v1, v2]) ∧ CanonTo ks vs ks.length L ∧ Two w.heap.size w' v1 v2 L ∧ L.length ≤ ks.length

theorem two_cells {base : Nat} {w : World} {g1 g2 c1 c2 P : Nat} {L A' B : List (ByteArray × ByteArray)} {y x : ByteArray × ByteArray} (h : Two base w (.slice (some ⟨g1, 0, none⟩) (L.length + 1) c1) (.slice (some ⟨g2, 0, none⟩) (L.length + 1) c2) (A' ++ y :: x :: B))
    (hP : A'.length = P) (hL : L = A' ++ y :: B) : g1 ≠ g2 ∧ w.cell? ⟨g1, P, none⟩ = some (.string y.1) ∧ w.cell? ⟨g1, P + 1, none⟩ = some (.string x.1) ∧ w.cell? ⟨g2, P, none⟩ = some (.string y.2) ∧ w.cell? ⟨g2, P + 1, none⟩ = some (.string x.2) ∧
      w.frozen? ⟨g1, P, none⟩ = false ∧ w.frozen? ⟨g1, P + 1, none⟩ = false ∧ w.frozen? ⟨g2, P, none⟩ = false ∧ w.frozen? ⟨g2, P + 1, none⟩ = false := by
  obtain ⟨h1, h2, h3⟩ := h
  have hlen : (A' ++ y :: x :: B).length = L.length + 1 := by rw [hL]; simp; omega
  rw [hlen] at h1 h2
  have hPL : P + 1 < L.length + 1 := by rw [hL]; simp; omega
  subst hP
  refine ⟨?_, ?_, ?_, ?_, ?_, h1.frozenAt _, h1.frozenAt _, h2.frozenAt _, h2.frozenAt _⟩
  · rcases h3 with h | h
    · cases h
    · exact fun e => h (by rw [e]; rfl)
  · rw [h1.cellAt _ (by omega)]; simp
  · rw [h1.cellAt _ (by omega)]; simp
  · rw [h2.cellAt _ (by omega)]; simp
  · rw [h2.cellAt _ (by omega)]; simp

theorem two_swap {base : Nat} {w : World} {g1 g2 c1 c2 P : Nat} {L A' B : List (ByteArray × ByteArray)} {y x : ByteArray × ByteArray} (h : Two base w (.slice (some ⟨g1, 0, none⟩) (L.length + 1) c1) (.slice (some ⟨g2, 0, none⟩) (L.length + 1) c2) (A' ++ y :: x :: B))
    (hP : A'.length = P) (hL : L = A' ++ y :: B) :
    Two base ((((w.setCell ⟨g1, P + 1, none⟩ (.string y.1)).setCell ⟨g1, P, none⟩ (.string x.1)).setCell ⟨g2, P + 1, none⟩ (.string y.2)).setCell ⟨g2, P, none⟩ (.string x.2)) (.slice (some ⟨g1, 0, none⟩) (L.length + 1) c1) (.slice (some ⟨g2, 0, none⟩) (L.length + 1) c2) (A' ++ x :: y :: B) ∧
      ∀ b, Below b w w → b ≤ base → Below b w ((((w.setCell ⟨g1, P + 1, none⟩ (.string y.1)).setCell ⟨g1, P, none⟩ (.string x.1)).setCell ⟨g2, P + 1, none⟩ (.string y.2)).setCell ⟨g2, P, none⟩ (.string x.2)) := by
  have hg12 := (two_cells h hP hL).1
  obtain ⟨h1, h2, h3⟩ := h
  have hlen : (A' ++ y :: x :: B).length = L.length + 1 := by rw [hL]; simp; omega
  have hlen' : (A' ++ x :: y :: B).length = L.length + 1 := by rw [hL]; simp; omega
  rw [hlen] at h1 h2
  have l1 := (h1.lt g1 rfl).1
  have l2 := (h2.lt g2 rfl).1
  obtain ⟨a1, ga1⟩ := h1.stored (P + 1) (.string y.1)
  have k1 := h2.kept ga1 (.inr (by show some g2 ≠ some g1; exact fun e => hg12 (Option.some.inj e).symm))
  obtain ⟨a2, ga2⟩ := a1.stored P (.string x.1)
  have k2 := k1.kept ga2 (.inr (by show some g2 ≠ some g1; exact fun e => hg12 (Option.some.inj e).symm))
  obtain ⟨b1, gb1⟩ := k2.stored (P + 1) (.string y.2)
  have k3 := a2.kept gb1 (.inr (by show some g1 ≠ some g2; exact fun e => hg12 (Option.some.inj e)))
  obtain ⟨b2, gb2⟩ := b1.stored P (.string x.2)
  have k4 := k3.kept gb2 (.inr (by show some g1 ≠ some g2; exact fun e => hg12 (Option.some.inj e)))
  subst hP
  refine ⟨⟨?_, ?_, h3⟩, fun b hb hbb => (((hb.setCell (by show b ≤ g1; omega) _).setCell (by show b ≤ g1; omega) _).setCell (by show b ≤ g2; omega) _).setCell (by show b ≤ g2; omega) _⟩
  · rw [hlen']
    simpa [List.set_append] using k4
  · rw [hlen']
    simpa [List.set_append] using b2

theorem bel_drewN {B : Nat} {a w : World} (h : Below B a w) (n : Nat) : Below B a (w.drewN n) := h.trans ⟨rfl, rfl, rfl, Nat.le_refl _, fun _ _ => rfl⟩
theorem cell_new (W : World) (v : Value) : (W.alloc (.cells #[v] 9)).cell? ⟨W.heap.size, 0, none⟩ = some v := by go_simp

theorem keep7 {base : Nat} {W w1 : World} {u6 u7 : Value} {L : List (ByteArray × ByteArray)} (hT : Two base W u6 u7 L) {o : Obj} (gr1 : (W.alloc o).grownBy w1 u6.ownBlock) : w1.ownsRow base 9 1 u7 L.length (L.map fun p => .string p.2) := by
  refine (hT.2.1.alloc o).kept gr1 ?_
  rcases hT.2.2 with h | h
  · cases h7 : u7.ownBlock
    · exact .inl rfl
    · right
      rw [h]
      simp
  · exact .inr (Ne.symm h)

theorem two_appended {base : Nat} {W w1 w2 : World} {u6 u7 : Value} {L : List (ByteArray × ByteArray)} {x v : ByteArray} {g1 cap1 g2 cap2 : Nat} {o1 o2 : Obj} (hT : Two base W u6 u7 L)
    (own1 : w1.ownsRow base 9 1 (.slice (some ⟨g1, 0, none⟩) (L.length + 1) cap1) (L.length + 1) ((L.map fun p => .string p.1) ++ [.string x])) (gr1 : (W.alloc o1).grownBy w1 u6.ownBlock) (wh1 : u6.ownBlock = some g1 ∨ g1 = (W.alloc o1).heap.size)
    (own2 : w2.ownsRow base 9 1 (.slice (some ⟨g2, 0, none⟩) (L.length + 1) cap2) (L.length + 1) ((L.map fun p => .string p.2) ++ [.string v])) (gr2 : (w1.alloc o2).grownBy w2 u7.ownBlock) (wh2 : u7.ownBlock = some g2 ∨ g2 = (w1.alloc o2).heap.size) :
    Two base w2 (.slice (some ⟨g1, 0, none⟩) (L.length + 1) cap1) (.slice (some ⟨g2, 0, none⟩) (L.length + 1) cap2) (L ++ [(x, v)]) := by
  have l1 := (own1.lt g1 rfl).2
  have h17 : u7.ownBlock ≠ some g1 := by
    intro e
    rcases wh1 with h | h
    · rcases hT.2.2 with h' | h'
      · rw [h] at h'; cases h'
      · exact h' (by rw [h, e])
    · have := (hT.2.1.lt g1 e).2
      simp at h
      omega
  have k1 := (own1.alloc o2).kept gr2 (.inr (by show some g1 ≠ _; exact Ne.symm h17))
  refine ⟨by simpa using k1, by simpa using own2, .inr ?_⟩
  show some g1 ≠ some g2
  intro e
  have e' := Option.some.inj e
  rcases wh2 with h | h
  · exact h17 (by rw [h, e])
  · simp at h
    omega

set_option maxRecDepth 100000 in
set_option maxHeartbeats 2000000 in
theorem canon_any (a0 a1 : Option Addr) (c0 c1 : Nat) (ks vs : List ByteArray) (w : World) (hn : ks.length ≤ 4096) (hm : vs.length ≤ 4096) (h0 : StrsAt w a0 ks) (h1 : StrsAt w a1 vs) :
    Calls Trym.prog 22 #[.slice a0 ks.length c0, .slice a1 vs.length c1] w fun e w' => RetCanon ks vs w e w' ∧ Below w.heap.size w w' := by
  go_enter Trym.func22, Trym.ntmps22
  go_wp2
  go_loopw [6, 7, 8] (fun ck cv i wr => ∃ (k : Nat) (L : List (ByteArray × ByteArray)), k ≤ ks.length ∧ i = .int .i64 k ∧ L.length ≤ k ∧ CanonTo ks vs k L ∧ Two w.heap.size wr ck cv L ∧ Below w.heap.size w wr) (fun _ _ i _ => ks.length - (intOf i).toNat)
  case atStart => exact ⟨0, [], Nat.zero_le _, rfl, Nat.le_refl _, canon_start ks vs, ⟨World.ownsRow_nil _ _ _ _, World.ownsRow_nil _ _ _ _, .inl rfl⟩, Below.refl _ _⟩
  obtain ⟨k, L, hk, rfl, hL, hC, hT, hB⟩ := hrel
  by_cases hlt : k < ks.length
  · obtain ⟨p0, rfl, hc0, hs0⟩ := h0 k hlt
    obtain ⟨wo, rfl⟩ : ∃ x, x = wr := ⟨_, rfl⟩
    have hcells : ∀ q, q < ks.length → wo.cell? (p0.add q) = some (.string (nth ks q)) := fun q hq => by
      obtain ⟨p, hp, hc, _⟩ := h0 q hq
      cases hp
      exact (hB.cell (cell_lt hc)).trans hc
    have HC : Hid (CanonTo ks vs k L) := hC
    have HT : Hid (Two w.heap.size wo u6 u7 L) := hT
    have hck := hcells k hlt
    clear h0 hc0 hs0 hC hT
    go_wp2
    go_loopw [9, 10] (fun lt j w2 => ∃ m q : Nat, k < m ∧ m ≤ ks.length ∧ lt = .bool false ∧ j = .int .i64 m ∧ Hid (∀ r, k < r → r < m → nth ks r ≠ nth ks k) ∧ w2 = wo.drewN q) (fun _ j _ => ks.length - (intOf j).toNat)
    case atStart => exact ⟨k + 1, 0, by omega, by omega, rfl, by go_num, fun r a b => by omega, rfl⟩
    obtain ⟨m, q, hkm, hmn, rfl, rfl, HR, rfl⟩ := hrel
    by_cases hml : m < ks.length
    · have hcm := hcells m hml
      clear hcells
      by_cases he : nth ks m = nth ks k
      · have hq : ((nth ks m).toList == (nth ks k).toList) = true := by simp [he]
        have HE : Hid (nth ks m = nth ks k) := he
        clear he
        go_wp2
        go_quiet (fail)
        go_wp2
        exact ⟨⟨k + 1, L, by omega, by go_num, by omega, canon_later HC.out hkm hml HE.out, HT.out, bel_drewN hB _⟩, by simp [intOf]; omega⟩
      · have hq : ((nth ks m).toList == (nth ks k).toList) = false := by
          simp only [beq_eq_false_iff_ne, ne_eq]
          exact fun e => he (toList_inj e)
        have HE : Hid (nth ks m ≠ nth ks k) := he
        clear he
        go_wp2
        go_quiet (fail)
        go_wp2
        refine ⟨⟨m + 1, _, by omega, by omega, rfl, by go_num, fun r a b => ?_, rfl⟩, by simp [intOf]; omega⟩
        by_cases e : r = m
        · subst e; exact HE.out
        · exact HR.out r a (by omega)
    · have HX : Hid (isLast ks k) := fun r a b => HR.out r a (by omega)
      have hB1 : Below w.heap.size w (wo.drewN q) := bel_drewN hB q
      have hT1 : Two w.heap.size (wo.drewN q) u6 u7 L := HT.out
      have T1 := hT1.1
      have HT1 : Hid (Two w.heap.size (wo.drewN q) u6 u7 L) := hT1
      have hz := hB.size
      clear hcells HR hB hT1 HT
      by_cases hl1 : k < vs.length
      · obtain ⟨p1, rfl, hc1, hs1⟩ := h1 k hl1
        have hcv : wo.cell? (p1.add k) = some (.string (nth vs k)) := (hB1.cell (cell_lt hc1)).trans hc1
        clear h1 hc1 hs1
        go_wp2_with (first
          | (at_builtin; refine wpList_append_ss _ rfl _ _ rfl w.heap.size _ L.length _ rfl (T2.alloc _) _ _ (nth vs k) rfl (by exact cell_new _ _) (by omega) (by simp; have := hB2.size; omega) ?_; intro g2 cap2 w2 own2 gr2 wh2
             have hT2 := two_appended HT1.out own1 gr1 wh1 own2 gr2 wh2
             have hB3 : Below w.heap.size w w2 := (hB2.alloc hB2.size _).grown gr2 (by simp; have := hB2.size; omega) (fun j hj => (T2.lt j hj).1)
             clear own1 gr1 wh1 own2 gr2 wh2 T2 T1 hB2 HT1)
          | (at_builtin; refine wpList_append_ss _ rfl _ _ rfl w.heap.size _ L.length _ rfl (T1.alloc _) _ _ (nth ks k) rfl (by exact cell_new _ _) (by omega) (by simp; omega) ?_; intro g1 cap1 w1 own1 gr1 wh1
             have T2 := keep7 HT1.out gr1
             have hB2 : Below w.heap.size w w1 := (hB1.alloc hB1.size _).grown gr1 (by simp; omega) (fun j hj => (T1.lt j hj).1))
          | go_in)
        go_loopw [12, 13, 14] (fun p tk tv w3 => ∃ (A B : List (ByteArray × ByteArray)) (P : Nat), Hid (L = A ++ B) ∧ Hid (A.length = P) ∧ P ≤ L.length ∧ p = .int .i64 P ∧ Hid (∀ b ∈ B, lt (nth ks k) b.1 = true) ∧ Two w.heap.size w3 (.slice (some ⟨g1, 0, none⟩) (L.length + 1) cap1) (.slice (some ⟨g2, 0, none⟩) (L.length + 1) cap2) (A ++ (nth ks k, (nth vs k)) :: B) ∧ Below w.heap.size w w3) (fun p _ _ _ => (intOf p).toNat)
        case atStart => exact ⟨L, [], L.length, (List.append_nil L).symm, rfl, Nat.le_refl _, by go_num, fun b hb => by simp at hb, hT2, hB3⟩
        obtain ⟨A, B, P, HAB, HP, hPL, rfl, HB4, hT4, hB5⟩ := hrel
        clear hT2 hB3
        have HT4 : Hid (Two w.heap.size wr (.slice (some ⟨g1, 0, none⟩) (L.length + 1) cap1) (.slice (some ⟨g2, 0, none⟩) (L.length + 1) cap2) (A ++ (nth ks k, (nth vs k)) :: B)) := hT4
        clear hT4
        rcases List.eq_nil_or_concat A with rfl | ⟨A', y, rfl⟩
        · obtain rfl : P = 0 := HP.out.symm
          go_wp2
          go_quiet (fail)
          go_wp2
          refine ⟨⟨k + 1, (nth ks k, (nth vs k)) :: B, by omega, by go_num, by have := HAB.out; simp at this; rw [this] at hL; simp; omega, ?_, HT4.out, bel_drewN hB5 _⟩, by simp [intOf]; omega⟩
          exact canon_insert (A := []) hlt (by rw [← HAB.out]; exact HC.out) HX.out HB4.out (fun A' y e => by simp at e)
        · obtain ⟨P, rfl⟩ : ∃ Q, P = Q + 1 := ⟨A'.length, by have := HP.out; simp at this; omega⟩
          have HP' : Hid (A'.length = P) := by have := HP.out; simp at this; exact this
          have HT5 : Hid (Two w.heap.size wr (.slice (some ⟨g1, 0, none⟩) (L.length + 1) cap1) (.slice (some ⟨g2, 0, none⟩) (L.length + 1) cap2) (A' ++ y :: (nth ks k, (nth vs k)) :: B)) := by
            have := HT4.out
            simp only [List.concat_eq_append, List.append_assoc, List.cons_append, List.nil_append] at this
            exact this
          have HAB' : Hid (L = A' ++ y :: B) := by
            have := HAB.out
            simp only [List.concat_eq_append, List.append_assoc, List.cons_append, List.nil_append] at this
            exact this
          clear HT4 HP HAB
          obtain ⟨hg12, q1, q2, q3, q4, z1, z2, z3, z4⟩ := two_cells HT5.out HP'.out HAB'.out
          have hg21 : g2 ≠ g1 := Ne.symm hg12
          cases hless : Op.bytesLess (nth ks k).toList y.1.toList with
          | true =>
            go_wp2
            go_quiet (fail)
            go_wp2
            obtain ⟨sw, sb⟩ := two_swap (w := wr.drewN nq) HT5.out HP'.out HAB'.out
            exact ⟨⟨A', y :: B, P, HAB'.out, HP'.out, by omega, rfl, fun b hb => by
              rcases List.mem_cons.1 hb with e | e
              · rw [e]; exact hless
              · exact HB4.out b e, sw, (bel_drewN hB5 nq).trans (sb _ (Below.refl _ _) (Nat.le_refl _))⟩, by simp [intOf]⟩
          | false =>
            go_wp2
            go_quiet (fail)
            go_wp2
            refine ⟨⟨k + 1, A' ++ y :: (nth ks k, (nth vs k)) :: B, by omega, by go_num, by have := HAB'.out; rw [this] at hL; simp at hL ⊢; omega, ?_, HT5.out, bel_drewN hB5 _⟩, by simp [intOf]; omega⟩
            have hci := canon_insert (A := A' ++ [y]) (B := B) hlt (by have := HAB'.out; simp only [List.append_assoc, List.cons_append, List.nil_append]; rw [← this]; exact HC.out) HX.out HB4.out (fun A'' y' e => by
              have := List.append_inj_right' e rfl
              simp at this
              subst this
              exact hless)
            simp only [List.append_assoc, List.cons_append, List.nil_append] at hci
            exact hci
      · have HV : Hid (nth vs k = ⟨#[]⟩) := by show _ = _; simp [nth, List.getElem?_eq_none (show vs.length ≤ k by omega)]; rfl
        clear h1
        go_wp2_with (first
          | (at_builtin; refine wpList_append_ss _ rfl _ _ rfl w.heap.size _ L.length _ rfl (T2.alloc _) _ _ ⟨#[]⟩ rfl (by exact cell_new _ _) (by omega) (by simp; have := hB2.size; omega) ?_; intro g2 cap2 w2 own2 gr2 wh2
             have hT2 := two_appended HT1.out own1 gr1 wh1 own2 gr2 wh2
             have hB3 : Below w.heap.size w w2 := (hB2.alloc hB2.size _).grown gr2 (by simp; have := hB2.size; omega) (fun j hj => (T2.lt j hj).1)
             clear own1 gr1 wh1 own2 gr2 wh2 T2 T1 hB2 HT1)
          | (at_builtin; refine wpList_append_ss _ rfl _ _ rfl w.heap.size _ L.length _ rfl (T1.alloc _) _ _ (nth ks k) rfl (by exact cell_new _ _) (by omega) (by simp; omega) ?_; intro g1 cap1 w1 own1 gr1 wh1
             have T2 := keep7 HT1.out gr1
             have hB2 : Below w.heap.size w w1 := (hB1.alloc hB1.size _).grown gr1 (by simp; omega) (fun j hj => (T1.lt j hj).1))
          | go_in)
        go_loopw [12, 13, 14] (fun p tk tv w3 => ∃ (A B : List (ByteArray × ByteArray)) (P : Nat), Hid (L = A ++ B) ∧ Hid (A.length = P) ∧ P ≤ L.length ∧ p = .int .i64 P ∧ Hid (∀ b ∈ B, lt (nth ks k) b.1 = true) ∧ Two w.heap.size w3 (.slice (some ⟨g1, 0, none⟩) (L.length + 1) cap1) (.slice (some ⟨g2, 0, none⟩) (L.length + 1) cap2) (A ++ (nth ks k, ⟨#[]⟩) :: B) ∧ Below w.heap.size w w3) (fun p _ _ _ => (intOf p).toNat)
        case atStart => exact ⟨L, [], L.length, (List.append_nil L).symm, rfl, Nat.le_refl _, by go_num, fun b hb => by simp at hb, hT2, hB3⟩
        obtain ⟨A, B, P, HAB, HP, hPL, rfl, HB4, hT4, hB5⟩ := hrel
        clear hT2 hB3
        have HT4 : Hid (Two w.heap.size wr (.slice (some ⟨g1, 0, none⟩) (L.length + 1) cap1) (.slice (some ⟨g2, 0, none⟩) (L.length + 1) cap2) (A ++ (nth ks k, ⟨#[]⟩) :: B)) := hT4
        clear hT4
        rcases List.eq_nil_or_concat A with rfl | ⟨A', y, rfl⟩
        · obtain rfl : P = 0 := HP.out.symm
          go_wp2
          go_quiet (fail)
          go_wp2
          refine ⟨⟨k + 1, (nth ks k, ⟨#[]⟩) :: B, by omega, by go_num, by have := HAB.out; simp at this; rw [this] at hL; simp; omega, ?_, HT4.out, bel_drewN hB5 _⟩, by simp [intOf]; omega⟩
          rw [← HV.out]; exact canon_insert (A := []) hlt (by rw [← HAB.out]; exact HC.out) HX.out HB4.out (fun A' y e => by simp at e)
        · obtain ⟨P, rfl⟩ : ∃ Q, P = Q + 1 := ⟨A'.length, by have := HP.out; simp at this; omega⟩
          have HP' : Hid (A'.length = P) := by have := HP.out; simp at this; exact this
          have HT5 : Hid (Two w.heap.size wr (.slice (some ⟨g1, 0, none⟩) (L.length + 1) cap1) (.slice (some ⟨g2, 0, none⟩) (L.length + 1) cap2) (A' ++ y :: (nth ks k, ⟨#[]⟩) :: B)) := by
            have := HT4.out
            simp only [List.concat_eq_append, List.append_assoc, List.cons_append, List.nil_append] at this
            exact this
          have HAB' : Hid (L = A' ++ y :: B) := by
            have := HAB.out
            simp only [List.concat_eq_append, List.append_assoc, List.cons_append, List.nil_append] at this
            exact this
          clear HT4 HP HAB
          obtain ⟨hg12, q1, q2, q3, q4, z1, z2, z3, z4⟩ := two_cells HT5.out HP'.out HAB'.out
          have hg21 : g2 ≠ g1 := Ne.symm hg12
          cases hless : Op.bytesLess (nth ks k).toList y.1.toList with
          | true =>
            go_wp2
            go_quiet (fail)
            go_wp2
            obtain ⟨sw, sb⟩ := two_swap (w := wr.drewN nq) HT5.out HP'.out HAB'.out
            exact ⟨⟨A', y :: B, P, HAB'.out, HP'.out, by omega, rfl, fun b hb => by
              rcases List.mem_cons.1 hb with e | e
              · rw [e]; exact hless
              · exact HB4.out b e, sw, (bel_drewN hB5 nq).trans (sb _ (Below.refl _ _) (Nat.le_refl _))⟩, by simp [intOf]⟩
          | false =>
            go_wp2
            go_quiet (fail)
            go_wp2
            refine ⟨⟨k + 1, A' ++ y :: (nth ks k, ⟨#[]⟩) :: B, by omega, by go_num, by have := HAB'.out; rw [this] at hL; simp at hL ⊢; omega, ?_, HT5.out, bel_drewN hB5 _⟩, by simp [intOf]; omega⟩
            have hci := canon_insert (A := A' ++ [y]) (B := B) hlt (by have := HAB'.out; simp only [List.append_assoc, List.cons_append, List.nil_append]; rw [← this]; exact HC.out) HX.out HB4.out (fun A'' y' e => by
              have := List.append_inj_right' e rfl
              simp at this
              subst this
              exact hless)
            simp only [List.append_assoc, List.cons_append, List.nil_append] at hci
            rw [← HV.out]; exact hci
  · obtain rfl : k = ks.length := by omega
    have HR : Hid (RetCanon ks vs w (.returned (.tuple #[u6, u7])) wr) := ⟨L, u6, u7, rfl, hC, hT, hL⟩
    clear h0 h1 hC hT
    go_wp2
    go_ret2
    exact ⟨HR.out, hB⟩
end Go.Proofs.Qxb6603597aMods
