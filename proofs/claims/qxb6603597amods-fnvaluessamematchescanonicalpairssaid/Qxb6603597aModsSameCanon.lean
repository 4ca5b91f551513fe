import Derived.Test.Qxb6603597aModsCanonW
namespace Go.Proofs.Qxb6603597aMods
open Go.ChangeShapes Go.WideShapes Go.ChangeAt Go.RowKit
set_option linter.unusedVariables false

def CellsAt (w : World) (a : Option Addr) (ss : List ByteArray) : Prop := ∀ k, k < ss.length → ∃ p, a = some p ∧ w.cell? (p.add k) = some (.string (nth ss k))

theorem CellsAt.below {w w' : World} {a : Option Addr} {ss : List ByteArray} (h : CellsAt w a ss) (hb : Below w.heap.size w w') : CellsAt w' a ss := by
  intro k hk
  obtain ⟨p, hp, hc⟩ := h k hk
  exact ⟨p, hp, (hb.cell (cell_lt hc)).trans hc⟩

theorem row_cells {base : Nat} {w : World} {v : Value} {ss : List ByteArray} (h : w.ownsRow base 9 1 v ss.length (ss.map Value.string)) : ∃ a c, v = .slice a ss.length c ∧ CellsAt w a ss := by
  rcases h.2 with ⟨rfl, h0⟩ | ⟨g, cap, cur, rfl, _⟩
  · exact ⟨none, 0, by rw [h0], fun k hk => by omega⟩
  · refine ⟨some ⟨g, 0, none⟩, cap, rfl, fun k hk => ⟨_, rfl, ?_⟩⟩
    exact h.cells rfl k _ (by simp [nth, hk])

theorem two_rows {base : Nat} {w : World} {v1 v2 : Value} {L : List (ByteArray × ByteArray)} (h : Two base w v1 v2 L) :
    ∃ a c a' c', v1 = .slice a L.length c ∧ v2 = .slice a' L.length c' ∧ CellsAt w a (L.map Prod.fst) ∧ CellsAt w a' (L.map Prod.snd) := by
  have h1 := h.1
  have h2 := h.2.1
  obtain ⟨a, c, e, r⟩ := row_cells (ss := L.map Prod.fst) (by simpa [Function.comp_def] using h1)
  obtain ⟨a', c', e', r'⟩ := row_cells (ss := L.map Prod.snd) (by simpa [Function.comp_def] using h2)
  exact ⟨a, c, a', c', by simpa using e, by simpa using e', r, r'⟩

theorem pairs_eq {L1 L2 : List (ByteArray × ByteArray)} (hl : L1.length = L2.length) (h : ∀ j, j < L1.length → nth (L1.map Prod.fst) j = nth (L2.map Prod.fst) j ∧ nth (L1.map Prod.snd) j = nth (L2.map Prod.snd) j) : L1 = L2 := by
  apply List.ext_getElem hl
  intro i h1 h2
  have := h i h1
  simp [nth, h1, h2] at this
  exact Prod.ext this.1 this.2

theorem beq_str {a b : ByteArray} (h : a ≠ b) : (a.toList == b.toList) = false := by
  simp only [beq_eq_false_iff_ne, ne_eq]
  exact fun e => h (toList_inj e)

set_option maxRecDepth 100000 in
set_option maxHeartbeats 2000000 in
theorem sameCanon_any (a0 a1 a2 a3 : Option Addr) (c0 c1 c2 c3 : Nat) (k1 v1 k2 v2 : List ByteArray) (w : World) (n0 : k1.length ≤ 4096) (n1 : v1.length ≤ 4096) (n2 : k2.length ≤ 4096) (n3 : v2.length ≤ 4096)
    (h0 : StrsAt w a0 k1) (h1 : StrsAt w a1 v1) (h2 : StrsAt w a2 k2) (h3 : StrsAt w a3 v2) :
    Calls Trym.prog 12 #[.slice a0 k1.length c0, .slice a1 v1.length c1, .slice a2 k2.length c2, .slice a3 v2.length c3] w fun e w' => RetSame (buildTo k1 v1 k1.length) (buildTo k2 v2 k2.length) e ∧ Below w.heap.size w w' := by
  go_enter Trym.func12, Trym.ntmps12
  go_wp2_with fail
  refine (canon_any a0 a1 c0 c1 k1 v1 _ n0 n1 h0 h1).mono ?_
  rintro e w1 ⟨⟨L1, x1, x2, rfl, hC1, hT1, hL1⟩, hB1⟩
  obtain ⟨p1, d1, p2, d2, rfl, rfl, r1, r2⟩ := two_rows hT1
  replace h2 := h2.below hB1
  replace h3 := h3.below hB1
  clear h0 h1 hT1
  have HC1 : Hid (CanonTo k1 v1 k1.length L1) := hC1
  clear hC1
  go_wp2_with fail
  refine (canon_any a2 a3 c2 c3 k2 v2 _ n2 n3 h2 h3).mono ?_
  rintro e w2 ⟨⟨L2, y1, y2, rfl, hC2, hT2, hL2⟩, hB2⟩
  obtain ⟨p3, d3, p4, d4, rfl, rfl, r3, r4⟩ := two_rows hT2
  replace r1 := r1.below hB2
  replace r2 := r2.below hB2
  have hB : Below w.heap.size w w2 := hB1.trans (hB2.mono hB1.size)
  have HL : Hid (SameD (buildTo k1 v1 k1.length) (buildTo k2 v2 k2.length) ↔ L1 = L2) := canon_law HC1.out hC2
  clear h2 h3 hT2 hC2 hB1 hB2 HC1
  by_cases hlen : L1.length = L2.length
  · have hq0 : ((L1.length : Int) == (L2.length : Int)) = true := by simp [hlen]
    have HLen : Hid (L1.length = L2.length) := hlen
    have l2 : L1.length ≤ L2.length := by omega
    clear hlen
    go_wp2
    go_loopw [13] (fun i wr => ∃ m q : Nat, m ≤ L1.length ∧ i = .int .i64 m ∧ Hid (∀ j, j < m → nth (L1.map Prod.fst) j = nth (L2.map Prod.fst) j ∧ nth (L1.map Prod.snd) j = nth (L2.map Prod.snd) j) ∧ wr = w2.drewN q) (fun i _ => L1.length - (intOf i).toNat)
    case atStart => exact ⟨0, 0, Nat.zero_le _, rfl, fun j hj => by omega, rfl⟩
    obtain ⟨m, q, hm, rfl, HJ, rfl⟩ := hrel
    by_cases hml : m < L1.length
    · obtain ⟨e1, rfl, s1⟩ := r1 m (by simpa using hml)
      obtain ⟨e2, rfl, s2⟩ := r2 m (by simpa using hml)
      obtain ⟨e3, rfl, s3⟩ := r3 m (by simp; omega)
      obtain ⟨e4, rfl, s4⟩ := r4 m (by simp; omega)
      have hml' : m < L2.length := by omega
      clear r1 r2 r3 r4
      have HN : Hid (L1 = L2 → nth (L1.map Prod.fst) m = nth (L2.map Prod.fst) m ∧ nth (L1.map Prod.snd) m = nth (L2.map Prod.snd) m) := fun e => by rw [e]; exact ⟨rfl, rfl⟩
      by_cases hk : nth (L1.map Prod.fst) m = nth (L2.map Prod.fst) m
      · have hq : ((nth (L1.map Prod.fst) m).toList == (nth (L2.map Prod.fst) m).toList) = true := by simp [hk]
        have HK : Hid (nth (L1.map Prod.fst) m = nth (L2.map Prod.fst) m) := hk
        clear hk
        by_cases hv : nth (L1.map Prod.snd) m = nth (L2.map Prod.snd) m
        · have hq2 : ((nth (L1.map Prod.snd) m).toList == (nth (L2.map Prod.snd) m).toList) = true := by simp [hv]
          have HV : Hid (nth (L1.map Prod.snd) m = nth (L2.map Prod.snd) m) := hv
          clear hv
          go_wp2
          go_quiet (fail)
          go_wp2
          refine ⟨⟨m + 1, _, by omega, by go_num, fun j hj => ?_, rfl⟩, by simp [intOf]; omega⟩
          by_cases e : j = m
          · subst e; exact ⟨HK.out, HV.out⟩
          · exact HJ.out j (by omega)
        · have hq2 := beq_str hv
          have HV : Hid (nth (L1.map Prod.snd) m ≠ nth (L2.map Prod.snd) m) := hv
          clear hv
          go_wp2
          go_quiet (fail)
          go_wp2
          go_ret
          exact ⟨ret_no rfl (fun h => HV.out (HN.out (HL.out.1 h)).2), bel_drewN (bel_drewN hB _) _⟩
      · have hq := beq_str hk
        have HK : Hid (nth (L1.map Prod.fst) m ≠ nth (L2.map Prod.fst) m) := hk
        clear hk
        go_wp2
        go_quiet (fail)
        go_wp2
        go_ret
        exact ⟨ret_no rfl (fun h => HK.out (HN.out (HL.out.1 h)).1), bel_drewN (bel_drewN hB _) _⟩
    · have HE : Hid (L1 = L2) := pairs_eq HLen.out (fun j hj => HJ.out j (by omega))
      clear r1 r2 r3 r4
      go_wp2
      go_ret
      exact ⟨ret_yes rfl (HL.out.2 HE.out), bel_drewN hB _⟩
  · have hq0 : ((L1.length : Int) == (L2.length : Int)) = false := by simp; omega
    have HLen : Hid (L1.length ≠ L2.length) := hlen
    clear hlen r1 r2 r3 r4
    go_wp2
    go_ret
    exact ⟨ret_no rfl (fun h => HLen.out (by rw [HL.out.1 h])), hB⟩
end Go.Proofs.Qxb6603597aMods
