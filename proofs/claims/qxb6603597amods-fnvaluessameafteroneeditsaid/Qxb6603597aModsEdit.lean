import Derived.Test.Qxb6603597aModsLast
namespace Go.Proofs.Qxb6603597aMods
open Go.ChangeShapes Go.WideShapes Go.ChangeAt Go.RowKit
set_option linter.unusedVariables false

theorem MapAt.shape {w : World} {v : Value} {D : DataW Unit} (h : MapAt w v D) : ∃ o, v = .map o := by
  rcases h with ⟨rfl, _⟩ | ⟨b, rfl, _⟩
  · exact ⟨_, rfl⟩
  · exact ⟨_, rfl⟩

theorem MapAt.ne {w : World} {o : Option Nat} {D : DataW Unit} (h : MapAt w (.map o) D) {q : Nat} (hq : w.heap.size ≤ q) : Value.map o ≠ .map (some q) := by
  intro e
  rcases h with ⟨h, _⟩ | ⟨b, h, hown⟩
  · rw [e] at h; cases h
  · rw [e] at h; cases h
    have := hown.lt
    omega

theorem MapAt.kept {w w' : World} {v : Value} {D : DataW Unit} {q : Nat} (h : MapAt w v D) (hg : w.grownBy w' (some q)) (hne : v ≠ .map (some q)) : MapAt w' v D := by
  rcases h with h | ⟨b, rfl, hown⟩
  · exact .inl h
  · exact .inr ⟨b, rfl, hown.kept hg (fun e => hne (by rw [Option.some.inj e]))⟩

theorem cell_grown {w w' : World} {q : Nat} (hg : w.grownBy w' (some q)) {p : Addr} {v : Value} (hp : p.block ≠ q) (h : w.cell? p = some v) : w'.cell? p = some v :=
  (World.cell?_of_block (w := w) (hg.block p.block (cell_lt h) (fun e => hp (Option.some.inj e)))).trans h

theorem World.ownsMap.below {w w' : World} {b n : Nat} {D : DataW Unit} (h : w.ownsMap Trym.prog 9 (plainElem Trym.prog 9) b n D) (hb : Below w.heap.size w w') : w'.ownsMap Trym.prog 9 (plainElem Trym.prog 9) b n D := by
  have hlt := h.lt
  obtain ⟨es, clock, he, r⟩ := h
  exact ⟨es, clock, (hb.block b hlt).trans he, r⟩

theorem Same_flag (m1 m2 m3 m4 : Value) (A1 A2 B1 B2 : DataW Unit) (w : World) (h1 : MapAt w m1 A1) (h2 : MapAt w m2 A2) (h3 : MapAt w m3 B1) (h4 : MapAt w m4 B2) (wt : Bool) (hw : (SameD A1 B1 ∧ SameD A2 B2) ↔ wt = true) :
    Calls Trym.prog 11 #[.agg #[m1, m2], .agg #[m3, m4]] w fun e w' => e = .returned (.bool wt) ∧ Below w.heap.size w w' := by
  refine (Same_any m1 m2 m3 m4 A1 A2 B1 B2 w h1 h2 h3 h4).mono ?_
  rintro e w' ⟨⟨r, rfl, hr⟩, hb⟩
  refine ⟨?_, hb⟩
  have : r = wt := by rw [Bool.eq_iff_iff]; exact hr.trans hw
  rw [this]

/-- Had the key that value already? -/
theorem edit_flag {D : DataW Unit} {k x old : ByteArray} {ok : Bool} (hhas : Maps.has D (KL k) = ok) (hat : ok = true → ∀ z, D.atKey (KL k) z = VD old) :
    (Maps.has D (KL k) = true ∧ ∀ z, D.atKey (KL k) z = VD x) ↔ (ok && (old.toList == x.toList)) = true := by
  cases ok with
  | false => simp [hhas]
  | true =>
    simp only [hhas, true_and, Bool.true_and, beq_iff_eq]
    constructor
    · intro h
      have := h (VD x)
      rw [hat rfl] at this
      rw [VD_inj this]
    · intro h z
      rw [hat rfl z, toList_inj h]

theorem build_true (a0 a1 : Option Addr) (c0 c1 : Nat) (ks vs : List ByteArray) (w : World) (hn : ks.length ≤ 4096) (hm : vs.length ≤ 4096) (h0 : StrsAt w a0 ks) (h1 : StrsAt w a1 vs) :
    Calls Trym.prog 10 #[.slice a0 ks.length c0, .slice a1 vs.length c1, .bool true] w fun e w' => ∃ q, e = .returned (.map (some q)) ∧ Hid (q = w.heap.size) ∧ w'.ownsMap Trym.prog 9 (plainElem Trym.prog 9) q 4096 (buildTo ks vs ks.length) ∧ Below w.heap.size w w' := by
  refine (build_any a0 a1 c0 c1 ks vs true w hn hm h0 h1).mono ?_
  rintro e w' ⟨v, rfl, _, hb, _, hf⟩
  obtain ⟨rfl, hown⟩ := hf rfl
  exact ⟨_, rfl, rfl, hown, hb⟩

set_option maxRecDepth 100000 in
set_option maxHeartbeats 4000000 in
theorem edit_walk (a0 a1 a2 a3 : Option Addr) (c0 c1 c2 c3 : Nat) (s0 s1 s2 s3 : List ByteArray) (k x : ByteArray) (f : Bool) (w : World)
    (n0 : s0.length ≤ 9223372036854775807) (n1 : s1.length ≤ 9223372036854775807) (n2 : s2.length ≤ 9223372036854775807) (n3 : s3.length ≤ 9223372036854775807) (nk : k.size ≤ 9223372036854775807) (nx : x.size ≤ 9223372036854775807)
    (h0 : StrsAt w a0 s0) (h1 : StrsAt w a1 s1) (h2 : StrsAt w a2 s2) (h3 : StrsAt w a3 s3) (e0 : a0 = none → c0 = 0) (e1 : a1 = none → c1 = 0) (e2 : a2 = none → c2 = 0) (e3 : a3 = none → c3 = 0) :
    Calls Trym.prog 4 #[.slice a0 s0.length c0, .slice a1 s1.length c1, .slice a2 s2.length c2, .slice a3 s3.length c3, .string k, .string x, .bool f] w fun e w' => e = .returned (.bool true) ∧ Below w.heap.size w w' := by
  have E0 : Hid (a0 = none → c0 = 0) := e0
  have E1 : Hid (a1 = none → c1 = 0) := e1
  have E2 : Hid (a2 = none → c2 = 0) := e2
  have E3 : Hid (a3 = none → c3 = 0) := e3
  clear e0 e1 e2 e3
  by_cases l0 : 4096 < s0.length
  · go_enter Trym.func4, Trym.ntmps4
    go_wp2_with fail
    refine (bytes13_any a0 a1 a2 a3 c0 c1 c2 c3 s0 s1 s2 s3 k x f _ n0 n1 n2 n3 nk nx h0 h1 h2 h3).mono ?_
    rintro e w' ⟨⟨r, rfl⟩, hw⟩
    subst w'
    cases r
    case false =>
      go_wp2
      go_ret
      exact ⟨rfl, Below.refl _ _⟩
    go_wp2
    go_ret
    exact ⟨rfl, Below.refl _ _⟩
  have l0' : s0.length ≤ 4096 := by omega
  clear l0
  by_cases l1 : 4096 < s1.length
  · go_enter Trym.func4, Trym.ntmps4
    go_wp2_with fail
    refine (bytes13_any a0 a1 a2 a3 c0 c1 c2 c3 s0 s1 s2 s3 k x f _ n0 n1 n2 n3 nk nx h0 h1 h2 h3).mono ?_
    rintro e w' ⟨⟨r, rfl⟩, hw⟩
    subst w'
    cases r
    case false =>
      go_wp2
      go_ret
      exact ⟨rfl, Below.refl _ _⟩
    go_wp2
    go_ret
    exact ⟨rfl, Below.refl _ _⟩
  have l1' : s1.length ≤ 4096 := by omega
  clear l1
  by_cases l2 : 4096 < s2.length
  · go_enter Trym.func4, Trym.ntmps4
    go_wp2_with fail
    refine (bytes13_any a0 a1 a2 a3 c0 c1 c2 c3 s0 s1 s2 s3 k x f _ n0 n1 n2 n3 nk nx h0 h1 h2 h3).mono ?_
    rintro e w' ⟨⟨r, rfl⟩, hw⟩
    subst w'
    cases r
    case false =>
      go_wp2
      go_ret
      exact ⟨rfl, Below.refl _ _⟩
    go_wp2
    go_ret
    exact ⟨rfl, Below.refl _ _⟩
  have l2' : s2.length ≤ 4096 := by omega
  clear l2
  by_cases l3 : 4096 < s3.length
  · go_enter Trym.func4, Trym.ntmps4
    go_wp2_with fail
    refine (bytes13_any a0 a1 a2 a3 c0 c1 c2 c3 s0 s1 s2 s3 k x f _ n0 n1 n2 n3 nk nx h0 h1 h2 h3).mono ?_
    rintro e w' ⟨⟨r, rfl⟩, hw⟩
    subst w'
    cases r
    case false =>
      go_wp2
      go_ret
      exact ⟨rfl, Below.refl _ _⟩
    go_wp2
    go_ret
    exact ⟨rfl, Below.refl _ _⟩
  have l3' : s3.length ≤ 4096 := by omega
  clear l3
  by_cases lk : 1048576 < k.size
  · go_enter Trym.func4, Trym.ntmps4
    go_wp2_with fail
    refine (bytes13_any a0 a1 a2 a3 c0 c1 c2 c3 s0 s1 s2 s3 k x f _ n0 n1 n2 n3 nk nx h0 h1 h2 h3).mono ?_
    rintro e w' ⟨⟨r, rfl⟩, hw⟩
    subst w'
    cases r
    case false =>
      go_wp2
      go_ret
      exact ⟨rfl, Below.refl _ _⟩
    go_wp2
    go_ret
    exact ⟨rfl, Below.refl _ _⟩
  have lk' : k.size ≤ 1048576 := by omega
  clear lk
  by_cases lx : 1048576 < x.size
  · go_enter Trym.func4, Trym.ntmps4
    go_wp2_with fail
    refine (bytes13_any a0 a1 a2 a3 c0 c1 c2 c3 s0 s1 s2 s3 k x f _ n0 n1 n2 n3 nk nx h0 h1 h2 h3).mono ?_
    rintro e w' ⟨⟨r, rfl⟩, hw⟩
    subst w'
    cases r
    case false =>
      go_wp2
      go_ret
      exact ⟨rfl, Below.refl _ _⟩
    go_wp2
    go_ret
    exact ⟨rfl, Below.refl _ _⟩
  have lx' : x.size ≤ 1048576 := by omega
  clear lx
  go_enter Trym.func4, Trym.ntmps4
  go_wp2_with fail
  refine (bytes13_any a0 a1 a2 a3 c0 c1 c2 c3 s0 s1 s2 s3 k x f _ n0 n1 n2 n3 nk nx h0 h1 h2 h3).mono ?_
  rintro e w' ⟨⟨r, rfl⟩, hw⟩
  subst w'
  cases r
  case false =>
    go_wp2
    go_ret
    exact ⟨rfl, Below.refl _ _⟩
  go_wp2_with fail
  refine (addBytes_any _ a0 c0 s0 _ l0' h0).mono ?_
  rintro e w' ⟨⟨t0, rfl⟩, hw⟩
  subst w'
  go_wp2_with fail
  refine (addBytes_any _ a1 c1 s1 _ l1' h1).mono ?_
  rintro e w' ⟨⟨t1, rfl⟩, hw⟩
  subst w'
  go_wp2_with fail
  refine (addBytes_any _ a2 c2 s2 _ l2' h2).mono ?_
  rintro e w' ⟨⟨t2, rfl⟩, hw⟩
  subst w'
  go_wp2_with fail
  refine (addBytes_any _ a3 c3 s3 _ l3' h3).mono ?_
  rintro e w' ⟨⟨t3, rfl⟩, hw⟩
  subst w'
  by_cases lt : 1048576 < t3
  · go_wp2
    go_ret
    exact ⟨rfl, Below.refl _ _⟩
  go_wp2_with fail
  refine (clone_any a0 c0 s0 _ l0' h0 E0.out).mono ?_
  rintro e w0 ⟨b0, rfl, k0, i0, B0⟩
  replace h1 := h1.below B0
  replace h2 := h2.below B0
  replace h3 := h3.below B0
  have BB := B0
  clear h0 B0 i0
  go_wp2_with fail
  refine (clone_any a1 c1 s1 _ l1' h1 E1.out).mono ?_
  rintro e w1 ⟨b1, rfl, k1, i1, B1⟩
  replace k0 := k0.below B1
  replace h2 := h2.below B1
  replace h3 := h3.below B1
  replace BB := BB.trans (B1.mono BB.size)
  clear h1 B1 i1
  go_wp2_with fail
  refine (clone_any a2 c2 s2 _ l2' h2 E2.out).mono ?_
  rintro e w2 ⟨b2, rfl, k2, i2, B2⟩
  replace k0 := k0.below B2
  replace k1 := k1.below B2
  replace h3 := h3.below B2
  replace BB := BB.trans (B2.mono BB.size)
  clear h2 B2 i2
  go_wp2_with fail
  refine (clone_any a3 c3 s3 _ l3' h3 E3.out).mono ?_
  rintro e w3 ⟨b3, rfl, k3, i3, B3⟩
  replace k0 := k0.below B3
  replace k1 := k1.below B3
  replace k2 := k2.below B3
  replace BB := BB.trans (B3.mono BB.size)
  clear h3 B3 i3
  go_wp2_with fail
  refine (build_any b0 b1 _ _ s0 s1 false _ l0' l1' k0 k1).mono ?_
  rintro e w4 ⟨m1, rfl, M1, B4, -, -⟩
  obtain ⟨o1, rfl⟩ := M1.shape
  replace k0 := k0.below B4
  replace k1 := k1.below B4
  replace k2 := k2.below B4
  replace k3 := k3.below B4
  replace BB := BB.trans (B4.mono BB.size)
  clear B4
  go_wp2_with fail
  refine (build_any b2 b3 _ _ s2 s3 false _ l2' l3' k2 k3).mono ?_
  rintro e w5 ⟨m2, rfl, M2, B5, -, -⟩
  obtain ⟨o2, rfl⟩ := M2.shape
  replace k0 := k0.below B5
  replace k1 := k1.below B5
  replace k2 := k2.below B5
  replace k3 := k3.below B5
  replace M1 := M1.below B5
  replace BB := BB.trans (B5.mono BB.size)
  clear B5
  have LB : Hid (w.heap.size ≤ w5.heap.size) := BB.size
  have B6 : Below w5.heap.size w5 (w5.alloc (.cells #[.map o1, .map o2] 29)) := (Below.refl _ _).alloc (Nat.le_refl _) _
  have C1 : (w5.alloc (.cells #[.map o1, .map o2] 29)).cell? ⟨w5.heap.size, 0, none⟩ = some (.map o1) := by go_simp
  have C2 : (w5.alloc (.cells #[.map o1, .map o2] 29)).cell? ⟨w5.heap.size, 1, none⟩ = some (.map o2) := by go_simp
  have L5 : Hid ((w5.alloc (.cells #[.map o1, .map o2] 29)).heap.size = w5.heap.size + 1) := by show _ = _; simp
  go_wp2_with fail
  replace k0 := k0.below B6
  replace k1 := k1.below B6
  replace k2 := k2.below B6
  replace k3 := k3.below B6
  refine (build_true b0 b1 _ _ s0 s1 _ l0' l1' k0 k1).mono ?_
  rintro e w6 ⟨q3, rfl, Q3, O3, B7⟩
  replace k0 := k0.below B7
  replace k1 := k1.below B7
  replace k2 := k2.below B7
  replace k3 := k3.below B7
  go_wp2_with fail
  refine (build_true b2 b3 _ _ s2 s3 _ l2' l3' k2 k3).mono ?_
  rintro e w7 ⟨q4, rfl, Q4, O4, B8⟩
  have Lq : Hid (w5.heap.size < q3 ∧ q3 < q4 ∧ q4 < w7.heap.size) := by
    have a1 := Q3.out; have a2 := Q4.out; have a3 := L5.out; have a4 := B7.size; have a5 := O4.lt; have a6 := O3.lt
    exact ⟨by omega, by omega, a5⟩
  have BX : Below w5.heap.size w5 w7 := (B6.trans (B7.mono (by have := L5.out; omega))).trans (B8.mono (by have a3 := L5.out; have := B7.size; omega))
  have N1 : Hid (Value.map o1 ≠ .map (some q3) ∧ Value.map o1 ≠ .map (some q4)) := by
    have := Lq.out
    exact ⟨M1.ne (by omega), M1.ne (by omega)⟩
  have N2 : Hid (Value.map o2 ≠ .map (some q3) ∧ Value.map o2 ≠ .map (some q4)) := by
    have := Lq.out
    exact ⟨M2.ne (by omega), M2.ne (by omega)⟩
  replace k0 := k0.below B8
  replace k1 := k1.below B8
  replace k2 := k2.below B8
  replace k3 := k3.below B8
  replace M1 := M1.below BX
  replace M2 := M2.below BX
  replace O3 := World.ownsMap.below O3 B8
  replace BB := BB.trans (BX.mono BB.size)
  replace C1 := ((B7.cell (by simp)).trans C1)
  replace C1 := ((B8.cell (by have := cell_lt C1; exact this)).trans C1)
  replace C2 := ((B7.cell (by simp)).trans C2)
  replace C2 := ((B8.cell (by have := cell_lt C2; exact this)).trans C2)
  clear B6 B7 B8 BX
  cases f with
  | true =>
    go_wp2_with fail
    refine (last_any b2 b3 _ _ s2 s3 k _ l2' l3' (k2.below ((Below.refl _ _).alloc (Nat.le_refl _) _)) (k3.below ((Below.refl _ _).alloc (Nat.le_refl _) _))).mono ?_
    rintro e w' ⟨⟨old, ok, rfl, hhas, hat⟩, hw⟩
    subst w'
    have HF := edit_flag (x := x) hhas hat
    have H1 : Hid (SameD (buildTo s2 s3 s2.length) ((buildTo s2 s3 s2.length).put (KL k) (VD x)) ↔ (ok && (old.toList == x.toList)) = true) := (same_put (build_tidy _ _ _) k x).trans HF
    have H2 : Hid (SameD ((buildTo s2 s3 s2.length).put (KL k) (VD x)) (buildTo s2 s3 s2.length) ↔ (ok && (old.toList == x.toList)) = true) := (put_same (build_tidy _ _ _) k x).trans HF
    clear hhas hat HF
    have hcase : (ok = false) ∨ (ok = true ∧ (old.toList == x.toList) = true) ∨ (ok = true ∧ (old.toList == x.toList) = false) := by
      cases ok <;> cases (old.toList == x.toList) <;> simp
    have BA : Below w7.heap.size w7 (w7.alloc (.cells #[.map (some q3), .map (some q4)] 29)) := (Below.refl _ _).alloc (Nat.le_refl _) _
    have LW : Hid ((w7.alloc (.cells #[.map (some q3), .map (some q4)] 29)).heap.size = w7.heap.size + 1) := by show _ = _; simp
    replace M1 := M1.below BA
    replace M2 := M2.below BA
    replace O3 := World.ownsMap.below O3 BA
    replace O4 := World.ownsMap.below O4 BA
    replace BB := BB.trans (BA.mono BB.size)
    replace C1 := (BA.cell (by have := cell_lt C1; exact this)).trans C1
    replace C2 := (BA.cell (by have := cell_lt C2; exact this)).trans C2
    have C3 : (w7.alloc (.cells #[.map (some q3), .map (some q4)] 29)).cell? ⟨w7.heap.size, 0, none⟩ = some (.map (some q3)) := by go_simp
    have C4 : (w7.alloc (.cells #[.map (some q3), .map (some q4)] 29)).cell? ⟨w7.heap.size, 1, none⟩ = some (.map (some q4)) := by go_simp
    clear BA k0 k1 k2 k3
    rcases hcase with rfl | ⟨rfl, hq⟩ | ⟨rfl, hq⟩
    · go_wp2_with (first
        | (at_mapUpdate; refine wpList_mapUpdate_own _ rfl _ _ _ 26 rfl 9 9 law9 Trym.underlying26 _ q4 4096 _ rfl O4 (by unfold maxLen; omega) _ _ _ rfl rfl (key9 nk) _ [] (val9 nx) ?_; intro w8 OX G8
           have D1 := cell_grown G8 (by show w5.heap.size ≠ q4; have := Lq.out; omega) C1
           have D2 := cell_grown G8 (by show w5.heap.size ≠ q4; have := Lq.out; omega) C2
           have D3 := cell_grown G8 (by show w7.heap.size ≠ q4; have := Lq.out; omega) C3
           have D4 := cell_grown G8 (by show w7.heap.size ≠ q4; have := Lq.out; omega) C4
           clear C1 C2 C3 C4)
        | fail)
      have P1 := M1.kept G8 N1.out.2
      have P2 := M2.kept G8 N2.out.2
      have P3 : MapAt w8 (.map (some q3)) (buildTo s0 s1 s0.length) := .inr ⟨q3, rfl, (O3.kept G8 (fun e => by have := Option.some.inj e; have := Lq.out; omega)).mono (by omega)⟩
      have P4 : MapAt w8 (.map (some q4)) ((buildTo s2 s3 s2.length).put (KL k) (VD x)) := .inr ⟨q4, rfl, OX.mono (by omega)⟩
      replace BB := BB.grown G8 BB.size (fun j hj => by cases hj; have := Lq.out; have := LB.out; omega)
      clear M1 M2 O3 O4 OX G8
      refine (Same_flag _ _ _ _ _ _ _ _ _ P1 P2 P3 P4 false ((and_iff_right (same_refl _)).trans H1.out)).mono ?_
      rintro e w9 ⟨rfl, B9⟩
      replace P1 := P1.below B9
      replace P2 := P2.below B9
      replace P3 := P3.below B9
      replace P4 := P4.below B9
      replace D1 := (B9.cell (by have := cell_lt D1; exact this)).trans D1
      replace D2 := (B9.cell (by have := cell_lt D2; exact this)).trans D2
      replace D3 := (B9.cell (by have := cell_lt D3; exact this)).trans D3
      replace D4 := (B9.cell (by have := cell_lt D4; exact this)).trans D4
      replace BB := BB.trans (B9.mono BB.size)
      clear B9
      go_wp2_with fail
      refine (Same_flag _ _ _ _ _ _ _ _ _ P3 P4 P1 P2 false ((and_iff_right (same_refl _)).trans H2.out)).mono ?_
      rintro e w10 ⟨rfl, B9⟩
      replace P1 := P1.below B9
      replace P2 := P2.below B9
      replace P3 := P3.below B9
      replace P4 := P4.below B9
      replace D1 := (B9.cell (by have := cell_lt D1; exact this)).trans D1
      replace D2 := (B9.cell (by have := cell_lt D2; exact this)).trans D2
      replace D3 := (B9.cell (by have := cell_lt D3; exact this)).trans D3
      replace D4 := (B9.cell (by have := cell_lt D4; exact this)).trans D4
      replace BB := BB.trans (B9.mono BB.size)
      clear B9
      go_wp2_with fail
      refine (Same_flag _ _ _ _ _ _ _ _ _ P1 P2 P1 P2 true ⟨fun _ => rfl, fun _ => ⟨same_refl _, same_refl _⟩⟩).mono ?_
      rintro e w11 ⟨rfl, B9⟩
      replace P1 := P1.below B9
      replace P2 := P2.below B9
      replace P3 := P3.below B9
      replace P4 := P4.below B9
      replace D1 := (B9.cell (by have := cell_lt D1; exact this)).trans D1
      replace D2 := (B9.cell (by have := cell_lt D2; exact this)).trans D2
      replace D3 := (B9.cell (by have := cell_lt D3; exact this)).trans D3
      replace D4 := (B9.cell (by have := cell_lt D4; exact this)).trans D4
      replace BB := BB.trans (B9.mono BB.size)
      clear B9
      go_wp2_with fail
      refine (Same_flag _ _ _ _ _ _ _ _ _ P3 P4 P3 P4 true ⟨fun _ => rfl, fun _ => ⟨same_refl _, same_refl _⟩⟩).mono ?_
      rintro e w12 ⟨rfl, B9⟩
      replace P1 := P1.below B9
      replace P2 := P2.below B9
      replace P3 := P3.below B9
      replace P4 := P4.below B9
      replace D1 := (B9.cell (by have := cell_lt D1; exact this)).trans D1
      replace D2 := (B9.cell (by have := cell_lt D2; exact this)).trans D2
      replace D3 := (B9.cell (by have := cell_lt D3; exact this)).trans D3
      replace D4 := (B9.cell (by have := cell_lt D4; exact this)).trans D4
      replace BB := BB.trans (B9.mono BB.size)
      clear B9
      go_wp2
      go_ret
      exact ⟨rfl, BB⟩
    · rw [hq] at H1 H2
      go_wp2_with (first
        | (at_mapUpdate; refine wpList_mapUpdate_own _ rfl _ _ _ 26 rfl 9 9 law9 Trym.underlying26 _ q4 4096 _ rfl O4 (by unfold maxLen; omega) _ _ _ rfl rfl (key9 nk) _ [] (val9 nx) ?_; intro w8 OX G8
           have D1 := cell_grown G8 (by show w5.heap.size ≠ q4; have := Lq.out; omega) C1
           have D2 := cell_grown G8 (by show w5.heap.size ≠ q4; have := Lq.out; omega) C2
           have D3 := cell_grown G8 (by show w7.heap.size ≠ q4; have := Lq.out; omega) C3
           have D4 := cell_grown G8 (by show w7.heap.size ≠ q4; have := Lq.out; omega) C4
           clear C1 C2 C3 C4)
        | fail)
      have P1 := M1.kept G8 N1.out.2
      have P2 := M2.kept G8 N2.out.2
      have P3 : MapAt w8 (.map (some q3)) (buildTo s0 s1 s0.length) := .inr ⟨q3, rfl, (O3.kept G8 (fun e => by have := Option.some.inj e; have := Lq.out; omega)).mono (by omega)⟩
      have P4 : MapAt w8 (.map (some q4)) ((buildTo s2 s3 s2.length).put (KL k) (VD x)) := .inr ⟨q4, rfl, OX.mono (by omega)⟩
      replace BB := BB.grown G8 BB.size (fun j hj => by cases hj; have := Lq.out; have := LB.out; omega)
      clear M1 M2 O3 O4 OX G8
      refine (Same_flag _ _ _ _ _ _ _ _ _ P1 P2 P3 P4 true ((and_iff_right (same_refl _)).trans H1.out)).mono ?_
      rintro e w9 ⟨rfl, B9⟩
      replace P1 := P1.below B9
      replace P2 := P2.below B9
      replace P3 := P3.below B9
      replace P4 := P4.below B9
      replace D1 := (B9.cell (by have := cell_lt D1; exact this)).trans D1
      replace D2 := (B9.cell (by have := cell_lt D2; exact this)).trans D2
      replace D3 := (B9.cell (by have := cell_lt D3; exact this)).trans D3
      replace D4 := (B9.cell (by have := cell_lt D4; exact this)).trans D4
      replace BB := BB.trans (B9.mono BB.size)
      clear B9
      go_wp2_with fail
      refine (Same_flag _ _ _ _ _ _ _ _ _ P3 P4 P1 P2 true ((and_iff_right (same_refl _)).trans H2.out)).mono ?_
      rintro e w10 ⟨rfl, B9⟩
      replace P1 := P1.below B9
      replace P2 := P2.below B9
      replace P3 := P3.below B9
      replace P4 := P4.below B9
      replace D1 := (B9.cell (by have := cell_lt D1; exact this)).trans D1
      replace D2 := (B9.cell (by have := cell_lt D2; exact this)).trans D2
      replace D3 := (B9.cell (by have := cell_lt D3; exact this)).trans D3
      replace D4 := (B9.cell (by have := cell_lt D4; exact this)).trans D4
      replace BB := BB.trans (B9.mono BB.size)
      clear B9
      go_wp2_with fail
      refine (Same_flag _ _ _ _ _ _ _ _ _ P1 P2 P1 P2 true ⟨fun _ => rfl, fun _ => ⟨same_refl _, same_refl _⟩⟩).mono ?_
      rintro e w11 ⟨rfl, B9⟩
      replace P1 := P1.below B9
      replace P2 := P2.below B9
      replace P3 := P3.below B9
      replace P4 := P4.below B9
      replace D1 := (B9.cell (by have := cell_lt D1; exact this)).trans D1
      replace D2 := (B9.cell (by have := cell_lt D2; exact this)).trans D2
      replace D3 := (B9.cell (by have := cell_lt D3; exact this)).trans D3
      replace D4 := (B9.cell (by have := cell_lt D4; exact this)).trans D4
      replace BB := BB.trans (B9.mono BB.size)
      clear B9
      go_wp2_with fail
      refine (Same_flag _ _ _ _ _ _ _ _ _ P3 P4 P3 P4 true ⟨fun _ => rfl, fun _ => ⟨same_refl _, same_refl _⟩⟩).mono ?_
      rintro e w12 ⟨rfl, B9⟩
      replace P1 := P1.below B9
      replace P2 := P2.below B9
      replace P3 := P3.below B9
      replace P4 := P4.below B9
      replace D1 := (B9.cell (by have := cell_lt D1; exact this)).trans D1
      replace D2 := (B9.cell (by have := cell_lt D2; exact this)).trans D2
      replace D3 := (B9.cell (by have := cell_lt D3; exact this)).trans D3
      replace D4 := (B9.cell (by have := cell_lt D4; exact this)).trans D4
      replace BB := BB.trans (B9.mono BB.size)
      clear B9
      go_wp2
      go_ret
      exact ⟨rfl, BB⟩
    · rw [hq] at H1 H2
      go_wp2_with (first
        | (at_mapUpdate; refine wpList_mapUpdate_own _ rfl _ _ _ 26 rfl 9 9 law9 Trym.underlying26 _ q4 4096 _ rfl O4 (by unfold maxLen; omega) _ _ _ rfl rfl (key9 nk) _ [] (val9 nx) ?_; intro w8 OX G8
           have D1 := cell_grown G8 (by show w5.heap.size ≠ q4; have := Lq.out; omega) C1
           have D2 := cell_grown G8 (by show w5.heap.size ≠ q4; have := Lq.out; omega) C2
           have D3 := cell_grown G8 (by show w7.heap.size ≠ q4; have := Lq.out; omega) C3
           have D4 := cell_grown G8 (by show w7.heap.size ≠ q4; have := Lq.out; omega) C4
           clear C1 C2 C3 C4)
        | fail)
      have P1 := M1.kept G8 N1.out.2
      have P2 := M2.kept G8 N2.out.2
      have P3 : MapAt w8 (.map (some q3)) (buildTo s0 s1 s0.length) := .inr ⟨q3, rfl, (O3.kept G8 (fun e => by have := Option.some.inj e; have := Lq.out; omega)).mono (by omega)⟩
      have P4 : MapAt w8 (.map (some q4)) ((buildTo s2 s3 s2.length).put (KL k) (VD x)) := .inr ⟨q4, rfl, OX.mono (by omega)⟩
      replace BB := BB.grown G8 BB.size (fun j hj => by cases hj; have := Lq.out; have := LB.out; omega)
      clear M1 M2 O3 O4 OX G8
      refine (Same_flag _ _ _ _ _ _ _ _ _ P1 P2 P3 P4 false ((and_iff_right (same_refl _)).trans H1.out)).mono ?_
      rintro e w9 ⟨rfl, B9⟩
      replace P1 := P1.below B9
      replace P2 := P2.below B9
      replace P3 := P3.below B9
      replace P4 := P4.below B9
      replace D1 := (B9.cell (by have := cell_lt D1; exact this)).trans D1
      replace D2 := (B9.cell (by have := cell_lt D2; exact this)).trans D2
      replace D3 := (B9.cell (by have := cell_lt D3; exact this)).trans D3
      replace D4 := (B9.cell (by have := cell_lt D4; exact this)).trans D4
      replace BB := BB.trans (B9.mono BB.size)
      clear B9
      go_wp2_with fail
      refine (Same_flag _ _ _ _ _ _ _ _ _ P3 P4 P1 P2 false ((and_iff_right (same_refl _)).trans H2.out)).mono ?_
      rintro e w10 ⟨rfl, B9⟩
      replace P1 := P1.below B9
      replace P2 := P2.below B9
      replace P3 := P3.below B9
      replace P4 := P4.below B9
      replace D1 := (B9.cell (by have := cell_lt D1; exact this)).trans D1
      replace D2 := (B9.cell (by have := cell_lt D2; exact this)).trans D2
      replace D3 := (B9.cell (by have := cell_lt D3; exact this)).trans D3
      replace D4 := (B9.cell (by have := cell_lt D4; exact this)).trans D4
      replace BB := BB.trans (B9.mono BB.size)
      clear B9
      go_wp2_with fail
      refine (Same_flag _ _ _ _ _ _ _ _ _ P1 P2 P1 P2 true ⟨fun _ => rfl, fun _ => ⟨same_refl _, same_refl _⟩⟩).mono ?_
      rintro e w11 ⟨rfl, B9⟩
      replace P1 := P1.below B9
      replace P2 := P2.below B9
      replace P3 := P3.below B9
      replace P4 := P4.below B9
      replace D1 := (B9.cell (by have := cell_lt D1; exact this)).trans D1
      replace D2 := (B9.cell (by have := cell_lt D2; exact this)).trans D2
      replace D3 := (B9.cell (by have := cell_lt D3; exact this)).trans D3
      replace D4 := (B9.cell (by have := cell_lt D4; exact this)).trans D4
      replace BB := BB.trans (B9.mono BB.size)
      clear B9
      go_wp2_with fail
      refine (Same_flag _ _ _ _ _ _ _ _ _ P3 P4 P3 P4 true ⟨fun _ => rfl, fun _ => ⟨same_refl _, same_refl _⟩⟩).mono ?_
      rintro e w12 ⟨rfl, B9⟩
      replace P1 := P1.below B9
      replace P2 := P2.below B9
      replace P3 := P3.below B9
      replace P4 := P4.below B9
      replace D1 := (B9.cell (by have := cell_lt D1; exact this)).trans D1
      replace D2 := (B9.cell (by have := cell_lt D2; exact this)).trans D2
      replace D3 := (B9.cell (by have := cell_lt D3; exact this)).trans D3
      replace D4 := (B9.cell (by have := cell_lt D4; exact this)).trans D4
      replace BB := BB.trans (B9.mono BB.size)
      clear B9
      go_wp2
      go_ret
      exact ⟨rfl, BB⟩
  | false =>
    go_wp2_with fail
    refine (last_any b0 b1 _ _ s0 s1 k _ l0' l1' (k0.below ((Below.refl _ _).alloc (Nat.le_refl _) _)) (k1.below ((Below.refl _ _).alloc (Nat.le_refl _) _))).mono ?_
    rintro e w' ⟨⟨old, ok, rfl, hhas, hat⟩, hw⟩
    subst w'
    have HF := edit_flag (x := x) hhas hat
    have H1 : Hid (SameD (buildTo s0 s1 s0.length) ((buildTo s0 s1 s0.length).put (KL k) (VD x)) ↔ (ok && (old.toList == x.toList)) = true) := (same_put (build_tidy _ _ _) k x).trans HF
    have H2 : Hid (SameD ((buildTo s0 s1 s0.length).put (KL k) (VD x)) (buildTo s0 s1 s0.length) ↔ (ok && (old.toList == x.toList)) = true) := (put_same (build_tidy _ _ _) k x).trans HF
    clear hhas hat HF
    have hcase : (ok = false) ∨ (ok = true ∧ (old.toList == x.toList) = true) ∨ (ok = true ∧ (old.toList == x.toList) = false) := by
      cases ok <;> cases (old.toList == x.toList) <;> simp
    have BA : Below w7.heap.size w7 (w7.alloc (.cells #[.map (some q3), .map (some q4)] 29)) := (Below.refl _ _).alloc (Nat.le_refl _) _
    have LW : Hid ((w7.alloc (.cells #[.map (some q3), .map (some q4)] 29)).heap.size = w7.heap.size + 1) := by show _ = _; simp
    replace M1 := M1.below BA
    replace M2 := M2.below BA
    replace O3 := World.ownsMap.below O3 BA
    replace O4 := World.ownsMap.below O4 BA
    replace BB := BB.trans (BA.mono BB.size)
    replace C1 := (BA.cell (by have := cell_lt C1; exact this)).trans C1
    replace C2 := (BA.cell (by have := cell_lt C2; exact this)).trans C2
    have C3 : (w7.alloc (.cells #[.map (some q3), .map (some q4)] 29)).cell? ⟨w7.heap.size, 0, none⟩ = some (.map (some q3)) := by go_simp
    have C4 : (w7.alloc (.cells #[.map (some q3), .map (some q4)] 29)).cell? ⟨w7.heap.size, 1, none⟩ = some (.map (some q4)) := by go_simp
    clear BA k0 k1 k2 k3
    rcases hcase with rfl | ⟨rfl, hq⟩ | ⟨rfl, hq⟩
    · go_wp2_with (first
        | (at_mapUpdate; refine wpList_mapUpdate_own _ rfl _ _ _ 26 rfl 9 9 law9 Trym.underlying26 _ q3 4096 _ rfl O3 (by unfold maxLen; omega) _ _ _ rfl rfl (key9 nk) _ [] (val9 nx) ?_; intro w8 OX G8
           have D1 := cell_grown G8 (by show w5.heap.size ≠ q3; have := Lq.out; omega) C1
           have D2 := cell_grown G8 (by show w5.heap.size ≠ q3; have := Lq.out; omega) C2
           have D3 := cell_grown G8 (by show w7.heap.size ≠ q3; have := Lq.out; omega) C3
           have D4 := cell_grown G8 (by show w7.heap.size ≠ q3; have := Lq.out; omega) C4
           clear C1 C2 C3 C4)
        | fail)
      have P1 := M1.kept G8 N1.out.1
      have P2 := M2.kept G8 N2.out.1
      have P3 : MapAt w8 (.map (some q3)) ((buildTo s0 s1 s0.length).put (KL k) (VD x)) := .inr ⟨q3, rfl, OX.mono (by omega)⟩
      have P4 : MapAt w8 (.map (some q4)) (buildTo s2 s3 s2.length) := .inr ⟨q4, rfl, (O4.kept G8 (fun e => by have := Option.some.inj e; have := Lq.out; omega)).mono (by omega)⟩
      replace BB := BB.grown G8 BB.size (fun j hj => by cases hj; have := Lq.out; have := LB.out; omega)
      clear M1 M2 O3 O4 OX G8
      refine (Same_flag _ _ _ _ _ _ _ _ _ P1 P2 P3 P4 false ((and_iff_left (same_refl _)).trans H1.out)).mono ?_
      rintro e w9 ⟨rfl, B9⟩
      replace P1 := P1.below B9
      replace P2 := P2.below B9
      replace P3 := P3.below B9
      replace P4 := P4.below B9
      replace D1 := (B9.cell (by have := cell_lt D1; exact this)).trans D1
      replace D2 := (B9.cell (by have := cell_lt D2; exact this)).trans D2
      replace D3 := (B9.cell (by have := cell_lt D3; exact this)).trans D3
      replace D4 := (B9.cell (by have := cell_lt D4; exact this)).trans D4
      replace BB := BB.trans (B9.mono BB.size)
      clear B9
      go_wp2_with fail
      refine (Same_flag _ _ _ _ _ _ _ _ _ P3 P4 P1 P2 false ((and_iff_left (same_refl _)).trans H2.out)).mono ?_
      rintro e w10 ⟨rfl, B9⟩
      replace P1 := P1.below B9
      replace P2 := P2.below B9
      replace P3 := P3.below B9
      replace P4 := P4.below B9
      replace D1 := (B9.cell (by have := cell_lt D1; exact this)).trans D1
      replace D2 := (B9.cell (by have := cell_lt D2; exact this)).trans D2
      replace D3 := (B9.cell (by have := cell_lt D3; exact this)).trans D3
      replace D4 := (B9.cell (by have := cell_lt D4; exact this)).trans D4
      replace BB := BB.trans (B9.mono BB.size)
      clear B9
      go_wp2_with fail
      refine (Same_flag _ _ _ _ _ _ _ _ _ P1 P2 P1 P2 true ⟨fun _ => rfl, fun _ => ⟨same_refl _, same_refl _⟩⟩).mono ?_
      rintro e w11 ⟨rfl, B9⟩
      replace P1 := P1.below B9
      replace P2 := P2.below B9
      replace P3 := P3.below B9
      replace P4 := P4.below B9
      replace D1 := (B9.cell (by have := cell_lt D1; exact this)).trans D1
      replace D2 := (B9.cell (by have := cell_lt D2; exact this)).trans D2
      replace D3 := (B9.cell (by have := cell_lt D3; exact this)).trans D3
      replace D4 := (B9.cell (by have := cell_lt D4; exact this)).trans D4
      replace BB := BB.trans (B9.mono BB.size)
      clear B9
      go_wp2_with fail
      refine (Same_flag _ _ _ _ _ _ _ _ _ P3 P4 P3 P4 true ⟨fun _ => rfl, fun _ => ⟨same_refl _, same_refl _⟩⟩).mono ?_
      rintro e w12 ⟨rfl, B9⟩
      replace P1 := P1.below B9
      replace P2 := P2.below B9
      replace P3 := P3.below B9
      replace P4 := P4.below B9
      replace D1 := (B9.cell (by have := cell_lt D1; exact this)).trans D1
      replace D2 := (B9.cell (by have := cell_lt D2; exact this)).trans D2
      replace D3 := (B9.cell (by have := cell_lt D3; exact this)).trans D3
      replace D4 := (B9.cell (by have := cell_lt D4; exact this)).trans D4
      replace BB := BB.trans (B9.mono BB.size)
      clear B9
      go_wp2
      go_ret
      exact ⟨rfl, BB⟩
    · rw [hq] at H1 H2
      go_wp2_with (first
        | (at_mapUpdate; refine wpList_mapUpdate_own _ rfl _ _ _ 26 rfl 9 9 law9 Trym.underlying26 _ q3 4096 _ rfl O3 (by unfold maxLen; omega) _ _ _ rfl rfl (key9 nk) _ [] (val9 nx) ?_; intro w8 OX G8
           have D1 := cell_grown G8 (by show w5.heap.size ≠ q3; have := Lq.out; omega) C1
           have D2 := cell_grown G8 (by show w5.heap.size ≠ q3; have := Lq.out; omega) C2
           have D3 := cell_grown G8 (by show w7.heap.size ≠ q3; have := Lq.out; omega) C3
           have D4 := cell_grown G8 (by show w7.heap.size ≠ q3; have := Lq.out; omega) C4
           clear C1 C2 C3 C4)
        | fail)
      have P1 := M1.kept G8 N1.out.1
      have P2 := M2.kept G8 N2.out.1
      have P3 : MapAt w8 (.map (some q3)) ((buildTo s0 s1 s0.length).put (KL k) (VD x)) := .inr ⟨q3, rfl, OX.mono (by omega)⟩
      have P4 : MapAt w8 (.map (some q4)) (buildTo s2 s3 s2.length) := .inr ⟨q4, rfl, (O4.kept G8 (fun e => by have := Option.some.inj e; have := Lq.out; omega)).mono (by omega)⟩
      replace BB := BB.grown G8 BB.size (fun j hj => by cases hj; have := Lq.out; have := LB.out; omega)
      clear M1 M2 O3 O4 OX G8
      refine (Same_flag _ _ _ _ _ _ _ _ _ P1 P2 P3 P4 true ((and_iff_left (same_refl _)).trans H1.out)).mono ?_
      rintro e w9 ⟨rfl, B9⟩
      replace P1 := P1.below B9
      replace P2 := P2.below B9
      replace P3 := P3.below B9
      replace P4 := P4.below B9
      replace D1 := (B9.cell (by have := cell_lt D1; exact this)).trans D1
      replace D2 := (B9.cell (by have := cell_lt D2; exact this)).trans D2
      replace D3 := (B9.cell (by have := cell_lt D3; exact this)).trans D3
      replace D4 := (B9.cell (by have := cell_lt D4; exact this)).trans D4
      replace BB := BB.trans (B9.mono BB.size)
      clear B9
      go_wp2_with fail
      refine (Same_flag _ _ _ _ _ _ _ _ _ P3 P4 P1 P2 true ((and_iff_left (same_refl _)).trans H2.out)).mono ?_
      rintro e w10 ⟨rfl, B9⟩
      replace P1 := P1.below B9
      replace P2 := P2.below B9
      replace P3 := P3.below B9
      replace P4 := P4.below B9
      replace D1 := (B9.cell (by have := cell_lt D1; exact this)).trans D1
      replace D2 := (B9.cell (by have := cell_lt D2; exact this)).trans D2
      replace D3 := (B9.cell (by have := cell_lt D3; exact this)).trans D3
      replace D4 := (B9.cell (by have := cell_lt D4; exact this)).trans D4
      replace BB := BB.trans (B9.mono BB.size)
      clear B9
      go_wp2_with fail
      refine (Same_flag _ _ _ _ _ _ _ _ _ P1 P2 P1 P2 true ⟨fun _ => rfl, fun _ => ⟨same_refl _, same_refl _⟩⟩).mono ?_
      rintro e w11 ⟨rfl, B9⟩
      replace P1 := P1.below B9
      replace P2 := P2.below B9
      replace P3 := P3.below B9
      replace P4 := P4.below B9
      replace D1 := (B9.cell (by have := cell_lt D1; exact this)).trans D1
      replace D2 := (B9.cell (by have := cell_lt D2; exact this)).trans D2
      replace D3 := (B9.cell (by have := cell_lt D3; exact this)).trans D3
      replace D4 := (B9.cell (by have := cell_lt D4; exact this)).trans D4
      replace BB := BB.trans (B9.mono BB.size)
      clear B9
      go_wp2_with fail
      refine (Same_flag _ _ _ _ _ _ _ _ _ P3 P4 P3 P4 true ⟨fun _ => rfl, fun _ => ⟨same_refl _, same_refl _⟩⟩).mono ?_
      rintro e w12 ⟨rfl, B9⟩
      replace P1 := P1.below B9
      replace P2 := P2.below B9
      replace P3 := P3.below B9
      replace P4 := P4.below B9
      replace D1 := (B9.cell (by have := cell_lt D1; exact this)).trans D1
      replace D2 := (B9.cell (by have := cell_lt D2; exact this)).trans D2
      replace D3 := (B9.cell (by have := cell_lt D3; exact this)).trans D3
      replace D4 := (B9.cell (by have := cell_lt D4; exact this)).trans D4
      replace BB := BB.trans (B9.mono BB.size)
      clear B9
      go_wp2
      go_ret
      exact ⟨rfl, BB⟩
    · rw [hq] at H1 H2
      go_wp2_with (first
        | (at_mapUpdate; refine wpList_mapUpdate_own _ rfl _ _ _ 26 rfl 9 9 law9 Trym.underlying26 _ q3 4096 _ rfl O3 (by unfold maxLen; omega) _ _ _ rfl rfl (key9 nk) _ [] (val9 nx) ?_; intro w8 OX G8
           have D1 := cell_grown G8 (by show w5.heap.size ≠ q3; have := Lq.out; omega) C1
           have D2 := cell_grown G8 (by show w5.heap.size ≠ q3; have := Lq.out; omega) C2
           have D3 := cell_grown G8 (by show w7.heap.size ≠ q3; have := Lq.out; omega) C3
           have D4 := cell_grown G8 (by show w7.heap.size ≠ q3; have := Lq.out; omega) C4
           clear C1 C2 C3 C4)
        | fail)
      have P1 := M1.kept G8 N1.out.1
      have P2 := M2.kept G8 N2.out.1
      have P3 : MapAt w8 (.map (some q3)) ((buildTo s0 s1 s0.length).put (KL k) (VD x)) := .inr ⟨q3, rfl, OX.mono (by omega)⟩
      have P4 : MapAt w8 (.map (some q4)) (buildTo s2 s3 s2.length) := .inr ⟨q4, rfl, (O4.kept G8 (fun e => by have := Option.some.inj e; have := Lq.out; omega)).mono (by omega)⟩
      replace BB := BB.grown G8 BB.size (fun j hj => by cases hj; have := Lq.out; have := LB.out; omega)
      clear M1 M2 O3 O4 OX G8
      refine (Same_flag _ _ _ _ _ _ _ _ _ P1 P2 P3 P4 false ((and_iff_left (same_refl _)).trans H1.out)).mono ?_
      rintro e w9 ⟨rfl, B9⟩
      replace P1 := P1.below B9
      replace P2 := P2.below B9
      replace P3 := P3.below B9
      replace P4 := P4.below B9
      replace D1 := (B9.cell (by have := cell_lt D1; exact this)).trans D1
      replace D2 := (B9.cell (by have := cell_lt D2; exact this)).trans D2
      replace D3 := (B9.cell (by have := cell_lt D3; exact this)).trans D3
      replace D4 := (B9.cell (by have := cell_lt D4; exact this)).trans D4
      replace BB := BB.trans (B9.mono BB.size)
      clear B9
      go_wp2_with fail
      refine (Same_flag _ _ _ _ _ _ _ _ _ P3 P4 P1 P2 false ((and_iff_left (same_refl _)).trans H2.out)).mono ?_
      rintro e w10 ⟨rfl, B9⟩
      replace P1 := P1.below B9
      replace P2 := P2.below B9
      replace P3 := P3.below B9
      replace P4 := P4.below B9
      replace D1 := (B9.cell (by have := cell_lt D1; exact this)).trans D1
      replace D2 := (B9.cell (by have := cell_lt D2; exact this)).trans D2
      replace D3 := (B9.cell (by have := cell_lt D3; exact this)).trans D3
      replace D4 := (B9.cell (by have := cell_lt D4; exact this)).trans D4
      replace BB := BB.trans (B9.mono BB.size)
      clear B9
      go_wp2_with fail
      refine (Same_flag _ _ _ _ _ _ _ _ _ P1 P2 P1 P2 true ⟨fun _ => rfl, fun _ => ⟨same_refl _, same_refl _⟩⟩).mono ?_
      rintro e w11 ⟨rfl, B9⟩
      replace P1 := P1.below B9
      replace P2 := P2.below B9
      replace P3 := P3.below B9
      replace P4 := P4.below B9
      replace D1 := (B9.cell (by have := cell_lt D1; exact this)).trans D1
      replace D2 := (B9.cell (by have := cell_lt D2; exact this)).trans D2
      replace D3 := (B9.cell (by have := cell_lt D3; exact this)).trans D3
      replace D4 := (B9.cell (by have := cell_lt D4; exact this)).trans D4
      replace BB := BB.trans (B9.mono BB.size)
      clear B9
      go_wp2_with fail
      refine (Same_flag _ _ _ _ _ _ _ _ _ P3 P4 P3 P4 true ⟨fun _ => rfl, fun _ => ⟨same_refl _, same_refl _⟩⟩).mono ?_
      rintro e w12 ⟨rfl, B9⟩
      replace P1 := P1.below B9
      replace P2 := P2.below B9
      replace P3 := P3.below B9
      replace P4 := P4.below B9
      replace D1 := (B9.cell (by have := cell_lt D1; exact this)).trans D1
      replace D2 := (B9.cell (by have := cell_lt D2; exact this)).trans D2
      replace D3 := (B9.cell (by have := cell_lt D3; exact this)).trans D3
      replace D4 := (B9.cell (by have := cell_lt D4; exact this)).trans D4
      replace BB := BB.trans (B9.mono BB.size)
      clear B9
      go_wp2
      go_ret
      exact ⟨rfl, BB⟩
end Go.Proofs.Qxb6603597aMods
