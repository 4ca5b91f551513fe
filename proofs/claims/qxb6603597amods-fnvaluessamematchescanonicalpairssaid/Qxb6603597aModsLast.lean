import Derived.Test.Qxb6603597aModsSame
namespace Go.Proofs.Qxb6603597aMods
open Go.ChangeShapes Go.WideShapes Go.ChangeAt Go.RowKit
set_option linter.unusedVariables false

theorem KL_key (s : ByteArray) : WideAt.IsKeyLit (KL s) := trivial
theorem KL_ne {a b : ByteArray} (h : a ≠ b) : KL a ≠ KL b := fun e => h (KL_inj e)

theorem build_tidy (ks vs : List ByteArray) : ∀ n, Maps.Tidy (buildTo ks vs n)
  | 0 => Maps.tidy_empty
  | n + 1 => (build_tidy ks vs n).put (KL_key _) _

theorem build_none (ks vs : List ByteArray) (k : ByteArray) : ∀ n, (∀ j, j < n → nth ks j ≠ k) → Maps.has (buildTo ks vs n) (KL k) = false
  | 0, _ => rfl
  | n + 1, h => by
    unfold buildTo
    rw [Maps.has_put_other (KL_ne (h n (by omega)).symm)]
    exact build_none ks vs k n (fun j hj => h j (by omega))

theorem build_last (ks vs : List ByteArray) (k : ByteArray) (m : Nat) (hm : nth ks m = k) : ∀ n, m < n → (∀ j, m < j → j < n → nth ks j ≠ k) → Maps.has (buildTo ks vs n) (KL k) = true ∧ ∀ z, (buildTo ks vs n).atKey (KL k) z = VD (nth vs m)
  | 0, h, _ => by omega
  | n + 1, h, hj => by
    unfold buildTo
    by_cases e : m = n
    · subst e
      rw [hm]
      exact ⟨Maps.has_put_same (build_tidy ks vs m).isMap (KL_key _) _, fun z => Maps.atKey_put_same (build_tidy ks vs m).isMap (KL_key _) _ z⟩
    · have hne := KL_ne (hj n (by omega) (by omega)).symm
      obtain ⟨h1, h2⟩ := build_last ks vs k m hm n (by omega) (fun j a b => hj j a (by omega))
      exact ⟨by rw [Maps.has_put_other hne]; exact h1, fun z => by rw [Maps.atKey_put_other hne]; exact h2 z⟩

/-- What a look-up in the map of the pairs would give. -/
def RetLast (D : DataW Unit) (k : ByteArray) (e : Ending) : Prop := ∃ (v : ByteArray) (ok : Bool), e = .returned (.tuple #[.string v, .bool ok]) ∧ Maps.has D (KL k) = ok ∧ (ok = true → ∀ z, D.atKey (KL k) z = VD v)

set_option maxRecDepth 100000 in
set_option maxHeartbeats 1000000 in
theorem last_any (a0 a1 : Option Addr) (c0 c1 : Nat) (ks vs : List ByteArray) (k : ByteArray) (w : World) (hn : ks.length ≤ 4096) (hv : vs.length ≤ 4096) (h0 : StrsAt w a0 ks) (h1 : StrsAt w a1 vs) :
    Calls Trym.prog 14 #[.slice a0 ks.length c0, .slice a1 vs.length c1, .string k] w fun e w' => RetLast (buildTo ks vs ks.length) k e ∧ w' = w := by
  go_enter Trym.func14, Trym.ntmps14
  go_wp2
  go_loop [8] (fun i => ∃ m : Nat, m ≤ ks.length ∧ i = .int .i64 ((m : Int) - 1) ∧ ∀ j, m ≤ j → j < ks.length → nth ks j ≠ k) (fun i => (intOf i + 1).toNat)
  case atStart => exact ⟨ks.length, Nat.le_refl _, by go_num, fun j a b => by omega⟩
  obtain ⟨m, hm, rfl, hj⟩ := hrel
  have HJ : Hid (∀ j, m ≤ j → j < ks.length → nth ks j ≠ k) := hj
  clear hj
  by_cases hlt : 0 < m
  · obtain ⟨m, rfl⟩ : ∃ q, m = q + 1 := ⟨m - 1, by omega⟩
    obtain ⟨p0, rfl, hc0, hs0⟩ := h0 m (by omega)
    clear h0
    by_cases hk : nth ks m = k
    · have hd := build_last ks vs k m hk ks.length (by omega) (fun j a b => HJ.out j (by omega) b)
      have HD : Hid (Maps.has (buildTo ks vs ks.length) (KL k) = true ∧ ∀ z, (buildTo ks vs ks.length).atKey (KL k) z = VD (nth vs m)) := hd
      clear hd
      have hq : ((nth ks m).toList == k.toList) = true := by simp [hk]
      have HK : Hid (nth ks m = k) := hk
      clear hk
      by_cases hl1 : m < vs.length
      · obtain ⟨p1, rfl, hc1, hs1⟩ := h1 m hl1
        clear h1
        go_wp2
        go_ret2
        exact ⟨⟨nth vs m, true, rfl, HD.out.1, fun _ => HD.out.2⟩, rfl⟩
      · have hvn : nth vs m = ⟨#[]⟩ := by simp [nth, List.getElem?_eq_none (show vs.length ≤ m by omega)]; rfl
        have HV : Hid (nth vs m = ⟨#[]⟩) := hvn
        clear h1 hvn
        go_wp2
        go_ret2
        exact ⟨⟨⟨#[]⟩, true, rfl, HD.out.1, fun _ => by rw [← HV.out]; exact HD.out.2⟩, rfl⟩
    · have hq : ((nth ks m).toList == k.toList) = false := by
        simp only [beq_eq_false_iff_ne, ne_eq]
        exact fun e => hk (toList_inj e)
      have HK : Hid (nth ks m ≠ k) := hk
      clear hk h1
      go_wp2
      refine ⟨⟨m, by omega, rfl, fun j a b => ?_⟩, by simp [intOf]⟩
      by_cases e : j = m
      · subst e; exact HK.out
      · exact HJ.out j (by omega) b
  · clear h0 h1
    obtain rfl : m = 0 := by omega
    go_wp2
    go_ret2
    exact ⟨⟨⟨#[]⟩, false, rfl, build_none ks vs k _ (fun j hj => HJ.out j (by omega) hj), fun e => by cases e⟩, rfl⟩

set_option maxRecDepth 100000 in
set_option maxHeartbeats 1000000 in
theorem build_any (a0 a1 : Option Addr) (c0 c1 : Nat) (ks vs : List ByteArray) (f : Bool) (w : World) (hn : ks.length ≤ 4096) (hm : vs.length ≤ 4096) (h0 : StrsAt w a0 ks) (h1 : StrsAt w a1 vs) :
    Calls Trym.prog 10 #[.slice a0 ks.length c0, .slice a1 vs.length c1, .bool f] w fun e w' => ∃ v, e = .returned v ∧ MapAt w' v (buildTo ks vs ks.length) ∧ Below w.heap.size w w' ∧ (v = .map none ∨ v = .map (some w.heap.size)) ∧ (f = true → v = .map (some w.heap.size) ∧ w'.ownsMap Trym.prog 9 (plainElem Trym.prog 9) w.heap.size 4096 (buildTo ks vs ks.length)) := by
  by_cases hf : (a0.isNone && !f) = false
  · refine (build_made a0 a1 c0 c1 ks vs f w hn hm h0 h1 hf).mono ?_
    rintro e w' ⟨rfl, hown, hb⟩
    exact ⟨_, rfl, .inr ⟨_, rfl, hown.mono (by omega)⟩, hb, .inr rfl, fun _ => ⟨rfl, hown.mono hn⟩⟩
  · have hf' : a0 = none ∧ f = false := by cases a0 <;> cases f <;> simp at hf ⊢
    obtain ⟨rfl, rfl⟩ := hf'
    have hks : ks = [] := by
      cases ks with
      | nil => rfl
      | cons s r => obtain ⟨p, hp, _⟩ := h0 0 (by simp); cases hp
    subst hks
    have q22 := eql22
    clear h0 h1 hf
    go_enter Trym.func10, Trym.ntmps10
    go_wp2
    go_ret
    exact ⟨_, rfl, .inl ⟨rfl, rfl⟩, Below.refl _ _, .inl rfl, fun e => by cases e⟩

theorem same_refl (D : DataW Unit) : SameD D D := ⟨rfl, fun k h => ⟨h, fun _ => rfl⟩⟩

/-- Setting one key: the two read alike just if the key had that value. -/
theorem same_put {D : DataW Unit} (hT : Maps.Tidy D) (k x : ByteArray) : SameD D (D.put (KL k) (VD x)) ↔ (Maps.has D (KL k) = true ∧ ∀ z, D.atKey (KL k) z = VD x) := by
  constructor
  · intro h
    have h1 := h.1
    rw [Maps.size_put hT] at h1
    have hk : Maps.has D (KL k) = true := by
      cases hk : Maps.has D (KL k)
      · rw [hk] at h1; simp at h1
      · rfl
    refine ⟨hk, fun z => ?_⟩
    rw [(h.2 _ hk).2 z, Maps.atKey_put_same hT.isMap (KL_key _)]
  · rintro ⟨hk, hz⟩
    refine ⟨by rw [Maps.size_put hT, hk]; rfl, fun k' hk' => ?_⟩
    by_cases e : k' = KL k
    · subst e
      exact ⟨Maps.has_put_same hT.isMap (KL_key _) _, fun z => by rw [hz, Maps.atKey_put_same hT.isMap (KL_key _)]⟩
    · exact ⟨by rw [Maps.has_put_other e]; exact hk', fun z => by rw [Maps.atKey_put_other e]⟩

theorem put_same {D : DataW Unit} (hT : Maps.Tidy D) (k x : ByteArray) : SameD (D.put (KL k) (VD x)) D ↔ (Maps.has D (KL k) = true ∧ ∀ z, D.atKey (KL k) z = VD x) := by
  constructor
  · intro h
    have hp := h.2 (KL k) (Maps.has_put_same hT.isMap (KL_key _) _)
    exact ⟨hp.1, fun z => by rw [← hp.2 z, Maps.atKey_put_same hT.isMap (KL_key _)]⟩
  · rintro ⟨hk, hz⟩
    refine ⟨by rw [Maps.size_put hT, hk]; rfl, fun k' hk' => ?_⟩
    by_cases e : k' = KL k
    · subst e
      exact ⟨hk, fun z => by rw [hz, Maps.atKey_put_same hT.isMap (KL_key _)]⟩
    · rw [Maps.has_put_other e] at hk'
      exact ⟨hk', fun z => by rw [Maps.atKey_put_other e]⟩

end Go.Proofs.Qxb6603597aMods
