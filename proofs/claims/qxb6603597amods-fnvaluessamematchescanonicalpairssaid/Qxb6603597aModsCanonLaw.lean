import Derived.Test.Qxb6603597aModsLast
namespace Go.Proofs.Qxb6603597aMods
open Go.ChangeShapes Go.WideShapes Go.ChangeAt Go.RowKit
set_option linter.unusedVariables false

/-! ### the order of strings -/
theorem less_irr : ∀ x : List UInt8, Op.bytesLess x x = false
  | [] => rfl
  | a :: x => by simp [Op.bytesLess, less_irr x]

theorem less_trans : ∀ x y z : List UInt8, Op.bytesLess x y = true → Op.bytesLess y z = true → Op.bytesLess x z = true
  | _, [], _, h, _ => by simp [Op.bytesLess] at h
  | _, _ :: _, [], _, h => by simp [Op.bytesLess] at h
  | [], _ :: _, _ :: _, _, _ => rfl
  | a :: x, b :: y, c :: z, h1, h2 => by
    simp only [Op.bytesLess, Bool.or_eq_true, decide_eq_true_eq, Bool.and_eq_true, beq_iff_eq] at h1 h2 ⊢
    rcases h1 with h1 | ⟨rfl, h1⟩
    · rcases h2 with h2 | ⟨rfl, h2⟩
      · left
        rw [UInt8.lt_iff_toNat_lt] at *
        omega
      · exact .inl h1
    · rcases h2 with h2 | ⟨rfl, h2⟩
      · exact .inl h2
      · exact .inr ⟨rfl, less_trans x y z h1 h2⟩

theorem less_total : ∀ x y : List UInt8, Op.bytesLess x y = false → x ≠ y → Op.bytesLess y x = true
  | [], [], _, h => absurd rfl h
  | [], _ :: _, h, _ => by simp [Op.bytesLess] at h
  | _ :: _, [], _, _ => rfl
  | a :: x, b :: y, h, hne => by
    simp only [Op.bytesLess, Bool.or_eq_false_iff, decide_eq_false_iff_not, Bool.and_eq_false_iff, beq_eq_false_iff_ne, ne_eq, Bool.or_eq_true, decide_eq_true_eq, Bool.and_eq_true, beq_iff_eq] at h ⊢
    by_cases e : a = b
    · subst e
      right
      refine ⟨rfl, less_total x y ?_ (fun e => hne (by rw [e]))⟩
      rcases h.2 with h2 | h2
      · exact absurd rfl h2
      · exact h2
    · left
      have h1 := h.1
      rw [UInt8.lt_iff_toNat_lt] at *
      have : a.toNat ≠ b.toNat := fun h => e (UInt8.toNat_inj.1 h)
      omega

def lt (a b : ByteArray) : Bool := Op.bytesLess a.toList b.toList
theorem lt_irr (a : ByteArray) : lt a a = false := less_irr _
theorem lt_trans {a b c : ByteArray} (h1 : lt a b = true) (h2 : lt b c = true) : lt a c = true := less_trans _ _ _ h1 h2
theorem lt_total {a b : ByteArray} (h : lt a b = false) (hne : a ≠ b) : lt b a = true := less_total _ _ h (fun e => hne (toList_inj e))

/-! ### lists -/
theorem sorted_ext {α : Type} {R : α → α → Prop} (irr : ∀ a, ¬ R a a) (asym : ∀ a b, R a b → ¬ R b a) : ∀ {l₁ l₂ : List α}, l₁.Pairwise R → l₂.Pairwise R → (∀ x, x ∈ l₁ ↔ x ∈ l₂) → l₁ = l₂
  | [], [], _, _, _ => rfl
  | [], b :: t, _, _, h => by have := (h b).2 (by simp); simp at this
  | a :: t, [], _, _, h => by have := (h a).1 (by simp); simp at this
  | a :: t₁, b :: t₂, p₁, p₂, h => by
    obtain ⟨q₁, r₁⟩ := List.pairwise_cons.1 p₁
    obtain ⟨q₂, r₂⟩ := List.pairwise_cons.1 p₂
    have hab : a = b := by
      rcases List.mem_cons.1 ((h a).1 (by simp)) with e | e
      · exact e
      · rcases List.mem_cons.1 ((h b).2 (by simp)) with e' | e'
        · exact e'.symm
        · exact absurd (q₂ a e) (asym _ _ (q₁ b e'))
    subst hab
    have ht : t₁ = t₂ := sorted_ext irr asym r₁ r₂ (fun x => by
      constructor
      · intro hx
        rcases List.mem_cons.1 ((h x).1 (by simp [hx])) with e | e
        · subst e; exact absurd (q₁ x hx) (irr x)
        · exact e
      · intro hx
        rcases List.mem_cons.1 ((h x).2 (by simp [hx])) with e | e
        · subst e; exact absurd (q₂ x hx) (irr x)
        · exact e)
    rw [ht]

theorem sub_length {α : Type} : ∀ {l₁ l₂ : List α}, l₁.Nodup → (∀ x, x ∈ l₁ → x ∈ l₂) → l₁.length ≤ l₂.length
  | [], _, _, _ => by simp
  | a :: t, l₂, hn, hs => by
    obtain ⟨ha, ht⟩ := List.nodup_cons.1 hn
    obtain ⟨x, y, rfl⟩ := List.append_of_mem (hs a (by simp))
    have := sub_length (l₁ := t) (l₂ := x ++ y) ht (fun z hz => by
      have := hs z (by simp [hz])
      simp only [List.mem_append, List.mem_cons] at this ⊢
      rcases this with h | h | h
      · exact .inl h
      · subst h; exact absurd hz ha
      · exact .inr h)
    simp at this ⊢
    omega

/-- Pigeons. -/
theorem sub_back {α : Type} : ∀ {l₁ l₂ : List α}, l₁.Nodup → (∀ x, x ∈ l₁ → x ∈ l₂) → l₂.length ≤ l₁.length → ∀ x, x ∈ l₂ → x ∈ l₁
  | [], l₂, _, _, hl, x, hx => by
    have : l₂ = [] := List.eq_nil_of_length_eq_zero (by simpa using hl)
    subst this
    simp at hx
  | a :: t, l₂, hn, hs, hl, x, hx => by
    obtain ⟨ha, ht⟩ := List.nodup_cons.1 hn
    obtain ⟨u, v, rfl⟩ := List.append_of_mem (hs a (by simp))
    have ih := sub_back (l₁ := t) (l₂ := u ++ v) ht (fun z hz => by
      have := hs z (by simp [hz])
      simp only [List.mem_append, List.mem_cons] at this ⊢
      rcases this with h | h | h
      · exact .inl h
      · subst h; exact absurd hz ha
      · exact .inr h) (by simp at hl ⊢; omega)
    simp only [List.mem_append, List.mem_cons] at hx ⊢
    rcases hx with h | h | h
    · exact .inr (ih x (by simp [h]))
    · exact .inl h
    · exact .inr (ih x (by simp [h]))

/-! ### the canonical list -/
def isLast (ks : List ByteArray) (j : Nat) : Prop := ∀ q, j < q → q < ks.length → nth ks q ≠ nth ks j
/-- L: of the first i pairs those whose key does not come again, in order. -/
def CanonTo (ks vs : List ByteArray) (i : Nat) (L : List (ByteArray × ByteArray)) : Prop :=
  L.Pairwise (fun a b => lt a.1 b.1 = true) ∧ ∀ k v, (k, v) ∈ L ↔ ∃ j, j < i ∧ isLast ks j ∧ nth ks j = k ∧ nth vs j = v

theorem canon_start (ks vs : List ByteArray) : CanonTo ks vs 0 [] := ⟨List.Pairwise.nil, fun k v => by simp⟩

theorem canon_later {ks vs : List ByteArray} {i q : Nat} {L : List (ByteArray × ByteArray)} (h : CanonTo ks vs i L) (hq : i < q) (hq' : q < ks.length) (he : nth ks q = nth ks i) : CanonTo ks vs (i + 1) L := by
  refine ⟨h.1, fun k v => (h.2 k v).trans ⟨?_, ?_⟩⟩
  · rintro ⟨j, hj, r⟩
    exact ⟨j, by omega, r⟩
  · rintro ⟨j, hj, hl, r⟩
    refine ⟨j, ?_, hl, r⟩
    by_cases e : j = i
    · subst e; exact absurd he (hl q hq hq')
    · omega

theorem canon_insert {ks vs : List ByteArray} {i : Nat} {A B : List (ByteArray × ByteArray)} (hi : i < ks.length) (h : CanonTo ks vs i (A ++ B)) (hl : isLast ks i) (hB : ∀ b ∈ B, lt (nth ks i) b.1 = true)
    (hA : ∀ A' y, A = A' ++ [y] → lt (nth ks i) y.1 = false) : CanonTo ks vs (i + 1) (A ++ (nth ks i, nth vs i) :: B) := by
  obtain ⟨hp, hm⟩ := h
  refine ⟨?_, fun k v => ?_⟩
  · rw [List.pairwise_append] at hp ⊢
    obtain ⟨pA, pB, pAB⟩ := hp
    refine ⟨pA, List.pairwise_cons.2 ⟨hB, pB⟩, ?_⟩
    intro a ha b hb
    rcases List.mem_cons.1 hb with rfl | hb
    · -- every key of A is below the new one
      rcases List.eq_nil_or_concat A with rfl | ⟨A', y, rfl⟩
      · simp at ha
      · have hy : lt y.1 (nth ks i) = true := by
          refine lt_total (hA A' y (by simp)) ?_
          intro e
          obtain ⟨j, hj, hlj, hk, _⟩ := (hm y.1 y.2).1 (by simp)
          exact hlj i hj hi (by rw [hk]; exact e)
        rw [List.concat_eq_append] at ha pA
        rcases List.mem_append.1 ha with ha | ha
        · exact lt_trans ((List.pairwise_append.1 pA).2.2 a ha y (by simp)) hy
        · simp only [List.mem_singleton] at ha
          subst ha
          exact hy
    · exact pAB a ha b hb
  · have h0 := hm k v
    simp only [List.mem_append, List.mem_cons, Prod.mk.injEq] at h0 ⊢
    constructor
    · rintro (h | ⟨rfl, rfl⟩ | h)
      · obtain ⟨j, hj, r⟩ := h0.1 (.inl h)
        exact ⟨j, by omega, r⟩
      · exact ⟨i, by omega, hl, rfl, rfl⟩
      · obtain ⟨j, hj, r⟩ := h0.1 (.inr h)
        exact ⟨j, by omega, r⟩
    · rintro ⟨j, hj, hlj, rfl, rfl⟩
      by_cases e : j = i
      · subst e; exact .inr (.inl ⟨rfl, rfl⟩)
      · rcases h0.2 ⟨j, by omega, hlj, rfl, rfl⟩ with h | h
        · exact .inl h
        · exact .inr (.inr h)

/-! ### the list and the map -/
theorem last_exists (ks : List ByteArray) (k : ByteArray) : ∀ n, (∃ j, j < n ∧ nth ks j = k) → ∃ j, j < n ∧ nth ks j = k ∧ ∀ q, j < q → q < n → nth ks q ≠ k
  | 0, ⟨j, hj, _⟩ => by omega
  | n + 1, ⟨j, hj, e⟩ => by
    by_cases hn : nth ks n = k
    · exact ⟨n, by omega, hn, fun q a b => by omega⟩
    · have hjn : j ≠ n := fun h => hn (by rw [← h]; exact e)
      obtain ⟨m, hm, em, hq⟩ := last_exists ks k n ⟨j, by omega, e⟩
      refine ⟨m, by omega, em, fun q a b => ?_⟩
      by_cases h : q = n
      · subst h; exact hn
      · exact hq q a (by omega)

def Ent (D : DataW Unit) (k v : ByteArray) : Prop := Maps.has D (KL k) = true ∧ ∀ z, D.atKey (KL k) z = VD v

theorem ent_some {ks vs : List ByteArray} {k : ByteArray} (h : Maps.has (buildTo ks vs ks.length) (KL k) = true) : ∃ j, j < ks.length ∧ isLast ks j ∧ nth ks j = k ∧ Ent (buildTo ks vs ks.length) k (nth vs j) := by
  have hex : ∃ j, j < ks.length ∧ nth ks j = k := by
    by_cases hc : ∃ j, j < ks.length ∧ nth ks j = k
    · exact hc
    · rw [build_none ks vs k ks.length (fun j hj e => hc ⟨j, hj, e⟩)] at h
      cases h
  obtain ⟨j, hj, e, hq⟩ := last_exists ks k _ hex
  exact ⟨j, hj, fun q a b => by rw [e]; exact hq q a b, e, build_last ks vs k j e ks.length hj hq⟩

theorem ent_iff {ks vs : List ByteArray} {L : List (ByteArray × ByteArray)} (h : CanonTo ks vs ks.length L) (k v : ByteArray) : Ent (buildTo ks vs ks.length) k v ↔ (k, v) ∈ L := by
  rw [h.2 k v]
  constructor
  · intro he
    obtain ⟨j, hj, hl, e, he'⟩ := ent_some he.1
    exact ⟨j, hj, hl, e, VD_inj ((he'.2 (VD v)).symm.trans (he.2 (VD v)))⟩
  · rintro ⟨j, hj, hl, rfl, rfl⟩
    exact build_last ks vs _ j rfl ks.length hj (fun q a b => hl q a b)

theorem keys_KL (ks vs : List ByteArray) : ∀ n kl, Maps.has (buildTo ks vs n) kl = true → ∃ k, kl = KL k
  | 0, kl, h => by cases h
  | n + 1, kl, h => by
    unfold buildTo at h
    by_cases e : kl = KL (nth ks n)
    · exact ⟨_, e⟩
    · rw [Maps.has_put_other e] at h
      exact keys_KL ks vs n kl h

theorem mem_of_ent {es : List (Lit × DataW Unit)} {kl : Lit} {d z : DataW Unit} (h1 : Maps.has (.map es) kl = true) (h2 : (DataW.map es).atKey kl z = d) : (kl, d) ∈ es := by
  simp only [DataW.atKey] at h2
  cases hf : es.find? (fun p => p.1.sameKey kl) with
  | none =>
    rw [List.find?_eq_none] at hf
    obtain ⟨p, hp, hk⟩ := List.any_eq_true.1 h1
    exact absurd hk (hf p hp)
  | some p =>
    rw [hf] at h2
    have h3 := List.find?_some hf
    have h4 := WideAt.sameKey_eq h3
    have h5 := List.mem_of_find?_eq_some hf
    simp only at h2
    subst h2
    rw [← h4]
    exact h5

theorem ent_of_mem {es : List (Lit × DataW Unit)} (hp : es.Pairwise (fun p q => p.1 ≠ q.1)) {k : ByteArray} {d : DataW Unit} (h : (KL k, d) ∈ es) : Maps.has (.map es) (KL k) = true ∧ ∀ z, (DataW.map es).atKey (KL k) z = d := by
  have hh : Maps.has (.map es) (KL k) = true := List.any_eq_true.2 ⟨_, h, WideAt.sameKey_self (KL_key k)⟩
  refine ⟨hh, fun z => ?_⟩
  have hm := mem_of_ent hh (rfl : (DataW.map es).atKey (KL k) z = _)
  generalize (DataW.map es).atKey (KL k) z = d' at hm
  clear hh
  induction es with
  | nil => simp at h
  | cons a t ih =>
    obtain ⟨q, r⟩ := List.pairwise_cons.1 hp
    rcases List.mem_cons.1 h with e | e
    · rcases List.mem_cons.1 hm with e' | e'
      · rw [← e] at e'
        cases e'
        rfl
      · exact absurd (by rw [← e]) (q _ e')
    · rcases List.mem_cons.1 hm with e' | e'
      · exact absurd (by rw [← e']) (q _ e)
      · exact ih r e e'

theorem nodup_of_apart : ∀ {es : List (Lit × DataW Unit)}, es.Pairwise (fun p q => p.1 ≠ q.1) → es.Nodup
  | [], _ => List.nodup_nil
  | a :: t, hp => by
    obtain ⟨q, r⟩ := List.pairwise_cons.1 hp
    exact List.nodup_cons.2 ⟨fun h => absurd rfl (q a h), nodup_of_apart r⟩

theorem mem_insert {p x : Lit × DataW Unit} : ∀ {l : List (Lit × DataW Unit)}, p ∈ DataW.insert x l → p = x ∨ p ∈ l
  | [], h => by simpa [DataW.insert] using h
  | y :: r, h => by
    unfold DataW.insert at h
    split at h
    · simpa using h
    · rcases List.mem_cons.1 h with e | e
      · exact .inr (by simp [e])
      · rcases mem_insert e with e | e
        · exact .inl e
        · exact .inr (by simp [e])

theorem build_mem (ks vs : List ByteArray) : ∀ n es, buildTo ks vs n = .map es → ∀ p ∈ es, ∃ k, p.1 = KL k
  | 0, es, h, p, hp => by
    cases h
    simp at hp
  | n + 1, es, h, p, hp => by
    obtain ⟨es0, e0⟩ := (build_tidy ks vs n).isMap
    have ih := build_mem ks vs n es0 e0
    unfold buildTo at h
    rw [e0] at h
    simp only [DataW.put, DataW.map.injEq] at h
    subst h
    rcases mem_insert hp with e | e
    · exact ⟨_, by rw [e]⟩
    · exact ih p (List.mem_filter.1 e).1

/-- THE LAW: the maps read alike just if the canonical lists are one. -/
theorem canon_law {k1 v1 k2 v2 : List ByteArray} {L1 L2 : List (ByteArray × ByteArray)} (h1 : CanonTo k1 v1 k1.length L1) (h2 : CanonTo k2 v2 k2.length L2) :
    SameD (buildTo k1 v1 k1.length) (buildTo k2 v2 k2.length) ↔ L1 = L2 := by
  obtain ⟨es1, E1, p1⟩ := build_tidy k1 v1 k1.length
  obtain ⟨es2, E2, p2⟩ := build_tidy k2 v2 k2.length
  have M1 := build_mem k1 v1 k1.length es1 E1
  have M2 := build_mem k2 v2 k2.length es2 E2
  have K1 := keys_KL k1 v1 k1.length
  have I1 := ent_iff h1
  have I2 := ent_iff h2
  have S1 : ∀ k, Maps.has (buildTo k1 v1 k1.length) (KL k) = true → ∃ v, Ent (buildTo k1 v1 k1.length) k v := fun k h => by obtain ⟨j, _, _, _, r⟩ := ent_some h; exact ⟨_, r⟩
  have S2 : ∀ k, Maps.has (buildTo k2 v2 k2.length) (KL k) = true → ∃ v, Ent (buildTo k2 v2 k2.length) k v := fun k h => by obtain ⟨j, _, _, _, r⟩ := ent_some h; exact ⟨_, r⟩
  rw [E1] at I1 K1 S1 ⊢
  rw [E2] at I2 S2 ⊢
  constructor
  · intro hs
    have sub : ∀ p, p ∈ es1 → p ∈ es2 := by
      rintro ⟨kl, d⟩ hp
      obtain ⟨k, rfl⟩ := M1 _ hp
      obtain ⟨a, b⟩ := ent_of_mem p1 hp
      obtain ⟨a', b'⟩ := hs.2 _ a
      exact mem_of_ent a' ((b' d).symm.trans (b d))
    have back := sub_back (nodup_of_apart p1) sub (by have := hs.1; simp only [Maps.size] at this; omega)
    have hmem : ∀ x, x ∈ L1 ↔ x ∈ L2 := by
      rintro ⟨k, v⟩
      rw [← I1, ← I2]
      constructor
      · intro h
        exact ent_of_mem p2 (sub _ (mem_of_ent h.1 (h.2 (VD v))))
      · intro h
        exact ent_of_mem p1 (back _ (mem_of_ent h.1 (h.2 (VD v))))
    refine sorted_ext (R := fun a b => lt a.1 b.1 = true) (fun a h => ?_) (fun a b h h' => ?_) h1.1 h2.1 hmem
    · rw [lt_irr] at h; cases h
    · have := lt_trans h h'
      rw [lt_irr] at this
      cases this
  · rintro rfl
    have both : ∀ k v, Ent (.map es1) k v ↔ Ent (.map es2) k v := fun k v => (I1 k v).trans (I2 k v).symm
    have sub : ∀ p, p ∈ es1 → p ∈ es2 := by
      rintro ⟨kl, d⟩ hp
      obtain ⟨k, rfl⟩ := M1 _ hp
      obtain ⟨a, b⟩ := ent_of_mem p1 hp
      obtain ⟨v, hv⟩ := S1 k a
      have hd : d = VD v := (b d).symm.trans (hv.2 d)
      obtain ⟨a', b'⟩ := (both k v).1 hv
      exact mem_of_ent a' ((b' d).trans hd.symm)
    have sub' : ∀ p, p ∈ es2 → p ∈ es1 := by
      rintro ⟨kl, d⟩ hp
      obtain ⟨k, rfl⟩ := M2 _ hp
      obtain ⟨a, b⟩ := ent_of_mem p2 hp
      obtain ⟨v, hv⟩ := S2 k a
      have hd : d = VD v := (b d).symm.trans (hv.2 d)
      obtain ⟨a', b'⟩ := (both k v).2 hv
      exact mem_of_ent a' ((b' d).trans hd.symm)
    refine ⟨?_, fun kl hk => ?_⟩
    · have a := sub_length (nodup_of_apart p1) sub
      have b := sub_length (nodup_of_apart p2) sub'
      simp only [Maps.size]
      omega
    · obtain ⟨k, rfl⟩ := K1 kl hk
      obtain ⟨v, hv⟩ := S1 k hk
      obtain ⟨a, b⟩ := (both k v).1 hv
      exact ⟨a, fun z => (hv.2 z).trans (b z).symm⟩
end Go.Proofs.Qxb6603597aMods
