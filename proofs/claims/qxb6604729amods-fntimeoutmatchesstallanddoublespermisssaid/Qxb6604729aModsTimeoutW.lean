import Derived.Test.Qxb6604729aModsRows
import Derived.WalkKit
import Derived.ProofKit
namespace Go.Proofs.Qxb6604729aMods
open Go.ChangeShapes Go.WideShapes Go.ChangeAt Go.RowKit
set_option linter.unusedVariables false
theorem cell_lt {w : World} {p : Addr} {v : Value} (h : w.cell? p = some v) : p.block < w.heap.size := by
  unfold World.cell? at h
  by_cases hb : p.block < w.heap.size
  · exact hb
  · rw [Array.getElem?_eq_none (by omega)] at h
    simp at h
theorem allowing_any (m d s : Int) (w : World) (h1 : 0 ≤ m) (h2 : m ≤ 1099511627776) (h3 : 0 ≤ d) (h4 : d ≤ 1099511627776) (h5 : 0 ≤ s) (h6 : s ≤ 1000000000) :
    Calls Trym.prog 29 #[.agg #[.int .i64 m, .int .i64 d], .int .i64 s] w fun e w' => e = .returned (.int .i64 (2 * m + 4 * d + s)) ∧ Below w.heap.size w w' := by
  go_enter Trym.func29, Trym.ntmps29
  go_wp2
  go_ret
  exact ⟨rfl, (Below.refl _ _).alloc (Nat.le_refl _) _⟩
theorem stall_pos (m d : Int) (w : World) (h1 : 0 < m) (h2 : m ≤ 1099511627776) (h3 : 0 ≤ d) (h4 : d ≤ 1099511627776) :
    Calls Trym.prog 25 #[.agg #[.int .i64 m, .int .i64 d]] w fun e w' => e = .returned (.int .i64 (2 * m + 4 * d + 50000000)) ∧ Below w.heap.size w w' := by
  go_enter Trym.func25, Trym.ntmps25
  go_wp2_with fail
  refine (allowing_any m d _ _ (by omega) h2 h3 h4 (by omega) (by omega)).mono ?_
  rintro e w' ⟨rfl, hb⟩
  go_wp2
  go_ret
  exact ⟨rfl, ((Below.refl _ _).alloc (Nat.le_refl _) _).trans (hb.mono (by simp))⟩
theorem stall_zero (d : Int) (w : World) :
    Calls Trym.prog 25 #[.agg #[.int .i64 0, .int .i64 d]] w fun e w' => e = .returned (.int .i64 250000000) ∧ Below w.heap.size w w' := by
  go_enter Trym.func25, Trym.ntmps25
  go_wp2
  go_ret
  exact ⟨rfl, (Below.refl _ _).alloc (Nat.le_refl _) _⟩
theorem min_any (a b : Int) (w : World) : Calls Trym.prog 9 #[.int .i64 a, .int .i64 b] w fun e w' => e = .returned (.int .i64 (min a b)) ∧ w' = w := by
  by_cases h : a < b
  · have HE : Hid (min a b = a) := by show _ = _; omega
    go_enter Trym.func9, Trym.ntmps9
    go_wp2
    go_ret
    exact ⟨by rw [HE.out]; rfl, rfl⟩
  · have HE : Hid (min a b = b) := by show _ = _; omega
    go_enter Trym.func9, Trym.ntmps9
    go_wp2
    go_ret
    exact ⟨by rw [HE.out]; rfl, rfl⟩
theorem pow_bd (k : Nat) (hk : k ≤ 20) : (1 : Int) ≤ 2 ^ k ∧ (2 : Int) ^ k ≤ 1048576 := by
  have h : ∀ k : Nat, k ≤ 20 → (1 : Int) ≤ 2 ^ k ∧ (2 : Int) ^ k ≤ 1048576 := by decide
  exact h k hk
theorem shl_bd (t : Int) (k : Nat) (h0 : 0 ≤ t) (h1 : t ≤ 6597319766656) (hk : k ≤ 20) : 0 ≤ t * 2 ^ k ∧ t * 2 ^ k ≤ 6917791547617181 * 1000 := by
  obtain ⟨a, b⟩ := pow_bd k hk
  have u : t * 2 ^ k ≤ t * 1048576 := Int.mul_le_mul_of_nonneg_left b h0
  have v : 0 ≤ t * 2 ^ k := Int.mul_nonneg h0 (by omega)
  omega
theorem shl_wrap (t : Int) (k : Nat) (h0 : 0 ≤ t) (h1 : t ≤ 6597319766656) (hk : k ≤ 20) : wrap64 (t * 2 ^ k) = t * 2 ^ k := by
  obtain ⟨a, b⟩ := shl_bd t k h0 h1 hk
  generalize t * 2 ^ k = x at *
  unfold wrap64
  omega
/-- How long an RPC waits. -/
def cut (x : Int) : Int := min x 2000000000
theorem cut_lo {x : Int} (h : x ≤ 2000000000) : cut x = x := by unfold cut; omega
theorem cut_hi {x : Int} (h : ¬ x ≤ 2000000000) : cut x = 2000000000 := by unfold cut; omega

theorem timeout_zero (d n : Int) (k : Nat) (w : World) (hk : k ≤ 20) (hn : n = (k : Int)) :
    Calls Trym.prog 24 #[.agg #[.int .i64 0, .int .i64 d], .int .i64 n] w fun e w' => e = .returned (.int .i64 (cut (1000000000 * 2 ^ k))) ∧ Below w.heap.size w w' := by
  subst hn
  have hw := shl_wrap 1000000000 k (by omega) (by omega) hk
  by_cases hc : (1000000000 : Int) * 2 ^ k ≤ 2000000000
  · have HC : Hid (cut (1000000000 * 2 ^ k) = 1000000000 * 2 ^ k) := cut_lo hc
    go_enter Trym.func24, Trym.ntmps24
    go_wp2
    go_ret
    exact ⟨by rw [HC.out]; rfl, (Below.refl _ _).alloc (Nat.le_refl _) _⟩
  · have HC : Hid (cut (1000000000 * 2 ^ k) = 2000000000) := cut_hi hc
    go_enter Trym.func24, Trym.ntmps24
    go_wp2
    go_ret
    exact ⟨by rw [HC.out]; rfl, (Below.refl _ _).alloc (Nat.le_refl _) _⟩
theorem timeout_pos (m d n : Int) (k : Nat) (w : World) (h1 : 0 < m) (h2 : m ≤ 1099511627776) (h3 : 0 ≤ d) (h4 : d ≤ 1099511627776) (hk : k ≤ 20) (hn : n = (k : Int)) :
    Calls Trym.prog 24 #[.agg #[.int .i64 m, .int .i64 d], .int .i64 n] w fun e w' => e = .returned (.int .i64 (cut ((2 * m + 4 * d + 250000000) * 2 ^ k))) ∧ Below w.heap.size w w' := by
  subst hn
  have hw := shl_wrap (2 * m + 4 * d + 250000000) k (by omega) (by omega) hk
  by_cases hc : (2 * m + 4 * d + 250000000) * 2 ^ k ≤ 2000000000
  · have HC : Hid (cut ((2 * m + 4 * d + 250000000) * 2 ^ k) = (2 * m + 4 * d + 250000000) * 2 ^ k) := cut_lo hc
    go_enter Trym.func24, Trym.ntmps24
    go_wp2_with fail
    refine (allowing_any m d _ _ (by omega) h2 h3 h4 (by omega) (by omega)).mono ?_
    rintro e w' ⟨rfl, hb⟩
    go_wp2
    go_ret
    exact ⟨by rw [HC.out]; rfl, ((Below.refl _ _).alloc (Nat.le_refl _) _).trans (hb.mono (by simp))⟩
  · have HC : Hid (cut ((2 * m + 4 * d + 250000000) * 2 ^ k) = 2000000000) := cut_hi hc
    go_enter Trym.func24, Trym.ntmps24
    go_wp2_with fail
    refine (allowing_any m d _ _ (by omega) h2 h3 h4 (by omega) (by omega)).mono ?_
    rintro e w' ⟨rfl, hb⟩
    go_wp2
    go_ret
    exact ⟨by rw [HC.out]; rfl, ((Below.refl _ _).alloc (Nat.le_refl _) _).trans (hb.mono (by simp))⟩
/-- The base of the time-out. -/
def tbase (m d : Int) : Int := if 0 < m then 2 * m + 4 * d + 250000000 else 1000000000
theorem zztimeout_any (m d n : Int) (k : Nat) (w : World) (h1 : 0 ≤ m) (h2 : m ≤ 1099511627776) (h3 : 0 ≤ d) (h4 : d ≤ 1099511627776) (hk : k ≤ 20) (hn : n = (k : Int)) :
    Calls Trym.prog 7 #[.agg #[.int .i64 m, .int .i64 d], .int .i64 n] w fun e w' => e = .returned (.int .i64 (cut (tbase m d * 2 ^ k))) ∧ Below w.heap.size w w' := by
  subst hn
  by_cases hm : 0 < m
  · have HT : Hid (tbase m d = 2 * m + 4 * d + 250000000) := by show _ = _; simp [tbase, hm]
    go_enter Trym.func7, Trym.ntmps7
    go_wp2_with fail
    refine (timeout_pos m d _ k _ hm h2 h3 h4 hk rfl).mono ?_
    rintro e w' ⟨rfl, hb⟩
    go_wp2
    go_ret
    exact ⟨by rw [HT.out]; rfl, ((Below.refl _ _).alloc (Nat.le_refl _) _).trans (hb.mono (by simp))⟩
  · obtain rfl : m = 0 := by omega
    have HT : Hid (tbase 0 d = 1000000000) := rfl
    go_enter Trym.func7, Trym.ntmps7
    go_wp2_with fail
    refine (timeout_zero d _ k _ hk rfl).mono ?_
    rintro e w' ⟨rfl, hb⟩
    go_wp2
    go_ret
    exact ⟨by rw [HT.out]; rfl, ((Below.refl _ _).alloc (Nat.le_refl _) _).trans (hb.mono (by simp))⟩
/-- The stall time. -/
def stalls (m d : Int) : Int := if 0 < m then 2 * m + 4 * d + 50000000 else 250000000
theorem zzstall_any (m d : Int) (w : World) (h1 : 0 ≤ m) (h2 : m ≤ 1099511627776) (h3 : 0 ≤ d) (h4 : d ≤ 1099511627776) :
    Calls Trym.prog 8 #[.agg #[.int .i64 m, .int .i64 d]] w fun e w' => e = .returned (.int .i64 (stalls m d)) ∧ Below w.heap.size w w' := by
  by_cases hm : 0 < m
  · have HT : Hid (stalls m d = 2 * m + 4 * d + 50000000) := by show _ = _; simp [stalls, hm]
    go_enter Trym.func8, Trym.ntmps8
    go_wp2_with fail
    refine (stall_pos m d _ hm h2 h3 h4).mono ?_
    rintro e w' ⟨rfl, hb⟩
    go_wp2
    go_ret
    exact ⟨by rw [HT.out]; rfl, ((Below.refl _ _).alloc (Nat.le_refl _) _).trans (hb.mono (by simp))⟩
  · obtain rfl : m = 0 := by omega
    have HT : Hid (stalls 0 d = 250000000) := rfl
    go_enter Trym.func8, Trym.ntmps8
    go_wp2_with fail
    refine (stall_zero d _).mono ?_
    rintro e w' ⟨rfl, hb⟩
    go_wp2
    go_ret
    exact ⟨by rw [HT.out]; rfl, ((Below.refl _ _).alloc (Nat.le_refl _) _).trans (hb.mono (by simp))⟩
theorem new_any (m d : Int) (w : World) :
    Calls Trym.prog 6 #[.int .i64 m, .int .i64 d] w fun e w' => e = .returned (.agg #[.int .i64 m, .int .i64 d]) ∧ Below w.heap.size w w' := by
  go_enter Trym.func6, Trym.ntmps6
  go_wp2
  exact bodyPost_ret (v := .agg #[.int .i64 m, .int .i64 d]) (by simp [results, Trym.results6, go_sem]) rfl ⟨rfl, (Below.refl _ _).alloc (Nat.le_refl _) _⟩

theorem law_cut (t : Int) (k : Nat) (h0 : 0 ≤ t) : cut (t * 2 ^ (k + 1)) = min (2 * cut (t * 2 ^ k)) 2000000000 ∧ cut (t * 2 ^ 0) ≤ cut (t * 2 ^ k) ∧ cut (t * 2 ^ k) ≤ cut (t * 2 ^ (k + 1)) ∧ cut (t * 2 ^ (k + 1)) ≤ 2000000000 ∧ 0 ≤ cut (t * 2 ^ k) ∧ cut (t * 2 ^ k) ≤ 2000000000 := by
  have hp : (1 : Int) ≤ 2 ^ k := by
    have := Nat.one_le_two_pow (n := k)
    have e : ((2 ^ k : Nat) : Int) = (2 : Int) ^ k := by simp
    omega
  have e1 : t * 2 ^ (k + 1) = 2 * (t * 2 ^ k) := by rw [Int.pow_succ]; rw [← Int.mul_assoc, Int.mul_comm]
  have e0 : t * 2 ^ 0 = t := by simp
  have e2 : t ≤ t * 2 ^ k := by
    have := Int.mul_le_mul_of_nonneg_left hp h0
    simpa using this
  rw [e1, e0]
  generalize t * 2 ^ k = x at *
  unfold cut
  omega

set_option maxRecDepth 100000 in
set_option maxHeartbeats 1000000 in
theorem law_walk (m d : Int) (k : Nat) (w : World) (h1 : 0 ≤ m) (h2 : m ≤ 1099511627776) (h3 : 0 ≤ d) (h4 : d ≤ 1099511627776) (hk : k ≤ 19) :
    Calls Trym.prog 3 #[.int .i64 m, .int .i64 d, .int .i64 k] w fun e w' => e = .returned (.bool true) ∧ Below w.heap.size w w' := by
  have ht0 : 0 ≤ tbase m d := by unfold tbase; split <;> omega
  obtain ⟨q1, q2, q3, q4, q5, q6⟩ := law_cut (tbase m d) k ht0
  have HS : Hid (0 < m → cut (tbase m d * 2 ^ 0) = min (stalls m d + 200000000) 2000000000) := fun hm => by
    simp [tbase, stalls, hm, cut]; omega
  have HZ : Hid (¬ 0 < m → stalls m d = 250000000 ∧ cut (tbase m d * 2 ^ 0) = 1000000000) := fun hm => by
    simp [tbase, stalls, hm, cut]; omega
  have HB : Hid (0 ≤ stalls m d ∧ stalls m d ≤ 7000000000000) := by
    show _ ∧ _
    unfold stalls; split <;> omega
  have T0 := fun W => zztimeout_any m d 0 0 W h1 h2 h3 h4 (by omega) rfl
  have T1 := fun W => zztimeout_any m d k k W h1 h2 h3 h4 (by omega) rfl
  have T2 := fun W => zztimeout_any m d (k + 1) (k + 1) W h1 h2 h3 h4 (by omega) (by omega)
  generalize cut (tbase m d * 2 ^ 0) = t0 at *
  generalize cut (tbase m d * 2 ^ k) = tm at *
  generalize cut (tbase m d * 2 ^ (k + 1)) = tn at *
  have TS := fun W => zzstall_any m d W h1 h2 h3 h4
  generalize stalls m d = st at *
  have K0 : Hid (∀ W, Calls Trym.prog 7 #[.agg #[.int .i64 m, .int .i64 d], .int .i64 0] W fun e w' => e = .returned (.int .i64 t0) ∧ Below W.heap.size W w') := T0
  have K1 : Hid (∀ W, Calls Trym.prog 7 #[.agg #[.int .i64 m, .int .i64 d], .int .i64 k] W fun e w' => e = .returned (.int .i64 tm) ∧ Below W.heap.size W w') := T1
  have K2 : Hid (∀ W, Calls Trym.prog 7 #[.agg #[.int .i64 m, .int .i64 d], .int .i64 (k + 1)] W fun e w' => e = .returned (.int .i64 tn) ∧ Below W.heap.size W w') := T2
  have KS : Hid (∀ W, Calls Trym.prog 8 #[.agg #[.int .i64 m, .int .i64 d]] W fun e w' => e = .returned (.int .i64 st) ∧ Below W.heap.size W w') := TS
  have Q1 : Hid (tn = min (2 * tm) 2000000000) := q1
  clear T0 T1 T2 TS q1 ht0
  go_enter Trym.func3, Trym.ntmps3
  go_wp2_with fail
  refine (new_any m d _).mono ?_
  rintro e v0 ⟨rfl, B0⟩
  go_wp2_with fail
  refine (K0.out _).mono ?_
  rintro e v1 ⟨rfl, B1⟩
  have C : ∀ {W v : World}, Below W.heap.size W v → (∀ o u, W.cell? ⟨v0.heap.size, o, none⟩ = some u → v.cell? ⟨v0.heap.size, o, none⟩ = some u) := fun hb o u h => (hb.cell (by have := cell_lt h; exact this)).trans h
  have c0 : (v0.alloc (.cells #[.int .i64 m, .int .i64 d] 24)).cell? ⟨v0.heap.size, 0, none⟩ = some (.int .i64 m) := by go_simp
  have c1 : (v0.alloc (.cells #[.int .i64 m, .int .i64 d] 24)).cell? ⟨v0.heap.size, 1, none⟩ = some (.int .i64 d) := by go_simp
  replace c0 := C B1 _ _ c0
  replace c1 := C B1 _ _ c1
  have BB : Below w.heap.size w v1 := (B0.alloc B0.size _).trans (B1.mono (by simp; have := B0.size; omega))
  have HC : Hid (∀ {W v : World}, Below W.heap.size W v → (∀ o u, W.cell? ⟨v0.heap.size, o, none⟩ = some u → v.cell? ⟨v0.heap.size, o, none⟩ = some u)) := C
  clear C B0 B1
  go_wp2_with fail
  refine (K1.out _).mono ?_
  rintro e v2 ⟨rfl, B1⟩
  replace c0 := HC.out B1 _ _ c0
  replace c1 := HC.out B1 _ _ c1
  replace BB := BB.trans (B1.mono BB.size)
  clear B1
  go_wp2_with fail
  refine (K2.out _).mono ?_
  rintro e v3 ⟨rfl, B1⟩
  replace c0 := HC.out B1 _ _ c0
  replace c1 := HC.out B1 _ _ c1
  replace BB := BB.trans (B1.mono BB.size)
  clear B1
  go_wp2_with fail
  refine (KS.out _).mono ?_
  rintro e v4 ⟨rfl, B1⟩
  replace BB := BB.trans (B1.mono BB.size)
  clear B1 c0 c1 K0 K1 K2 KS HC
  obtain ⟨b1, b2⟩ := HB.out
  by_cases hm : 0 < m
  · have HE := HS.out hm
    have HE' : Hid (t0 = min (st + 200000000) 2000000000) := HE
    clear HE
    go_wp2_with fail
    refine (min_any _ _ _).mono ?_
    rintro e v5 ⟨rfl, hv⟩
    subst v5
    have z1 : (t0 == min (st + 200000000) 2000000000) = true := by rw [beq_iff_eq]; exact HE'.out
    go_wp2_with fail
    refine (min_any _ _ _).mono ?_
    rintro e v5 ⟨rfl, hv⟩
    subst v5
    have z2 : (tn == min (2 * tm) 2000000000) = true := by rw [beq_iff_eq]; exact Q1.out
    go_wp2
    go_ret
    exact ⟨rfl, BB⟩
  · obtain ⟨r1, r2⟩ := HZ.out (by omega)
    have z3 : (st == 250000000) = true := by rw [beq_iff_eq]; exact r1
    have z4 : (t0 == 1000000000) = true := by rw [beq_iff_eq]; exact r2
    clear r1 r2
    go_wp2_with fail
    refine (min_any _ _ _).mono ?_
    rintro e v5 ⟨rfl, hv⟩
    subst v5
    have z2 : (tn == min (2 * tm) 2000000000) = true := by rw [beq_iff_eq]; exact Q1.out
    go_wp2
    go_ret
    exact ⟨rfl, BB⟩
end Go.Proofs.Qxb6604729aMods
