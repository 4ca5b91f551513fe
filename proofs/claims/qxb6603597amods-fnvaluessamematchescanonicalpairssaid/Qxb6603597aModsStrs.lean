import Derived.Test.Qxb6603597aModsRows
import Derived.WalkKit
import Derived.ProofKit
import Derived.Lib.SliceRun
import Derived.OwnWalk
namespace Go.Proofs.Qxb6603597aMods
open Go.ChangeShapes Go.WideShapes Go.ChangeAt Go.RowKit
set_option linter.unusedVariables false

/-- The k-th string of a list. -/
def nth (ss : List ByteArray) (k : Nat) : ByteArray := ss.getD k ByteArray.empty
/-- The cells behind the slice's address a hold the strings ss (a nil slice: no string). -/
def StrsAt (w : World) (a : Option Addr) (ss : List ByteArray) : Prop :=
  (∀ k, k < ss.length → ∃ p, a = some p ∧ w.cell? (p.add k) = some (.string (nth ss k)) ∧ (nth ss k).size ≤ 9223372036854775807)
theorem cell_lt {w : World} {p : Addr} {v : Value} (h : w.cell? p = some v) : p.block < w.heap.size := by
  unfold World.cell? at h
  by_cases hb : p.block < w.heap.size
  · exact hb
  · rw [Array.getElem?_eq_none (by omega)] at h
    simp at h

theorem add_block (p : Addr) (k : Nat) : (p.add k).block = p.block := by
  unfold Addr.add
  split <;> rfl

theorem StrsAt.below {w w' : World} {a : Option Addr} {ss : List ByteArray} (h : StrsAt w a ss) (hb : Below w.heap.size w w') : StrsAt w' a ss := by
  intro k hk
  obtain ⟨p, hp, hc, hs⟩ := h k hk
  exact ⟨p, hp, (hb.cell (cell_lt hc)).trans hc, hs⟩

/-- It returns one bool, whichever. -/
def RetBool (e : Ending) : Prop := ∃ r, e = .returned (.bool r)

set_option maxHeartbeats 400000 in
theorem addBytes_any (t : Int) (a : Option Addr) (c : Nat) (ss : List ByteArray) (w : World) (hn : ss.length ≤ 4096) (h : StrsAt w a ss) :
    Calls Trym.prog 8 #[.int .i64 t, .slice a ss.length c] w fun e w' => (∃ r, e = .returned (.int .i64 r)) ∧ w' = w := by
  unfold StrsAt at h
  go_enter Trym.func8, Trym.ntmps8
  go_wp2
  go_loop [0, 5] (fun u i => ∃ (k : Nat) (z : Int), k ≤ ss.length ∧ i = .int .i64 k ∧ u = .int .i64 z) (fun _ i => ss.length - (intOf i).toNat)
  case atStart => exact ⟨0, t, Nat.zero_le _, rfl, rfl⟩
  case round =>
    obtain ⟨k, z, hk, rfl, rfl⟩ := hrel
    by_cases hlt : k < ss.length
    · obtain ⟨p, rfl, hc, hs⟩ := h k hlt
      clear h
      go_wp2
      case roundEnd => exact ⟨⟨k + 1, _, by omega, by go_num, rfl⟩, by simp [intOf]; omega⟩
      all_goals (go_ret; exact ⟨⟨_, rfl⟩, rfl⟩)
    · clear h
      go_wp2
      go_ret
      exact ⟨⟨_, rfl⟩, rfl⟩

set_option maxHeartbeats 4000000 in
theorem bytes13_any (a0 a1 a2 a3 : Option Addr) (c0 c1 c2 c3 : Nat) (s0 s1 s2 s3 : List ByteArray) (k x : ByteArray) (b : Bool) (w : World)
    (n0 : s0.length ≤ 9223372036854775807) (n1 : s1.length ≤ 9223372036854775807) (n2 : s2.length ≤ 9223372036854775807) (n3 : s3.length ≤ 9223372036854775807) (nk : k.size ≤ 9223372036854775807) (nx : x.size ≤ 9223372036854775807)
    (h0 : StrsAt w a0 s0) (h1 : StrsAt w a1 s1) (h2 : StrsAt w a2 s2) (h3 : StrsAt w a3 s3) :
    Calls Trym.prog 13 #[.slice a0 s0.length c0, .slice a1 s1.length c1, .slice a2 s2.length c2, .slice a3 s3.length c3, .string k, .string x, .bool b] w fun e w' => RetBool e ∧ w' = w := by
  go_enter Trym.func13, Trym.ntmps13
  go_wp2
  all_goals try (go_ret; exact ⟨⟨_, rfl⟩, rfl⟩)
  go_loop [15, 16] (fun u i => ∃ (j : Nat) (z : Int), j ≤ s0.length ∧ i = .int .i64 j ∧ u = .int .i64 z) (fun _ i => s0.length - (intOf i).toNat)
  case atStart => exact ⟨0, _, Nat.zero_le _, rfl, rfl⟩
  obtain ⟨j0, z0, hj0, rfl, rfl⟩ := hrel
  by_cases hlt0 : j0 < s0.length
  · obtain ⟨p, rfl, hc, hs⟩ := h0 j0 hlt0
    clear h0 h1 h2 h3
    go_wp2
    case roundEnd => exact ⟨⟨j0 + 1, _, by omega, by go_num, rfl⟩, by simp [intOf]; omega⟩
    all_goals (go_ret; exact ⟨⟨_, rfl⟩, rfl⟩)
  clear h0
  go_wp2
  all_goals try (go_ret; exact ⟨⟨_, rfl⟩, rfl⟩)
  go_loop [15, 17] (fun u i => ∃ (j : Nat) (z : Int), j ≤ s1.length ∧ i = .int .i64 j ∧ u = .int .i64 z) (fun _ i => s1.length - (intOf i).toNat)
  case atStart => exact ⟨0, _, Nat.zero_le _, rfl, rfl⟩
  obtain ⟨j1, z1, hj1, rfl, rfl⟩ := hrel
  by_cases hlt1 : j1 < s1.length
  · obtain ⟨p, rfl, hc, hs⟩ := h1 j1 hlt1
    clear h1 h2 h3
    go_wp2
    case roundEnd => exact ⟨⟨j1 + 1, _, by omega, by go_num, rfl⟩, by simp [intOf]; omega⟩
    all_goals (go_ret; exact ⟨⟨_, rfl⟩, rfl⟩)
  clear h1
  go_wp2
  all_goals try (go_ret; exact ⟨⟨_, rfl⟩, rfl⟩)
  go_loop [15, 18] (fun u i => ∃ (j : Nat) (z : Int), j ≤ s2.length ∧ i = .int .i64 j ∧ u = .int .i64 z) (fun _ i => s2.length - (intOf i).toNat)
  case atStart => exact ⟨0, _, Nat.zero_le _, rfl, rfl⟩
  obtain ⟨j2, z2, hj2, rfl, rfl⟩ := hrel
  by_cases hlt2 : j2 < s2.length
  · obtain ⟨p, rfl, hc, hs⟩ := h2 j2 hlt2
    clear h2 h3
    go_wp2
    case roundEnd => exact ⟨⟨j2 + 1, _, by omega, by go_num, rfl⟩, by simp [intOf]; omega⟩
    all_goals (go_ret; exact ⟨⟨_, rfl⟩, rfl⟩)
  clear h2
  go_wp2
  all_goals try (go_ret; exact ⟨⟨_, rfl⟩, rfl⟩)
  go_loop [15, 19] (fun u i => ∃ (j : Nat) (z : Int), j ≤ s3.length ∧ i = .int .i64 j ∧ u = .int .i64 z) (fun _ i => s3.length - (intOf i).toNat)
  case atStart => exact ⟨0, _, Nat.zero_le _, rfl, rfl⟩
  obtain ⟨j3, z3, hj3, rfl, rfl⟩ := hrel
  by_cases hlt3 : j3 < s3.length
  · obtain ⟨p, rfl, hc, hs⟩ := h3 j3 hlt3
    clear h3
    go_wp2
    case roundEnd => exact ⟨⟨j3 + 1, _, by omega, by go_num, rfl⟩, by simp [intOf]; omega⟩
    all_goals (go_ret; exact ⟨⟨_, rfl⟩, rfl⟩)
  clear h3
  go_wp2
  all_goals try (go_ret; exact ⟨⟨_, rfl⟩, rfl⟩)

theorem Trym.info9 : (Trym.prog.info? 9).map (fun i => (i.zero, i.size, i.bytes)) = some (some (.string ⟨#[]⟩), 1, 16) := by kernel_rfl

/-- 's == nil'. -/
theorem eql22 (w : World) (a : Option Addr) (n c n' c' : Nat) : Sem.run Trym.prog (binOp .eql 22 (.slice a n c) (.slice none n' c')) w = .ok (.bool a.isNone) w :=
  Lib.run_eql_slice_nil w _ _ a n c n' c' Trym.underlying22

theorem filled {ss : List ByteArray} {cs : Array Value} (hs : cs.size = ss.length) (h : ∀ i, i < ss.length → cs[i]? = some (.string (nth ss i))) : cs.toList = ss.map Value.string := by
  apply List.ext_getElem
  · simp [hs]
  · intro i h1 h2
    have hi : i < ss.length := by simpa using h2
    have := h i hi
    rw [Array.getElem?_eq_getElem (by omega)] at this
    simp only [Option.some.injEq] at this
    simp [this, nth, hi]

set_option maxRecDepth 100000 in
set_option maxHeartbeats 400000 in
theorem clone_some (a : Addr) (c : Nat) (ss : List ByteArray) (w : World) (hn : ss.length ≤ 4096) (h : StrsAt w (some a) ss) :
    Calls Trym.prog 9 #[.slice (some a) ss.length c] w fun e w' => e = .returned (.slice (some ⟨w.heap.size, 0, none⟩) ss.length ss.length) ∧ ∃ cs : Array Value, cs.toList = ss.map Value.string ∧ w' = w.alloc (.cells cs 9) := by
  obtain ⟨i0, hi, hz0, hz1, hz2⟩ := info_parts Trym.info9
  have hmk := run_make (P := Trym.prog) w 22 9 i0 (.string ⟨#[]⟩) Trym.underlying22 hi hz0 .i64 .i64 ss.length ss.length (by omega) (by omega) (by rw [hz2]; omega) (by omega)
  have hsz := size_madeCells (Value.cells (.string ⟨#[]⟩)) ss.length
  rw [hz1, Nat.mul_one] at hmk
  simp only [Int.toNat_natCast] at hmk
  generalize madeCells (Value.cells (.string ⟨#[]⟩)) ss.length = cs0 at hmk hsz
  clear hi hz0 hz1 hz2
  have q22 := eql22
  go_enter Trym.func9, Trym.ntmps9
  go_wp2
  go_loopw [4] (fun i wr => ∃ (k : Nat) (cs : Array Value), k ≤ ss.length ∧ i = .int .i64 k ∧ cs.size = ss.length ∧ (∀ i, i < k → cs[i]? = some (.string (nth ss i))) ∧ wr = w.alloc (.cells cs 9)) (fun i _ => ss.length - (intOf i).toNat)
  case atStart => exact ⟨0, cs0, Nat.zero_le _, rfl, hsz, by simp, rfl⟩
  case round =>
    obtain ⟨k, cs, hk, rfl, hcs, hall, rfl⟩ := hrel
    by_cases hlt : k < ss.length
    · obtain ⟨p, hp, hc, hs⟩ := h k hlt
      cases hp
      have hc' : (w.alloc (.cells cs 9)).cell? (a.add k) = some (.string (nth ss k)) :=
        (((Below.refl w.heap.size w).alloc (Nat.le_refl _) _).cell (cell_lt hc)).trans hc
      have HA : Hid (∀ i, i < k → cs[i]? = some (.string (nth ss i))) := hall
      clear h hmk hall hc q22
      go_wp2
      refine ⟨⟨k + 1, _, by omega, by go_num, by simp [hcs], ?_, rfl⟩, by simp [intOf]; omega⟩
      intro i hi
      have := HA.out i
      rw [Array.getElem?_setIfInBounds]
      by_cases e : k = i
      · subst e
        simp [hcs, hlt]
      · rw [if_neg e]
        exact this (by omega)
    · have HA : Hid (∀ i, i < k → cs[i]? = some (.string (nth ss i))) := hall
      clear h hmk hall q22
      go_wp2
      go_ret
      exact ⟨rfl, cs, filled hcs (fun i hi => HA.out i (by omega)), rfl⟩

theorem strs_new {w : World} {ss : List ByteArray} {cs : Array Value} (hcs : cs.toList = ss.map Value.string) (hs : ∀ k, k < ss.length → (nth ss k).size ≤ 9223372036854775807) :
    StrsAt (w.alloc (.cells cs 9)) (some ⟨w.heap.size, 0, none⟩) ss := by
  intro k hk
  refine ⟨_, rfl, ?_, hs k hk⟩
  have e : cs[k]? = some (.string (nth ss k)) := by
    rw [← Array.getElem?_toList, hcs]
    simp [nth, hk]
  have ha : (Addr.add ⟨w.heap.size, 0, none⟩ k) = ⟨w.heap.size, k, none⟩ := by
    unfold Addr.add
    split
    · subst_vars; rfl
    · simp
  rw [ha]
  go_simp

set_option maxHeartbeats 400000 in
/-- A copy: nil of nil, else fresh. -/
theorem clone_any (a : Option Addr) (c : Nat) (ss : List ByteArray) (w : World) (hn : ss.length ≤ 4096) (h : StrsAt w a ss) (hnil : a = none → c = 0) :
    Calls Trym.prog 9 #[.slice a ss.length c] w fun e w' => ∃ a', e = .returned (.slice a' ss.length ss.length) ∧ StrsAt w' a' ss ∧ a'.isNone = a.isNone ∧ Below w.heap.size w w' := by
  cases a with
  | some a =>
    refine (clone_some a c ss w hn h).mono ?_
    rintro e w' ⟨rfl, cs, hcs, rfl⟩
    exact ⟨_, rfl, strs_new hcs (fun k hk => by obtain ⟨_, _, _, hs⟩ := h k hk; exact hs), rfl, (Below.refl _ _).alloc (Nat.le_refl _) _⟩
  | none =>
    obtain rfl := hnil rfl
    have hss : ss = [] := by
      cases ss with
      | nil => rfl
      | cons s r => obtain ⟨p, hp, _⟩ := h 0 (by simp); cases hp
    subst hss
    have q22 := eql22
    go_enter Trym.func9, Trym.ntmps9
    go_wp2
    go_ret
    exact ⟨none, rfl, h, rfl, Below.refl _ _⟩

end Go.Proofs.Qxb6603597aMods
