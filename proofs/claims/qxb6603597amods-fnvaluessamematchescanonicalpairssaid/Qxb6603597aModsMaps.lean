import Derived.Test.Qxb6603597aModsStrs
import Derived.Maps.RangeWalk
import Derived.Maps.StringElems
import Derived.StringKeys
namespace Go.Proofs.Qxb6603597aMods
open Go.ChangeShapes Go.WideShapes Go.ChangeAt Go.RowKit
set_option linter.unusedVariables false

theorem law9 : Maps.Keyed Trym.prog 9 := Maps.string_keyed Trym.underlying9
def KL (s : ByteArray) : Lit := .string s.data.toList
def VD (s : ByteArray) : DataW Unit := .lit (.string s.data.toList)
/-- What the first n pairs build. -/
def buildTo (ks vs : List ByteArray) : Nat → DataW Unit
  | 0 => .map []
  | n + 1 => (buildTo ks vs n).put (KL (nth ks n)) (VD (nth vs n))
/-- What a map's value reads as. -/
def MapAt (w : World) (v : Value) (D : DataW Unit) : Prop :=
  (v = .map none ∧ D = .map []) ∨ ∃ b, v = .map (some b) ∧ w.ownsMap Trym.prog 9 (plainElem Trym.prog 9) b 5000 D

theorem key9 {s : ByteArray} (hs : s.size ≤ 9223372036854775807) : keyOf Trym.prog 9 (.string s) = some (KL s) :=
  WideMaps.keyOf_string_mk Trym.underlying9 (by unfold maxLen; omega)
theorem val9 {s : ByteArray} (hs : s.size ≤ 9223372036854775807) : plainElem (H := Unit) Trym.prog 9 (.string s) = some (VD s, []) :=
  plainElem_string Trym.underlying9 (by unfold maxLen; omega)

set_option maxRecDepth 100000 in
set_option maxHeartbeats 1000000 in
theorem build_made (a0 a1 : Option Addr) (c0 c1 : Nat) (ks vs : List ByteArray) (f : Bool) (w : World) (hn : ks.length ≤ 4096) (hm : vs.length ≤ 4096) (h0 : StrsAt w a0 ks) (h1 : StrsAt w a1 vs) (hf : (a0.isNone && !f) = false) :
    Calls Trym.prog 10 #[.slice a0 ks.length c0, .slice a1 vs.length c1, .bool f] w fun e w' => e = .returned (.map (some w.heap.size)) ∧ w'.ownsMap Trym.prog 9 (plainElem Trym.prog 9) w.heap.size ks.length (buildTo ks vs ks.length) ∧ Below w.heap.size w w' := by
  have q22 := eql22
  have hmk : Sem.run Trym.prog (Instr.makeMap 26 none) w = .ok (.map (some w.heap.size)) (w.alloc (.map #[] 0)) := run_makeMap 26 w
  cases ha : a0 with
  | none =>
    subst ha
    obtain rfl : f = true := by simpa using hf
    go_enter Trym.func10, Trym.ntmps10
    go_wp2
    go_loopw [8] (fun i wr => ∃ k : Nat, k ≤ ks.length ∧ i = .int .i64 k ∧ wr.ownsMap Trym.prog 9 (plainElem Trym.prog 9) w.heap.size k (buildTo ks vs k) ∧ Below w.heap.size w wr) (fun i _ => ks.length - (intOf i).toNat)
    case atStart => exact ⟨0, Nat.zero_le _, rfl, World.ownsMap_made w _ _ _, (Below.refl _ _).alloc (Nat.le_refl _) _⟩
    obtain ⟨k, hk, rfl, hown, hnx⟩ := hrel
    by_cases hlt : k < ks.length
    · obtain ⟨p0, hp0, _⟩ := h0 k hlt
      cases hp0
    · clear h0 h1 hmk q22
      obtain rfl : k = ks.length := by omega
      go_wp2
      go_ret
      exact ⟨rfl, hown, hnx⟩
  | some p =>
    subst ha
    go_enter Trym.func10, Trym.ntmps10
    go_wp2
    go_loopw [8] (fun i wr => ∃ k : Nat, k ≤ ks.length ∧ i = .int .i64 k ∧ wr.ownsMap Trym.prog 9 (plainElem Trym.prog 9) w.heap.size k (buildTo ks vs k) ∧ Below w.heap.size w wr) (fun i _ => ks.length - (intOf i).toNat)
    case atStart => exact ⟨0, Nat.zero_le _, rfl, World.ownsMap_made w _ _ _, (Below.refl _ _).alloc (Nat.le_refl _) _⟩
    obtain ⟨k, hk, rfl, hown, hnx⟩ := hrel
    by_cases hlt : k < ks.length
    · obtain ⟨p0, hp0, hc0, hs0⟩ := h0 k hlt
      cases hp0
      have hc0' : wr.cell? (p.add k) = some (.string (nth ks k)) := (hnx.cell (cell_lt hc0)).trans hc0
      have hkey := key9 hs0
      have hsz := hnx.size
      have hwl := hown.lt
      clear h0 hc0 hmk q22
      by_cases hl1 : k < vs.length
      · obtain ⟨p1, rfl, hc1, hs1⟩ := h1 k hl1
        have hc1' : wr.cell? (p1.add k) = some (.string (nth vs k)) := (hnx.cell (cell_lt hc1)).trans hc1
        have hval := val9 hs1
        clear h1 hc1
        go_wp2_with (first
          | (at_mapUpdate; refine wpList_mapUpdate_own _ rfl _ _ _ 26 rfl 9 9 law9 Trym.underlying26 _ w.heap.size k _ rfl hown (by unfold maxLen; omega) _ _ _ rfl rfl hkey _ [] hval ?_; intro w1 hown1 hgrow1)
          | go_in)
        go_roundw
        case rel => exact ⟨k + 1, by omega, by go_num, hown1, hnx.grown hgrow1 hsz (by intro j hj; cases hj; exact Nat.le_refl _)⟩
        case measure => simp [intOf]; omega
      · have hvn : nth vs k = ⟨#[]⟩ := by simp [nth, List.getElem?_eq_none (show vs.length ≤ k by omega)]; rfl
        have hval : plainElem (H := Unit) Trym.prog 9 (.string ⟨#[]⟩) = some (VD (nth vs k), []) := by rw [hvn]; exact val9 (by simp [ByteArray.size])
        clear h1 hvn
        go_wp2_with (first
          | (at_mapUpdate; refine wpList_mapUpdate_own _ rfl _ _ _ 26 rfl 9 9 law9 Trym.underlying26 _ w.heap.size k _ rfl hown (by unfold maxLen; omega) _ _ _ rfl rfl hkey _ [] hval ?_; intro w1 hown1 hgrow1)
          | go_in)
        go_roundw
        case rel => exact ⟨k + 1, by omega, by go_num, hown1, hnx.grown hgrow1 hsz (by intro j hj; cases hj; exact Nat.le_refl _)⟩
        case measure => simp [intOf]; omega
    · clear h0 h1 hmk q22
      obtain rfl : k = ks.length := by omega
      go_wp2
      go_ret
      exact ⟨rfl, hown, hnx⟩
end Go.Proofs.Qxb6603597aMods
