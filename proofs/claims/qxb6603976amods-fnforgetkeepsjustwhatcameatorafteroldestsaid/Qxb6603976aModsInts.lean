import Derived.Test.Qxb6603976aModsRows
import Derived.WalkKit
import Derived.ProofKit
import Derived.Lib.SliceRun
import Derived.OwnWalk
import Derived.Laws.CopyRow
import Derived.RegionTactic
import Derived.ChangeAlike
import Derived.Deep.QuietTactic
import Derived.BigQuiet
namespace Go.Proofs.Qxb6603976aMods
open Go.ChangeShapes Go.WideShapes Go.ChangeAt Go.RowKit
set_option linter.unusedVariables false

/-- The k-th number of a list. -/
def nthI (zs : List Int) (k : Nat) : Int := zs.getD k 0
/-- The cells behind the slice's address a hold the numbers zs (a nil slice: none). -/
def IntsAt (w : World) (a : Option Addr) (zs : List Int) : Prop := ∀ k, k < zs.length → ∃ p, a = some p ∧ w.cell? (p.add k) = some (.int .i64 (nthI zs k))

theorem cell_lt {w : World} {p : Addr} {v : Value} (h : w.cell? p = some v) : p.block < w.heap.size := by
  unfold World.cell? at h
  by_cases hb : p.block < w.heap.size
  · exact hb
  · rw [Array.getElem?_eq_none (by omega)] at h
    simp at h

theorem IntsAt.below {w w' : World} {a : Option Addr} {zs : List Int} (h : IntsAt w a zs) (hb : Below w.heap.size w w') : IntsAt w' a zs := by
  intro k hk
  obtain ⟨p, hp, hc⟩ := h k hk
  exact ⟨p, hp, (hb.cell (cell_lt hc)).trans hc⟩

theorem bel_drewN {B : Nat} {a w : World} (h : Below B a w) (n : Nat) : Below B a (w.drewN n) := h.trans ⟨rfl, rfl, rfl, Nat.le_refl _, fun _ _ => rfl⟩

/-! ### how many come before 'oldest' -/
def firstGe (zs : List Int) (o : Int) : Nat := (zs.takeWhile (fun z => decide (z < o))).length

theorem firstGe_le (zs : List Int) (o : Int) : firstGe zs o ≤ zs.length := by
  unfold firstGe
  induction zs with
  | nil => simp
  | cons z t ih => 
    rw [List.takeWhile_cons]
    split
    · simpa using ih
    · simp

theorem firstGe_lt : ∀ (zs : List Int) (o : Int) (i : Nat), i < firstGe zs o → nthI zs i < o
  | [], o, i, h => by simp [firstGe] at h
  | z :: t, o, i, h => by
    unfold firstGe at h
    rw [List.takeWhile_cons] at h
    split at h
    · rename_i hz
      cases i with
      | zero => simpa [nthI] using hz
      | succ i =>
        have := firstGe_lt t o i (by simpa [firstGe] using h)
        simpa [nthI] using this
    · simp at h

theorem firstGe_at : ∀ (zs : List Int) (o : Int), firstGe zs o < zs.length → ¬ nthI zs (firstGe zs o) < o
  | [], o, h => by simp [firstGe] at h
  | z :: t, o, h => by
    by_cases hz : z < o
    · have e : firstGe (z :: t) o = firstGe t o + 1 := by simp [firstGe, hz]
      rw [e] at h ⊢
      have := firstGe_at t o (by simpa using h)
      simpa [nthI] using this
    · have e : firstGe (z :: t) o = 0 := by simp [firstGe, hz]
      rw [e]
      simpa [nthI] using hz

end Go.Proofs.Qxb6603976aMods
