import Derived.Test.Qxb6603976aModsZZForget
import Derived.Deep.DeepCutAuto
namespace Go.Proofs.Qxb6603976aMods
open Go.ChangeShapes Go.WideShapes Go.ChangeAt Go.RowKit
set_option linter.unusedVariables false

theorem setRow_alloc (W : World) (A B : Array Value) (t : TypeId) : (W.alloc (.cells A t)).setRow W.heap.size B = W.alloc (.cells B t) := by
  have hh : ((W.alloc (.cells A t)).setRow W.heap.size B).heap = (W.alloc (.cells B t)).heap := by
    apply Array.ext_getElem?
    intro i
    by_cases h : i = W.heap.size
    · subst h
      rw [setRow_heap _ _ A B t (0, 0) (heap_alloc_new W _), heap_alloc_new]
    · rw [setRow_other _ _ _ _ h]
      show (W.heap.push _)[i]? = (W.heap.push _)[i]?
      simp [Array.getElem?_push, h]
  have e : (W.alloc (.cells A t)).setRow W.heap.size B = { (W.alloc (.cells B t)) with heap := ((W.alloc (.cells A t)).setRow W.heap.size B).heap } := rfl
  rw [e, hh]

theorem copy_ints (t e : TypeId) (hu : Trym.prog.underlying t = some (.slice e)) (hs : (Trym.prog.info? e).map (·.size) = some 1) (a : Addr) (c : Nat) (zs : List Int) (W : World) (h : IntsAt W (some a) zs) (ty : TypeId) :
    Sem.run Trym.prog (Builtin.copy_ #[t, t] ty #[.slice (some ⟨W.heap.size, 0, none⟩) zs.length zs.length, .slice (some a) zs.length c]) (W.alloc (.cells (zeros zs.length) e)) = .ok (.int .i64 (zs.length : Int)) (W.alloc (.cells (zs.map (Value.int .i64)).toArray e)) := by
  have hB : Below W.heap.size W (W.alloc (.cells (zeros zs.length) e)) := (Below.refl _ _).alloc (Nat.le_refl _) _
  have hc := run_copy_row (P := Trym.prog) (W.alloc (.cells (zeros zs.length) e)) t t ty e W.heap.size 0 zs.length zs.length a zs.length c (zeros zs.length) e (zs.map (Value.int .i64)) hu hs (heap_alloc_new W _) (by simp) (fun j v hj => by
    rw [List.getElem?_map] at hj
    cases hz : zs[j]? with
    | none => rw [hz] at hj; cases hj
    | some z =>
      rw [hz] at hj
      simp at hj
      subst hj
      have hjl : j < zs.length := (List.getElem?_eq_some_iff.1 hz).1
      obtain ⟨p, hp, hcell⟩ := h j hjl
      cases hp
      rw [hB.cell (by have := cell_lt hcell; exact this), hcell]
      simp [nthI, hz]) (by simp [size_zeros]) (fun v hv => by
    obtain ⟨z, _, rfl⟩ := List.mem_map.1 hv
    rfl)
  rw [hc]
  have hd : (zeros zs.length).toList.drop (0 + (zs.map (Value.int .i64)).length) = [] := by
    apply List.drop_eq_nil_of_le
    simp [size_zeros]
  rw [hd, setRow_alloc]
  simp [goInt]

theorem copied_ints (W : World) (e : TypeId) (zs : List Int) : IntsAt (W.alloc (.cells (zs.map (Value.int .i64)).toArray e)) (some ⟨W.heap.size, 0, none⟩) zs := by
  intro k hk
  refine ⟨_, rfl, ?_⟩
  have ha : (Addr.add ⟨W.heap.size, 0, none⟩ k) = ⟨W.heap.size, k, none⟩ := by
    unfold Addr.add
    split
    · subst_vars; rfl
    · simp
  rw [ha]
  go_simp
  simp [nthI, hk]

theorem neq_nil (t e : TypeId) (hu : Trym.prog.underlying t = some (.slice e)) (w : World) (a : Option Addr) (n c n' c' : Nat) : Sem.run Trym.prog (binOp .neq t (.slice a n c) (.slice none n' c')) w = .ok (.bool (!a.isNone)) w := by
  simp only [binOp]
  simp [Op.equal, Op.maxDepth, Lib.run_equalIn_slice_nil w 9999 t e a n c n' c' hu]

/-- It returns one bool, whichever. -/
def RetBool (e : Ending) : Prop := ∃ r, e = .returned (.bool r)

set_option maxRecDepth 100000 in
set_option maxHeartbeats 1000000 in
theorem bytes20_any (ag ce o : Int) (a1 a2 a3 : Option Addr) (c1 c2 c3 : Nat) (n1 n2 n3 : Nat) (cd co : Bool) (w : World) (h1 : n1 ≤ 9223372036854775807) (h2 : n2 ≤ 9223372036854775807) (h3 : n3 ≤ 9223372036854775807) :
    Calls Trym.prog 20 #[.int .i64 ag, .slice a1 n1 c1, .slice a2 n2 c2, .slice a3 n3 c3, .bool cd, .int .i64 ce, .bool co, .int .i64 o] w fun e w' => RetBool e ∧ w' = w := by
  go_enter Trym.func20, Trym.ntmps20
  go_wp2
  all_goals (go_ret; exact ⟨⟨_, rfl⟩, rfl⟩)
end Go.Proofs.Qxb6603976aMods
