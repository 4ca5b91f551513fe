import Derived.Test.Qxb6603597aModsRows
import Derived.WalkKit
import Derived.ProofKit
import Derived.RegionTactic
import Derived.ChangeAlike
import Derived.Deep.QuietTactic
import Derived.BigQuiet
import Derived.LaidEql
namespace Go.Proofs.Qxb6603597aMods
open Go.ChangeShapes Go.WideShapes Go.ChangeAt Go.RowKit

theorem rate_any (b : Nat) (c p : Int) (w : World) (h0 : w.cell? ⟨b, 0, none⟩ = some (.int .i64 c)) (h1 : w.cell? ⟨b, 1, none⟩ = some (.int .i64 p)) :
    Calls Trym.prog 23 #[.pointer (some ⟨b, 0, none⟩)] w fun e w' => e = .returned (.pointer (some ⟨w.heap.size, 0, none⟩)) ∧ w' = (w.alloc (.cells #[.int .i64 c, .int .i64 p] 41)).drew := by
  go_enter Trym.func23, Trym.ntmps23
  go_wp2
  go_region
  all_goals go_wp2
  all_goals go_ret
  all_goals exact ⟨rfl, rfl⟩
theorem zzrate_any (b : Nat) (c p : Int) (w : World) (h0 : w.cell? ⟨b, 0, none⟩ = some (.int .i64 c)) (h1 : w.cell? ⟨b, 1, none⟩ = some (.int .i64 p)) :
    Calls Trym.prog 16 #[.pointer (some ⟨b, 0, none⟩)] w fun e w' => e = .returned (.pointer (some ⟨w.heap.size, 0, none⟩)) ∧ w' = (w.alloc (.cells #[.int .i64 c, .int .i64 p] 41)).drew := by
  go_enter Trym.func16, Trym.ntmps16
  go_wp2_with fail
  refine (rate_any b c p _ h0 h1).mono ?_
  rintro e w' ⟨rfl, rfl⟩
  go_wp2
  go_ret
  exact ⟨rfl, rfl⟩
theorem zzfields_any (b : Nat) (c p : Int) (w : World) (h0 : w.cell? ⟨b, 0, none⟩ = some (.int .i64 c)) (h1 : w.cell? ⟨b, 1, none⟩ = some (.int .i64 p)) :
    Calls Trym.prog 17 #[.pointer (some ⟨b, 0, none⟩)] w fun e w' => e = .returned (.tuple #[.int .i64 c, .int .i64 p]) ∧ ∃ n, w' = w.drewN n := by
  go_enter Trym.func17, Trym.ntmps17
  go_wp2
  go_quiet (fail)
  go_wp2
  go_ret2
  exact ⟨rfl, _, rfl⟩
theorem zznew_any (c p : Int) (w : World) :
    Calls Trym.prog 15 #[.int .i64 c, .int .i64 p] w fun e w' => e = .returned (.pointer (some ⟨w.heap.size, 0, none⟩)) ∧ w' = (w.alloc (.cells #[.int .i64 c, .int .i64 p] 57)) := by
  go_enter Trym.func15, Trym.ntmps15
  go_wp2
  go_ret
  exact ⟨rfl, rfl⟩
/-- 'p == q' of two pointers to data that is not of size 0: two addresses that differ, in two whole blocks. -/
theorem run_eql_ptr_other {P : Program} (w : World) {tp te : TypeId} {j : TypeInfo} {a b : Addr} {ca cb : Array Value} {ta tb : TypeId}
    (hp : P.underlying tp = some (.pointer te)) (hte : P.info? te = some j) (hsz : j.size ≠ 0)
    (hne : a ≠ b) (ha : w.heap[a.block]? = some (.cells ca ta (0, 0))) (hb : w.heap[b.block]? = some (.cells cb tb (0, 0))) :
    Sem.run P (binOp .eql tp (.pointer (some a)) (.pointer (some b))) w = .ok (.bool false) w := by
  have h : ∀ d : Nat, Sem.run P (Op.equalIn (d + 1) tp (.pointer (some a)) (.pointer (some b))) w = .ok false w := fun d => by
    simp [Op.equalIn, run_underlying hp, sizeOf, typeInfo, hte, hsz, run_sameAddr_other w hne ha hb]
  simp only [binOp]
  simp [Op.equal, Op.maxDepth, h 9999]
theorem info41 : ∃ j, Trym.prog.info? 41 = some j ∧ j.size ≠ 0 := ⟨_, rfl, by decide⟩

theorem heap3 (w : World) (A B C : Obj) : (((w.alloc A).alloc B).alloc C).drew.drew.heap[w.heap.size + 1]? = some B ∧ (((w.alloc A).alloc B).alloc C).drew.drew.heap[w.heap.size + 1 + 1]? = some C := by
  constructor
  · show (((w.heap.push A).push B).push C)[w.heap.size + 1]? = some B
    simp [Array.getElem_push]
  · show (((w.heap.push A).push B).push C)[w.heap.size + 1 + 1]? = some C
    simp [Array.getElem_push]
theorem grown_drewN {W w' : World} (n : Nat) (h : Grown W w') : Grown W (w'.drewN n) := by
  induction n generalizing w' with
  | zero => exact h
  | succ n ih => exact ih (w' := w'.drew) h.drew
set_option maxRecDepth 100000 in
theorem rateLaw_walk (a0 : Int) (a1 : Int) (w : World) (g1 : 1 ≤ a0) (g2 : a0 ≤ 2147483647) (g3 : 1 ≤ a1):
    Calls Trym.prog 5 #[.int .i64 a0, .int .i64 a1] w fun e w' => e = .returned (.bool true) ∧ Grown w w' := by
  obtain ⟨j, hj, hjz⟩ := info41
  have he := run_eql_ptr_other (P := Trym.prog) (a := ⟨w.heap.size + 1, 0, none⟩) (b := ⟨w.heap.size + 1 + 1, 0, none⟩) (((w.alloc (Obj.cells #[Value.int IntKind.i64 a0, Value.int IntKind.i64 a1] 57)).alloc
                    (Obj.cells #[Value.int IntKind.i64 a0, Value.int IntKind.i64 a1] 41)).alloc
                (Obj.cells #[Value.int IntKind.i64 a0, Value.int IntKind.i64 a1] 41)).drew.drew Trym.underlying37 hj hjz (by simp) (heap3 _ _ _ _).1 (heap3 _ _ _ _).2
  clear hj hjz
  go_enter Trym.func5, Trym.ntmps5
  go_wp2_with fail
  refine (zznew_any _ _ _).mono ?_
  rintro e w' ⟨rfl, rfl⟩
  go_wp2_with fail
  refine (zzrate_any _ a0 a1 _ (by go_simp) (by go_simp)).mono ?_
  rintro e w' ⟨rfl, rfl⟩
  go_wp2_with fail
  refine (zzrate_any _ a0 a1 _ (by go_simp) (by go_simp)).mono ?_
  rintro e w' ⟨rfl, rfl⟩
  go_wp2_with fail
  refine (zzrate_any _ a0 a1 _ (by go_simp) (by go_simp)).mono ?_
  rintro e w' ⟨rfl, rfl⟩
  go_wp2_with fail
  refine (zzfields_any _ a0 a1 _ (by go_simp) (by go_simp)).mono ?_
  rintro e w' ⟨rfl, nn, rfl⟩
  go_wp2_with fail
  go_ret
  exact ⟨rfl, grown_drewN _ (by repeat (first | exact Grown.refl _ | apply Grown.drew | apply Grown.alloc))⟩
end Go.Proofs.Qxb6603597aMods

