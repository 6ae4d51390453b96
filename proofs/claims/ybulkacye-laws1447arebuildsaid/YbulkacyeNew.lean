import Derived.Test.YbulkacyeSe
import Derived.Deep.OwnRows
import Derived.BigQuiet
namespace Go.Proofs.Ybulkacye
open Go.RowKit
set_option linter.unusedVariables false

theorem Yba.info3 : (Yba.prog.info? 3).map (fun i => (i.zero, i.size, i.bytes)) = some (some (.int .i64 0), 1, 8) := by kernel_rfl
theorem Yba.info4 : (Yba.prog.info? 4).map (fun i => (i.zero, i.size, i.bytes)) = some (some (.bool false), 1, 1) := by kernel_rfl
theorem made_row (o N : Nat) : madeCells #[.int .i64 0] N = rowOf (fun _ => 0) o N := by
  unfold rowOf
  apply Array.ext
  · simp [madeCells]
  · intro i h1 h2
    simp [madeCells, Nat.mod_one]

structure NewIs (w w' : World) (ao bo : Option Addr) (la ca lb cb S GF GR : Nat) : Prop where
  box : w'.heap[S]? = some (.cells #[.slice ao la ca, .slice bo lb cb, .slice none 0 0, .slice (some ⟨GF, 0, none⟩) (2 * (la + lb) + 3) (2 * (la + lb) + 3), .slice (some ⟨GR, 0, none⟩) (2 * (la + lb) + 3) (2 * (la + lb) + 3), .int .i64 ((la + lb + 1 : Nat) : Int)] 71 (0, 0))
  fw : w'.heap[GF]? = some (.cells (rowOf (fun _ => 0) (la + lb + 1) (2 * (la + lb) + 3)) 3 (0, 0))
  rv : w'.heap[GR]? = some (.cells (rowOf (fun _ => 0) (la + lb + 1) (2 * (la + lb) + 3)) 3 (0, 0))
  sf : S ≠ GF
  sr : S ≠ GR
  fr : GF ≠ GR
  lS : w.heap.size ≤ S ∧ S < w'.heap.size
  lF : w.heap.size ≤ GF ∧ GF < w'.heap.size
  lR : w.heap.size ≤ GR ∧ GR < w'.heap.size
  bel : Below w.heap.size w w'

theorem heap3 (w : World) (A B C : Obj) : ((((w.alloc A).alloc B).alloc C).drew).heap[w.heap.size]? = some A ∧ ((((w.alloc A).alloc B).alloc C).drew).heap[w.heap.size + 1]? = some B ∧ ((((w.alloc A).alloc B).alloc C).drew).heap[w.heap.size + 1 + 1]? = some C ∧ ((((w.alloc A).alloc B).alloc C).drew).heap.size = w.heap.size + 3 ∧ Below w.heap.size w ((((w.alloc A).alloc B).alloc C).drew) := by
  refine ⟨?_, ?_, ?_, ?_, ?_⟩
  · show (((w.alloc A).alloc B).alloc C).heap[w.heap.size]? = _
    rw [Below.heap_alloc _ _ _ (by simp; omega), Below.heap_alloc _ _ _ (by simp)]
    exact heap_alloc_new w A
  · show (((w.alloc A).alloc B).alloc C).heap[w.heap.size + 1]? = _
    rw [Below.heap_alloc _ _ _ (by simp)]
    have := heap_alloc_new (w.alloc A) B
    simpa using this
  · show (((w.alloc A).alloc B).alloc C).heap[w.heap.size + 1 + 1]? = _
    have := heap_alloc_new ((w.alloc A).alloc B) C
    simpa using this
  · show (((w.alloc A).alloc B).alloc C).heap.size = _
    simp
  · have h := (((Below.refl w.heap.size w).alloc (Nat.le_refl _) A).alloc (by simp) B).alloc (by simp; omega) C
    exact ⟨h.os, h.tape, h.output, h.size, h.block⟩
theorem new_is {w : World} {ao bo : Option Addr} {la ca lb cb N F R : Nat} (hN : 2 * ((la : Int) + lb) + 3 = N) (hFR : (F = w.heap.size ∧ R = w.heap.size + 1) ∨ (F = w.heap.size + 1 ∧ R = w.heap.size)) :
    NewIs w (((w.alloc (Obj.cells (madeCells #[Value.int IntKind.i64 0] N) 3)).alloc (Obj.cells (madeCells #[Value.int IntKind.i64 0] N) 3)).alloc (Obj.cells #[Value.slice ao la ca, Value.slice bo lb cb, Value.slice none 0 0, Value.slice (some { block := F, off := 0 }) N N, Value.slice (some { block := R, off := 0 }) N N, Value.int IntKind.i64 (↑la + ↑lb + 1)] 71)).drew ao bo la ca lb cb (w.heap.size + 1 + 1) F R := by
  obtain rfl : N = 2 * (la + lb) + 3 := by omega
  obtain ⟨g1, g2, g3, g4, g5⟩ := heap3 w (Obj.cells (madeCells #[Value.int IntKind.i64 0] (2 * (la + lb) + 3)) 3) (Obj.cells (madeCells #[Value.int IntKind.i64 0] (2 * (la + lb) + 3)) 3) (Obj.cells #[Value.slice ao la ca, Value.slice bo lb cb, Value.slice none 0 0, Value.slice (some { block := F, off := 0 }) (2 * (la + lb) + 3) (2 * (la + lb) + 3), Value.slice (some { block := R, off := 0 }) (2 * (la + lb) + 3) (2 * (la + lb) + 3), Value.int IntKind.i64 (↑la + ↑lb + 1)] 71)
  have e : ((la + lb + 1 : Nat) : Int) = (la : Int) + lb + 1 := by omega
  rcases hFR with ⟨rfl, rfl⟩ | ⟨rfl, rfl⟩
  · exact ⟨by rw [g3, e], by rw [g1, made_row (la + lb + 1)], by rw [g2, made_row (la + lb + 1)], by omega, by omega, by omega, by omega, by omega, by omega, g5⟩
  · exact ⟨by rw [g3, e], by rw [g2, made_row (la + lb + 1)], by rw [g1, made_row (la + lb + 1)], by omega, by omega, by omega, by omega, by omega, by omega, g5⟩

set_option maxRecDepth 20000 in
set_option maxHeartbeats 4000000 in
theorem ns_any (ao bo : Option Addr) (la ca lb cb : Nat) (w : World) (h1 : la ≤ 1000) (h2 : lb ≤ 1000) :
    Calls Yba.prog 20 #[.slice ao la ca, .slice bo lb cb] w fun e w' => ∃ S GF GR, e = .returned (.pointer (some ⟨S, 0, none⟩)) ∧ NewIs w w' ao bo la ca lb cb S GF GR := by
  obtain ⟨N, hN⟩ : ∃ N : Nat, 2 * ((la : Int) + lb) + 3 = N := ⟨2 * (la + lb) + 3, by omega⟩
  have hmk := fun kl kc w => run_make_row' (P := Yba.prog) 28 3 (.int .i64 0) 8 Yba.underlying28 Yba.info3 rfl kl kc N (by omega) (by omega) w
  go_enter Yba.func20, Yba.ntmps20
  go_wp2
  go_region
  all_goals go_wp2
  all_goals go_ret
  · refine ⟨w.heap.size + 1 + 1, w.heap.size, w.heap.size + 1, rfl, ?_⟩
    exact new_is (by omega) (.inl ⟨rfl, rfl⟩)
  · refine ⟨w.heap.size + 1 + 1, w.heap.size + 1, w.heap.size, rfl, ?_⟩
    exact new_is (by omega) (.inr ⟨rfl, rfl⟩)
end Go.Proofs.Ybulkacye
