import Derived.Test.YbulkadfsFmtCmp
import Derived.Deep.MidRow
namespace Go.Proofs.YbulkadfsFmt
open Go.RowKit
set_option linter.unusedVariables false

theorem heap_setCells {b : Nat} {t : TypeId} {fr : Nat × Nat} : ∀ (vs : List Value) (w : World) (pre mid post : List Value), w.heap[b]? = some (.cells (pre ++ mid ++ post).toArray t fr) → mid.length = vs.length →
    (w.setCells b pre.length vs).heap[b]? = some (.cells (pre ++ vs ++ post).toArray t fr)
  | [], w, pre, mid, post, h, hl => by
    have : mid = [] := List.eq_nil_of_length_eq_zero (by simpa using hl)
    subst this
    exact h
  | v :: vs, w, pre, mid, post, h, hl => by
    match mid, hl with
    | m :: mid, hl =>
      have h1 := blk_setCell_same (j := pre.length) h v
      have e : (pre ++ m :: mid ++ post).toArray.setIfInBounds pre.length v = ((pre ++ [v]) ++ mid ++ post).toArray := by
        simp
      rw [e] at h1
      have := heap_setCells vs (w.setCell ⟨b, pre.length, none⟩ v) (pre ++ [v]) mid post h1 (by simpa using hl)
      have e2 : (pre ++ [v]).length = pre.length + 1 := by simp
      rw [e2] at this
      show ((w.setCell ⟨b, pre.length, none⟩ v).setCells b (pre.length + 1) vs).heap[b]? = _
      rw [this]
      simp

theorem only_setCells {b : Nat} : ∀ (vs : List Value) (o : Nat) (w : World), Only w (w.setCells b o vs) [b]
  | [], o, w => Only.refl w _
  | v :: vs, o, w => ((Only.refl w [b]).setCell ⟨b, o, none⟩ v (.inl (by simp))).trans (only_setCells vs (o + 1) (w.setCell ⟨b, o, none⟩ v)) (fun x hx => .inl hx)

/-- A store of a struct into a block that is known whole. -/
theorem wpList_store_box {P : Program} {ops : Array Oper} {rest : List Oper} {op : Oper} {a : Act} {w : World} {Q : Exit → Act → World → Prop} (hgd : op.guard = none) (ty : TypeId) (x y : Operand) (ho : op.op = .store ty x y)
    (b : Nat) (t : TypeId) (pre mid post : List Value) (hb : w.heap[b]? = some (.cells (pre ++ mid ++ post).toArray t (0, 0))) (o : Nat) (hpo : pre.length = o) (cells : Array Value) (hx : a.eval x = .pointer (some ⟨b, o, none⟩)) (hy : a.eval y = .agg cells)
    (hm : mid.length = cells.size) (hi : (P.info? ty).map (·.size) = some cells.size) (h1 : cells.all (·.oneCell') = true)
    (h : ∀ w', w'.heap[b]? = some (.cells (pre ++ cells.toList ++ post).toArray t (0, 0)) → Only w w' [b] → wpList P ops Q rest (a.put op.dst undef) w') : wpList P ops Q (op :: rest) a w := by
  subst hpo
  refine wpList_store_mid hgd ty x y ho b pre.length cells hx hy (fun j hj => ?_) hi h1 (h _ (heap_setCells _ w pre mid post hb (by simpa using hm)) (only_setCells _ _ _))
  refine ⟨?_, by simp [World.frozen?, hb]⟩
  simp only [World.cell?, hb]
  simp
  omega

/-- The cells of a block that is known whole. -/
theorem box_cell {w : World} {b : Nat} {C : Array Value} {t : TypeId} {fr : Nat × Nat} (h : w.heap[b]? = some (.cells C t fr)) (j : Nat) {u : Value} (hu : C[j]? = some u) : w.cell? ⟨b, j, none⟩ = some u := by
  simp [World.cell?, h, hu]
end Go.Proofs.YbulkadfsFmt
