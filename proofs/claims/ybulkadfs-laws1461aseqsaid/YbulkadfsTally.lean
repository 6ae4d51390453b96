import Derived.Test.YbulkadfsRows
import Derived.WalkKit
import Derived.WalkSpells
import Derived.WalkLawsBesides
import Derived.Below
namespace Go.Proofs.Ybulkadfs
open Go.RowKit
set_option linter.unusedVariables false

theorem blk_setCell_same {w : World} {p j : Nat} {c : Array Value} {e : TypeId} {fr : Nat × Nat} (h : w.heap[p]? = some (.cells c e fr)) (u : Value) :
    (w.setCell ⟨p, j, none⟩ u).heap[p]? = some (.cells (c.setIfInBounds j u) e fr) := by
  simp [World.setCell, Array.getElem?_modify, h]

/-- A Tally in memory. -/
def TallyIs (w : World) (p : Nat) (c s m : Int) : Prop := w.heap[p]? = some (.cells #[.int .i64 c, .int .i64 s, .int .i64 m] 23 (0, 0))

theorem TallyIs.cells {w : World} {p : Nat} {c s m : Int} (h : TallyIs w p c s m) : w.cell? ⟨p, 0, none⟩ = some (.int .i64 c) ∧ w.cell? ⟨p, 1, none⟩ = some (.int .i64 s) ∧ w.cell? ⟨p, 2, none⟩ = some (.int .i64 m) ∧ ∀ j, w.frozen? ⟨p, j, none⟩ = false := by
  unfold TallyIs at h
  exact ⟨by simp [World.cell?, h], by simp [World.cell?, h], by simp [World.cell?, h], fun j => by simp [World.frozen?, h]⟩

def maxOf (m v : Int) : Int := if m < v then v else m

theorem TallyIs.set {w : World} {p : Nat} {c s m : Int} (h : TallyIs w p c s m) (c' s' m' : Int) :
    TallyIs (((w.setCell ⟨p, 0, none⟩ (.int .i64 c')).setCell ⟨p, 1, none⟩ (.int .i64 s')).setCell ⟨p, 2, none⟩ (.int .i64 m')) p c' s' m' := by
  unfold TallyIs at *
  rw [blk_setCell_same (blk_setCell_same (blk_setCell_same h _) _) _]
  rfl

set_option maxHeartbeats 400000 in
theorem add_any (w : World) (p : Nat) (c s m v : Int) (h : TallyIs w p c s m) (B : Nat) (hB : B ≤ p) :
    Calls Yba.prog 5 #[.pointer (some ⟨p, 0, none⟩), .int .i64 v] w fun e w' => e = .returned (.tuple #[]) ∧ TallyIs w' p (wrap64 (c + 1)) (wrap64 (s + v)) (maxOf m v) ∧ Below B w w' := by
  have hc := h.cells
  obtain ⟨c0, c1, c2, f⟩ := hc
  have f0 := f 0
  have f1 := f 1
  have f2 := f 2
  clear f
  by_cases hm : m < v
  · go_enter Yba.func5, Yba.ntmps5
    go_wp2
    go_end0
    refine ⟨rfl, ?_, (((Below.refl B w).setCell hB _).setCell hB _).setCell hB _⟩
    unfold maxOf
    rw [if_pos hm]
    exact h.set _ _ _
  · go_enter Yba.func5, Yba.ntmps5
    go_wp2
    go_end0
    refine ⟨rfl, ?_, (((Below.refl B w).setCell hB _).setCell hB _).setCell hB _⟩
    unfold maxOf
    rw [if_neg (by omega)]
    exact h.set _ _ _
end Go.Proofs.Ybulkadfs
