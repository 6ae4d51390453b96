import Derived.Test.YbulkacyeDiag
namespace Go.Proofs.Ybulkacye
open Go.RowKit
set_option linter.unusedVariables false

/-- A row of integers, by diagonals: diagonal k lies at index k + o. -/
def rowOf (f : Int → Int) (o N : Nat) : Array Value := ((List.range N).map fun (i : Nat) => Value.int .i64 (f ((i : Int) - o))).toArray
def upd (f : Int → Int) (k v : Int) : Int → Int := fun x => if x = k then v else f x
theorem upd_same (f : Int → Int) (k v : Int) : upd f k v k = v := if_pos rfl
theorem upd_other (f : Int → Int) {k x : Int} (v : Int) (h : x ≠ k) : upd f k v x = f x := if_neg h
theorem rowOf_at (f : Int → Int) (o N i : Nat) (h : i < N) : (rowOf f o N)[i]? = some (.int .i64 (f ((i : Int) - o))) := by
  simp [rowOf, h]
theorem rowOf_set (f : Int → Int) (o N i : Nat) (k v : Int) (h : i < N) (hk : (i : Int) - o = k) : (rowOf f o N).setIfInBounds i (.int .i64 v) = rowOf (upd f k v) o N := by
  unfold rowOf
  rw [List.setIfInBounds_toArray]
  congr 1
  apply List.ext_getElem?
  intro j
  rw [List.getElem?_set]
  by_cases hij : i = j
  · subst hij; simp [upd, hk, h]
  · rw [if_neg hij]
    by_cases hj : j < N
    · have : ¬ ((j : Int) - o = k) := by omega
      simp [hj, upd, this]
    · simp [hj]

/-- The search in memory: its box, the two sequences, the two rows. -/
structure Sea (S ga gb GF GR o N ca cb : Nat) (ao bo : Option Addr) (xa xb : List Int) (fs : Value) (f r : Int → Int) (w : World) : Prop where
  box : w.heap[S]? = some (.cells #[.slice ao xa.length ca, .slice bo xb.length cb, fs, .slice (some ⟨GF, 0, none⟩) N N, .slice (some ⟨GR, 0, none⟩) N N, .int .i64 o] 71 (0, 0))
  ra : ∀ (i : Nat) (v : Int), xa[i]? = some v → ao = some ⟨ga, 0, none⟩ ∧ w.cell? ⟨ga, i, none⟩ = some (.int .i64 v)
  rb : ∀ (i : Nat) (v : Int), xb[i]? = some v → bo = some ⟨gb, 0, none⟩ ∧ w.cell? ⟨gb, i, none⟩ = some (.int .i64 v)
  fw : w.heap[GF]? = some (.cells (rowOf f o N) 3 (0, 0))
  rv : w.heap[GR]? = some (.cells (rowOf r o N) 3 (0, 0))
  sf : S ≠ GF
  sr : S ≠ GR
  fr : GF ≠ GR
  af : ga ≠ GF
  ar : ga ≠ GR
  bf : gb ≠ GF
  br : gb ≠ GR

theorem Sea.drew {S ga gb GF GR o N ca cb : Nat} {ao bo : Option Addr} {xa xb : List Int} {fs : Value} {f r : Int → Int} {w : World} (h : Sea S ga gb GF GR o N ca cb ao bo xa xb fs f r w) : Sea S ga gb GF GR o N ca cb ao bo xa xb fs f r w.drew := ⟨h.box, h.ra, h.rb, h.fw, h.rv, h.sf, h.sr, h.fr, h.af, h.ar, h.bf, h.br⟩
theorem Sea.drewN {S ga gb GF GR o N ca cb : Nat} {ao bo : Option Addr} {xa xb : List Int} {fs : Value} {f r : Int → Int} {w : World} (h : Sea S ga gb GF GR o N ca cb ao bo xa xb fs f r w) (n : Nat) : Sea S ga gb GF GR o N ca cb ao bo xa xb fs f r (w.drewN n) := ⟨h.box, h.ra, h.rb, h.fw, h.rv, h.sf, h.sr, h.fr, h.af, h.ar, h.bf, h.br⟩

theorem cell_setCell_ne {w : World} {p : Addr} {q : Addr} (u : Value) (h : q.block ≠ p.block) : (w.setCell p u).cell? q = w.cell? q := by
  apply World.cell?_of_block
  exact Below.heap_setCell _ _ _ _ h

theorem Sea.setF {S ga gb GF GR o N ca cb : Nat} {ao bo : Option Addr} {xa xb : List Int} {fs : Value} {f r : Int → Int} {w : World} (h : Sea S ga gb GF GR o N ca cb ao bo xa xb fs f r w) {i : Nat} {k : Int} (hi : i < N) (hk : (i : Int) - o = k) (v : Int) :
    Sea S ga gb GF GR o N ca cb ao bo xa xb fs (upd f k v) r (w.setCell ⟨GF, i, none⟩ (.int .i64 v)) := by
  have sf := h.sf
  have fr := h.fr
  have af := h.af
  have bf := h.bf
  refine ⟨by rw [Below.heap_setCell _ _ _ _ sf]; exact h.box, fun j u hj => ?_, fun j u hj => ?_, ?_, by rw [Below.heap_setCell _ _ _ _ fr.symm]; exact h.rv, sf, h.sr, fr, af, h.ar, bf, h.br⟩
  · obtain ⟨e, c⟩ := h.ra j u hj
    exact ⟨e, (cell_setCell_ne _ af).trans c⟩
  · obtain ⟨e, c⟩ := h.rb j u hj
    exact ⟨e, (cell_setCell_ne _ bf).trans c⟩
  · rw [blk_setCell_same h.fw, rowOf_set f o N i k v hi hk]
theorem Sea.setR {S ga gb GF GR o N ca cb : Nat} {ao bo : Option Addr} {xa xb : List Int} {fs : Value} {f r : Int → Int} {w : World} (h : Sea S ga gb GF GR o N ca cb ao bo xa xb fs f r w) {i : Nat} {k : Int} (hi : i < N) (hk : (i : Int) - o = k) (v : Int) :
    Sea S ga gb GF GR o N ca cb ao bo xa xb fs f (upd r k v) (w.setCell ⟨GR, i, none⟩ (.int .i64 v)) := by
  have sr := h.sr
  have fr := h.fr
  have ar := h.ar
  have br := h.br
  refine ⟨by rw [Below.heap_setCell _ _ _ _ sr]; exact h.box, fun j u hj => ?_, fun j u hj => ?_, by rw [Below.heap_setCell _ _ _ _ fr]; exact h.fw, ?_, h.sf, sr, fr, h.af, ar, h.bf, br⟩
  · obtain ⟨e, c⟩ := h.ra j u hj
    exact ⟨e, (cell_setCell_ne _ ar).trans c⟩
  · obtain ⟨e, c⟩ := h.rb j u hj
    exact ⟨e, (cell_setCell_ne _ br).trans c⟩
  · rw [blk_setCell_same h.rv, rowOf_set r o N i k v hi hk]
theorem blk_cell {w : World} {b : Nat} {C : Array Value} {t : TypeId} {fr : Nat × Nat} (h : w.heap[b]? = some (.cells C t fr)) (j : Nat) {u : Value} (hu : C[j]? = some u) : w.cell? ⟨b, j, none⟩ = some u := by
  simp [World.cell?, h, hu]
theorem Sea.cellF {S ga gb GF GR o N ca cb : Nat} {ao bo : Option Addr} {xa xb : List Int} {fs : Value} {f r : Int → Int} {w : World} (h : Sea S ga gb GF GR o N ca cb ao bo xa xb fs f r w) {i : Nat} {k : Int} (hi : i < N) (hk : (i : Int) - o = k) :
    w.cell? ⟨GF, i, none⟩ = some (.int .i64 (f k)) ∧ w.frozen? ⟨GF, i, none⟩ = false := by
  refine ⟨?_, by simp [World.frozen?, h.fw]⟩
  rw [blk_cell h.fw i (rowOf_at f o N i hi), hk]
theorem Sea.cellR {S ga gb GF GR o N ca cb : Nat} {ao bo : Option Addr} {xa xb : List Int} {fs : Value} {f r : Int → Int} {w : World} (h : Sea S ga gb GF GR o N ca cb ao bo xa xb fs f r w) {i : Nat} {k : Int} (hi : i < N) (hk : (i : Int) - o = k) :
    w.cell? ⟨GR, i, none⟩ = some (.int .i64 (r k)) ∧ w.frozen? ⟨GR, i, none⟩ = false := by
  refine ⟨?_, by simp [World.frozen?, h.rv]⟩
  rw [blk_cell h.rv i (rowOf_at r o N i hi), hk]
theorem Sea.boxes {S ga gb GF GR o N ca cb : Nat} {ao bo : Option Addr} {xa xb : List Int} {fs : Value} {f r : Int → Int} {w : World} (h : Sea S ga gb GF GR o N ca cb ao bo xa xb fs f r w) :
    w.cell? ⟨S, 0, none⟩ = some (.slice ao xa.length ca) ∧ w.cell? ⟨S, 1, none⟩ = some (.slice bo xb.length cb) ∧ w.cell? ⟨S, 2, none⟩ = some fs ∧ w.cell? ⟨S, 3, none⟩ = some (.slice (some ⟨GF, 0, none⟩) N N) ∧ w.cell? ⟨S, 4, none⟩ = some (.slice (some ⟨GR, 0, none⟩) N N) ∧ w.cell? ⟨S, 5, none⟩ = some (.int .i64 o) :=
  ⟨blk_cell h.box 0 rfl, blk_cell h.box 1 rfl, blk_cell h.box 2 rfl, blk_cell h.box 3 rfl, blk_cell h.box 4 rfl, blk_cell h.box 5 rfl⟩
end Go.Proofs.Ybulkacye
