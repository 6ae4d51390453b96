import Derived.Test.YbulkacyeSel
import Derived.Test.YbulkacyeNew
namespace Go.Proofs.Ybulkacye
open Go.RowKit Go.Maps
set_option linter.unusedVariables false

theorem MapIs.congr {w w' : World} {b n : Nat} {ks : List ByteArray} (h : MapIs w b n ks) (hb : w'.heap[b]? = w.heap[b]?) : MapIs w' b n ks := by
  obtain ⟨D, ⟨es, clock, g1, g2⟩, h2⟩ := h
  exact ⟨D, ⟨es, clock, by rw [hb]; exact g1, g2⟩, h2⟩
theorem MapIs.made (w : World) : MapIs (w.alloc (.map #[] 0)) w.heap.size 0 [] := by
  refine ⟨.map [], World.ownsMap_made _ _ _ _, rfl, fun s => ⟨?_, fun h => by cases h⟩⟩
  rfl
theorem MapIs.lt {w : World} {b n : Nat} {ks : List ByteArray} (h : MapIs w b n ks) : b < w.heap.size := by
  obtain ⟨D, h1, _⟩ := h; exact h1.lt
theorem MapIs.mono {w : World} {b n n' : Nat} {ks : List ByteArray} (h : MapIs w b n ks) (hn : n ≤ n') : MapIs w b n' ks := by
  obtain ⟨D, h1, h2⟩ := h; exact ⟨D, h1.mono hn, h2⟩
theorem MapIs.put {w' : World} {b n : Nat} {ks : List ByteArray} {D : DataW Unit} {s : ByteArray} (hI : IsMap D) (hT : Tidy D) (hsz : Maps.size D = ks.length) (hD : ∀ s : ByteArray, Maps.has D (key s) = isIn ks s ∧ (s ∈ ks → D.atKey (key s) (.lit (.int .i64 0)) = .lit (.int .i64 (pos ks s)))) (hs : s ∉ ks)
    (hk : WideAt.IsKeyLit (key s)) (h : w'.ownsMap Yba.prog 9 (plainElem Yba.prog 3) b n (D.put (key s) (.lit (.int .i64 ks.length)))) : MapIs w' b n (ks ++ [s]) := by
  refine ⟨_, h, ?_, fun t => ?_⟩
  · rw [size_put hT, (hD s).1, isIn_false.2 hs, hsz]; simp
  · by_cases e : t = s
    · subst e
      refine ⟨?_, fun _ => ?_⟩
      · rw [has_put_same hI hk]; exact (isIn_iff.2 (by simp)).symm
      · rw [atKey_put_same hI hk, pos_new hs]
    · have hne : key t ≠ key s := fun g => e (key_inj g)
      refine ⟨?_, fun ht => ?_⟩
      · rw [has_put_other hne, (hD t).1]
        have : isIn (ks ++ [s]) t = isIn ks t := by
          unfold isIn; rw [List.any_append]; simp; intro g; exact absurd g.symm e
        rw [this]
      · have ht' : t ∈ ks := by simp at ht; rcases ht with g | g; exact g; exact absurd g e
        rw [atKey_put_other hne, (hD t).2 ht', pos_app _ ht']

def ints (l : List Int) : List Value := l.map (Value.int .i64)
theorem ints_len (l : List Int) : (ints l).length = l.length := by simp [ints]
def RowI (w : World) (g : Nat) (l : List Int) : Prop := w.heap[g]? = some (.cells (ints l).toArray 3 (0, 0))
def RowB (w : World) (g : Nat) (l : List Bool) : Prop := w.heap[g]? = some (.cells (l.map Value.bool).toArray 4 (0, 0))
theorem RowI.congr {w w' : World} {g : Nat} {l : List Int} (h : RowI w g l) (hb : w'.heap[g]? = w.heap[g]?) : RowI w' g l := by unfold RowI; rw [hb]; exact h
theorem RowB.congr {w w' : World} {g : Nat} {l : List Bool} (h : RowB w g l) (hb : w'.heap[g]? = w.heap[g]?) : RowB w' g l := by unfold RowB; rw [hb]; exact h
theorem RowI.cell {w : World} {g : Nat} {l : List Int} (h : RowI w g l) {i : Nat} {v : Int} (hi : l[i]? = some v) : w.cell? ⟨g, i, none⟩ = some (.int .i64 v) ∧ w.frozen? ⟨g, i, none⟩ = false := by
  unfold RowI at h
  exact ⟨blk_cell h i (by simp [ints, hi]), by simp [World.frozen?, h]⟩
theorem RowB.cell {w : World} {g : Nat} {l : List Bool} (h : RowB w g l) {i : Nat} {v : Bool} (hi : l[i]? = some v) : w.cell? ⟨g, i, none⟩ = some (.bool v) ∧ w.frozen? ⟨g, i, none⟩ = false := by
  unfold RowB at h
  exact ⟨blk_cell h i (by simp [hi]), by simp [World.frozen?, h]⟩
theorem RowI.set {w : World} {g : Nat} {l : List Int} (h : RowI w g l) (i : Nat) (v : Int) : RowI (w.setCell ⟨g, i, none⟩ (.int .i64 v)) g (l.set i v) := by
  unfold RowI at *
  rw [blk_setCell_same h]
  simp [ints, List.map_set]
theorem RowB.set {w : World} {g : Nat} {l : List Bool} (h : RowB w g l) (i : Nat) (v : Bool) : RowB (w.setCell ⟨g, i, none⟩ (.bool v)) g (l.set i v) := by
  unfold RowB at *
  rw [blk_setCell_same h]
  simp [List.map_set]
theorem RowI.made (w : World) (N : Nat) : RowI (w.alloc (.cells (madeCells #[.int .i64 0] N) 3)) w.heap.size (List.replicate N 0) := by
  unfold RowI
  rw [heap_alloc_new]
  congr 2
  apply Array.ext
  · simp [madeCells, ints]
  · intro i h1 h2; simp [madeCells, ints, Nat.mod_one]
theorem RowB.made (w : World) (N : Nat) : RowB (w.alloc (.cells (madeCells #[.bool false] N) 4)) w.heap.size (List.replicate N false) := by
  unfold RowB
  rw [heap_alloc_new]
  congr 2
  apply Array.ext
  · simp [madeCells]
  · intro i h1 h2; simp [madeCells, Nat.mod_one]
theorem RowI.lt {w : World} {g : Nat} {l : List Int} (h : RowI w g l) : g < w.heap.size := lt_of_block h
theorem RowB.lt {w : World} {g : Nat} {l : List Bool} (h : RowB w g l) : g < w.heap.size := lt_of_block h

/-- A slice of strings below base. -/
def Strs (base : Nat) (w : World) (ao : Option Addr) (A : List ByteArray) : Prop :=
  ∀ (i : Nat) (s : ByteArray), A[i]? = some s → ∃ g, ao = some ⟨g, 0, none⟩ ∧ g < base ∧ w.cell? ⟨g, i, none⟩ = some (.string s)
theorem Strs.only {base : Nat} {w w' : World} {ao : Option Addr} {A : List ByteArray} {F : List Nat} (h : Strs base w ao A) (ho : Only w w' F) (hb : base ≤ w.heap.size) (hF : ∀ x ∈ F, base ≤ x) : Strs base w' ao A := by
  intro i s hs
  obtain ⟨g, h1, h2, h3⟩ := h i s hs
  refine ⟨g, h1, h2, ?_⟩
  rw [World.cell?_of_block (a := ⟨g, i, none⟩) (ho.block g (by omega) (fun hm => by have := hF g hm; omega))]
  exact h3
theorem Only.of_eq {w w' : World} {F : List Nat} {g : Nat} (ho : Only w w' F) (hg : g < w.heap.size) (hn : g ∉ F) : w'.heap[g]? = w.heap[g]? := ho.block g hg hn
end Go.Proofs.Ybulkacye
