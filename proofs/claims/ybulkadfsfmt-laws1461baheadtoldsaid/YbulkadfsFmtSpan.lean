import Derived.Test.YbulkadfsFmtLaws
import Derived.Test.YbulkadfsFmtPart
import Derived.Test.YbulkadfsFmtTz
import Derived.Deep.QuietTactic
import Derived.BigQuiet
import Derived.Deep.DrawnRows
namespace Go.Proofs.YbulkadfsFmt
open Go.RowKit
set_option linter.unusedVariables false
attribute [local go_sem ↓] Go.wp_at_zero Go.wp_at_succ

/-- Just past the range of a tree node, on 64 bits. -/
def endOf (b l : Int) : Int := IntKind.u64.wrap (b + IntKind.u64.wrap (2 ^ (64 - l).toNat))
/-- The last position of the range of a tree node. -/
def hiOf (b l : Int) : Int := IntKind.u64.wrap (endOf b l - 1)

set_option maxHeartbeats 400000 in
theorem leaf_any (b l i c : Int) (w : World) (hc : 0 ≤ c) :
    Calls Ybaf.prog 21 #[.agg #[.int .u64 b, .int .u8 l, .int .u8 i, .int .u8 c]] w fun e w' => e = .returned (.bool (decide (0 < c))) ∧ w' = w.alloc (.cells #[.int .u64 b, .int .u8 l, .int .u8 i, .int .u8 c] 28) := by
  go_enter Ybaf.func21, Ybaf.ntmps21
  go_wp2
  go_ret
  exact ⟨rfl, rfl⟩

set_option maxHeartbeats 400000 in
theorem pos_any (b l : Int) (w : World) :
    Calls Ybaf.prog 26 #[.agg #[.int .u64 b, .int .u8 l, .int .u8 0, .int .u8 0]] w fun e w' => e = .returned (.int .u64 b) ∧ w' = (w.alloc (.cells #[.int .u64 b, .int .u8 l, .int .u8 0, .int .u8 0] 28)).alloc (.cells #[.int .u64 b, .int .u8 l, .int .u8 0, .int .u8 0] 28) := by
  go_enter Ybaf.func26, Ybaf.ntmps26
  go_wp2_with (go_at_call 21; refine (leaf_any _ _ _ _ _ (by omega)).mono ?_; rintro e w' ⟨rfl, rfl⟩)
  go_ret
  exact ⟨rfl, rfl⟩

set_option maxHeartbeats 400000 in
theorem end_any (b l : Int) (w : World) (hl : 0 ≤ l) (hl2 : l ≤ 64) :
    Calls Ybaf.prog 27 #[.agg #[.int .u64 b, .int .u8 l, .int .u8 0, .int .u8 0]] w fun e w' => e = .returned (.int .u64 (endOf b l)) ∧ w' = (w.alloc (.cells #[.int .u64 b, .int .u8 l, .int .u8 0, .int .u8 0] 28)).alloc (.cells #[.int .u64 b, .int .u8 l, .int .u8 0, .int .u8 0] 28) := by
  go_enter Ybaf.func27, Ybaf.ntmps27
  go_wp2_with (go_at_call 21; refine (leaf_any _ _ _ _ _ (by omega)).mono ?_; rintro e w' ⟨rfl, rfl⟩)
  go_ret
  exact ⟨rfl, rfl⟩

theorem two_below {w w' : World} {o1 o2 : Obj} (h : w' = (w.alloc o1).alloc o2) : Below w.heap.size w w' := by
  rw [h]; exact ((Below.refl _ _).alloc (Nat.le_refl _) _).alloc (by simp) _

/-- What a region keeps in a function that has boxed its arguments in the blocks n .. m - 1 and its result of k cells in block m: w: the world ahead of the call; w1: the world ahead of the region. -/
structure Fr (w w1 : World) (n m k : Nat) (w' : World) : Prop where
  below : Below n w w'
  le : m ≤ w'.heap.size
  args : ∀ q, n ≤ q → q < m → w'.heap[q]? = w1.heap[q]?
  res : ∀ j, j < k → (∃ v, w'.cell? ⟨m, j, none⟩ = some v) ∧ w'.frozen? ⟨m, j, none⟩ = false
theorem Fr.cell {w w1 : World} {n m k : Nat} {w' : World} (h : Fr w w1 n m k w') {q j : Nat} (h1 : n ≤ q) (h2 : q < m) : w'.cell? ⟨q, j, none⟩ = w1.cell? ⟨q, j, none⟩ := World.cell?_of_block (h.args q h1 h2)
theorem Fr.drew {w w1 : World} {n m k : Nat} {w' : World} (h : Fr w w1 n m k w') : Fr w w1 n m k w'.drew := ⟨h.below.drew, h.le, h.args, h.res⟩
theorem Fr.step {w w1 : World} {n m k : Nat} {W w' : World} (h : Fr w w1 n m k W) (hb : Below W.heap.size W w') (hn : n ≤ m) : Fr w w1 n m k w' :=
  ⟨h.below.trans (hb.mono (by have := h.le; omega)), Nat.le_trans h.le hb.size, fun q h1 h2 => (hb.block q (by have := h.le; omega)).trans (h.args q h1 h2), fun j hj => by
    obtain ⟨⟨v, hv⟩, hf⟩ := h.res j hj
    have hlt := World.block_lt_of_cell? W _ hv
    rw [hb.cell (p := ⟨m, j, none⟩) hlt, hb.frozen (p := ⟨m, j, none⟩) hlt]; exact ⟨⟨v, hv⟩, hf⟩⟩
theorem Fr.set {w w1 : World} {n m k : Nat} {W : World} (h : Fr w w1 n m k W) (j : Nat) (v : Value) (hn : n ≤ m) : Fr w w1 n m k (W.setCell ⟨m, j, none⟩ v) := by
  refine ⟨h.below.setCell hn v, by simpa [World.setCell] using h.le, fun q h1 h2 => (Below.heap_setCell _ _ _ _ (show q ≠ m by omega)).trans (h.args q h1 h2), fun i hi => ?_⟩
  obtain ⟨⟨x, hx⟩, hf⟩ := h.res i hi
  exact ⟨cell?_setCell_some hx, by rw [World.frozen?_setCell]; exact hf⟩

theorem Fr.set4 {w w1 : World} {n m k : Nat} {W : World} (h : Fr w w1 n m k W) (hn : n ≤ m) (a0 a1 a2 a3 : Value) :
    Fr w w1 n m k ((((W.setCell ⟨m, 0, none⟩ a0).setCell ⟨m, 1, none⟩ a1).setCell ⟨m, 2, none⟩ a2).setCell ⟨m, 3, none⟩ a3) := (((h.set 0 _ hn).set 1 _ hn).set 2 _ hn).set 3 _ hn
theorem Fr.set8 {w w1 : World} {n m k : Nat} {W : World} (h : Fr w w1 n m k W) (hn : n ≤ m) (a0 a1 a2 a3 a4 a5 a6 a7 : Value) :
    Fr w w1 n m k ((((((((W.setCell ⟨m, 0, none⟩ a0).setCell ⟨m, 1, none⟩ a1).setCell ⟨m, 2, none⟩ a2).setCell ⟨m, 3, none⟩ a3).setCell ⟨m, 4, none⟩ a4).setCell ⟨m, 5, none⟩ a5).setCell ⟨m, 6, none⟩ a6).setCell ⟨m, 7, none⟩ a7) :=
  (((((((h.set 0 _ hn).set 1 _ hn).set 2 _ hn).set 3 _ hn).set 4 _ hn).set 5 _ hn).set 6 _ hn).set 7 _ hn

set_option maxHeartbeats 1000000 in
theorem spanOf_any (b l : Int) (w : World) (hl : 0 ≤ l) (hl2 : l ≤ 64) :
    Calls Ybaf.prog 19 #[.agg #[.int .u64 b, .int .u8 l, .int .u8 0, .int .u8 0]] w fun e w' => e = .returned (.agg #[.int .u64 b, .int .u64 (hiOf b l)]) ∧ Below w.heap.size w w' := by
  go_enter Ybaf.func19, Ybaf.ntmps19
  go_wp2
  generalize hw1 : (w.alloc _).alloc _ = w1
  have c : ∀ j u, #[Value.int .u64 b, .int .u8 l, .int .u8 0, .int .u8 0][j]? = some u → w1.cell? ⟨w.heap.size, j, none⟩ = some u := fun j u hu => by
    rw [← hw1, World.cell?_alloc2_first]
    exact hu
  have F1 : Fr w w1 w.heap.size (w.heap.size + 1) 2 w1 := by
    refine ⟨?_, by rw [← hw1]; simp, fun _ _ _ => rfl, fun j hj => ⟨?_, ?_⟩⟩
    · rw [← hw1]; exact ((Below.refl _ _).alloc (Nat.le_refl _) _).alloc (by simp) _
    · rw [← hw1, World.cell?_alloc2_new]
      match j, hj with
      | 0, _ => exact ⟨_, rfl⟩
      | 1, _ => exact ⟨_, rfl⟩
    · rw [← hw1, World.frozen?_alloc_at _ _ _ _ (by simp)]
  have c0 := c 0 _ rfl
  have c1 := c 1 _ rfl
  have c2 := c 2 _ rfl
  have c3 := c 3 _ rfl
  clear c hw1
  go_region_held3 (fun w' => w'.cell? ⟨w.heap.size, 0, none⟩ = some (.int .u64 b) ∧ w'.cell? ⟨w.heap.size, 1, none⟩ = some (.int .u8 l) ∧ w'.cell? ⟨w.heap.size, 2, none⟩ = some (.int .u8 0) ∧ w'.cell? ⟨w.heap.size, 3, none⟩ = some (.int .u8 0) ∧ Fr w w1 w.heap.size (w.heap.size + 1) 2 w')
    ((go_split_ands
      refine (fun F => ⟨(F.cell (Nat.le_refl _) (Nat.lt_succ_self _)).trans c0, (F.cell (Nat.le_refl _) (Nat.lt_succ_self _)).trans c1, (F.cell (Nat.le_refl _) (Nat.lt_succ_self _)).trans c2, (F.cell (Nat.le_refl _) (Nat.lt_succ_self _)).trans c3, F⟩ : Fr w w1 w.heap.size (w.heap.size + 1) 2 _ → _) ?_
      first | exact F1.drew | exact Fr.step (by assumption) hb (Nat.le_succ _) | exact (Fr.set (Fr.set (by assumption) 0 _ (Nat.le_succ _)) 1 _ (Nat.le_succ _))))
    (first | (go_at_call 26; go_split_ands; refine (pos_any b l _).mono ?_; rintro e w' ⟨rfl, hw'⟩; have hb := two_below hw'; have F := Fr.step (by assumption) hb (Nat.le_succ _); obtain ⟨⟨v0, k0⟩, z0⟩ := F.res 0 (by omega); obtain ⟨⟨v1, k1⟩, z1⟩ := F.res 1 (by omega); clear hw') | (go_at_call 27; go_split_ands; refine (end_any b l _ hl hl2).mono ?_; rintro e w' ⟨rfl, hw'⟩; have hb := two_below hw'; have F := Fr.step (by assumption) hb (Nat.le_succ _); obtain ⟨⟨v0, k0⟩, z0⟩ := F.res 0 (by omega); obtain ⟨⟨v1, k1⟩, z1⟩ := F.res 1 (by omega); clear hw'))
  all_goals
    have FF := (Fr.set (Fr.set F 0 (.int .u64 b) (Nat.le_succ _)) 1 (.int .u64 (hiOf b l)) (Nat.le_succ _)).below
    go_wp2
    exact bodyPost_ret (v := .agg #[.int .u64 b, .int .u64 (hiOf b l)]) (by simp [results, Ybaf.results19, go_sem, k0, k1, hiOf]) rfl ⟨rfl, FF⟩

set_option maxHeartbeats 400000 in
theorem spanWithin_any (a b c d : Int) (w : World) :
    Calls Ybaf.prog 20 #[.agg #[.int .u64 a, .int .u64 b], .agg #[.int .u64 c, .int .u64 d]] w fun e w' => e = .returned (.bool (decide (c ≤ a) && decide (b ≤ d))) ∧ Below w.heap.size w w' := by
  by_cases h : c ≤ a
  · go_enter Ybaf.func20, Ybaf.ntmps20
    go_wp2
    go_ret
    exact ⟨by simp [h], ((Below.refl _ _).alloc (Nat.le_refl _) _).alloc (by simp) _⟩
  · have h' : decide (c ≤ a) = false := by simpa using h
    go_enter Ybaf.func20, Ybaf.ntmps20
    go_wp2
    go_ret
    exact ⟨by simp, ((Below.refl _ _).alloc (Nat.le_refl _) _).alloc (by simp) _⟩

/-- Does the range of tree node (b, l) lie within that of (b', l')? -/
def inB (b l b' l' : Int) : Bool := decide (b' ≤ b) && decide (hiOf b l ≤ hiOf b' l')

set_option maxHeartbeats 1000000 in
theorem within_any (b l b' l' : Int) (w : World) (hl : 0 ≤ l) (hl2 : l ≤ 64) (hl' : 0 ≤ l') (hl2' : l' ≤ 64) :
    Calls Ybaf.prog 14 #[.agg #[.int .u64 b, .int .u8 l, .int .u8 0, .int .u8 0], .agg #[.int .u64 b', .int .u8 l', .int .u8 0, .int .u8 0]] w fun e w' => e = .returned (.bool (inB b l b' l')) ∧ Below w.heap.size w w' := by
  go_enter Ybaf.func14, Ybaf.ntmps14
  go_wp2
  generalize hw1 : (w.alloc _).alloc _ = w1
  have c : ∀ j u, #[Value.int .u64 b, .int .u8 l, .int .u8 0, .int .u8 0][j]? = some u → w1.cell? ⟨w.heap.size, j, none⟩ = some u := fun j u hu => by
    rw [← hw1, World.cell?_alloc2_first]
    exact hu
  have d : ∀ j u, #[Value.int .u64 b', .int .u8 l', .int .u8 0, .int .u8 0][j]? = some u → w1.cell? ⟨w.heap.size + 1, j, none⟩ = some u := fun j u hu => by
    rw [← hw1, World.cell?_alloc2_new]
    exact hu
  have F1 : Fr w w1 w.heap.size (w.heap.size + 2) 0 w1 := by
    refine ⟨?_, by rw [← hw1]; simp, fun _ _ _ => rfl, fun j hj => by omega⟩
    rw [← hw1]; exact ((Below.refl _ _).alloc (Nat.le_refl _) _).alloc (by simp) _
  have c0 := c 0 _ rfl
  have c1 := c 1 _ rfl
  have c2 := c 2 _ rfl
  have c3 := c 3 _ rfl
  have d0 := d 0 _ rfl
  have d1 := d 1 _ rfl
  have d2 := d 2 _ rfl
  have d3 := d 3 _ rfl
  clear c d hw1
  have n0 : w.heap.size < w.heap.size + 2 := by omega
  have n1 : w.heap.size + 1 < w.heap.size + 2 := by omega
  have n2 : w.heap.size ≤ w.heap.size + 2 := by omega
  have n3 : w.heap.size ≤ w.heap.size + 1 := by omega
  go_region_held3 (fun w' => w'.cell? ⟨w.heap.size, 0, none⟩ = some (.int .u64 b) ∧ w'.cell? ⟨w.heap.size, 1, none⟩ = some (.int .u8 l) ∧ w'.cell? ⟨w.heap.size, 2, none⟩ = some (.int .u8 0) ∧ w'.cell? ⟨w.heap.size, 3, none⟩ = some (.int .u8 0) ∧ w'.cell? ⟨w.heap.size + 1, 0, none⟩ = some (.int .u64 b') ∧ w'.cell? ⟨w.heap.size + 1, 1, none⟩ = some (.int .u8 l') ∧ w'.cell? ⟨w.heap.size + 1, 2, none⟩ = some (.int .u8 0) ∧ w'.cell? ⟨w.heap.size + 1, 3, none⟩ = some (.int .u8 0) ∧ Fr w w1 w.heap.size (w.heap.size + 2) 0 w')
    ((go_split_ands
      refine (fun F => ⟨(F.cell (Nat.le_refl _) n0).trans c0, (F.cell (Nat.le_refl _) n0).trans c1, (F.cell (Nat.le_refl _) n0).trans c2, (F.cell (Nat.le_refl _) n0).trans c3, (F.cell n3 n1).trans d0, (F.cell n3 n1).trans d1, (F.cell n3 n1).trans d2, (F.cell n3 n1).trans d3, F⟩ : Fr w w1 w.heap.size (w.heap.size + 2) 0 _ → _) ?_
      first | exact F1.drew | exact Fr.step (by assumption) hb n2))
    (first | (go_at_call_of 19 (Value.agg #[Value.int .u64 b, .int .u8 l, .int .u8 0, .int .u8 0]); go_split_ands; refine (spanOf_any b l _ hl hl2).mono ?_; rintro e w' ⟨rfl, hb⟩; have F := Fr.step (by assumption) hb n2) | (go_at_call 19; go_split_ands; refine (spanOf_any b' l' _ hl' hl2').mono ?_; rintro e w' ⟨rfl, hb⟩; have F := Fr.step (by assumption) hb n2) | (go_at_call 20; go_split_ands; refine (spanWithin_any _ _ _ _ _).mono ?_; rintro e w' ⟨rfl, hb⟩; have F := Fr.step (by assumption) hb n2))
  all_goals
    have FF := F.below
    go_wp2
    go_ret
    exact ⟨rfl, FF⟩
end Go.Proofs.YbulkadfsFmt
