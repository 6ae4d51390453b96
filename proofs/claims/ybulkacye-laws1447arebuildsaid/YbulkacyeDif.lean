import Derived.Test.YbulkacyeFr
import Derived.Test.YbulkacyeBld3
import Derived.Laws.IdiomStrings
import Derived.Deep.RegionLaw
import Derived.Deep.DrawnRows
namespace Go.Proofs.Ybulkacye
open Go.RowKit Go.Proofs.Ybulkacye.Lcs
set_option linter.unusedVariables false
set_option linter.unusedSectionVars false
variable {v0 v1 v5 v8 v9 v11 v12 v22 v23 v24 v54 v55 v56 : Value} {a : Act} {Q : Exit → Act → World → Prop} {w : World} {base Wb gl gd gp gm : Nat} {n m k : Nat} {R : Act → World → Prop}

/-- The frame of function 8 by its variables. -/
structure Ff (v0 v1 v5 v8 v9 v11 v12 v22 v23 v24 v54 v55 v56 : Value) (a : Act) : Prop where
  sz : a.tmps.size = 104
  df : a.defers = []
  e0 : a.tmps.getD 0 undef = v0
  e1 : a.tmps.getD 1 undef = v1
  e5 : a.tmps.getD 5 undef = v5
  e8 : a.tmps.getD 8 undef = v8
  e9 : a.tmps.getD 9 undef = v9
  e11 : a.tmps.getD 11 undef = v11
  e12 : a.tmps.getD 12 undef = v12
  e22 : a.tmps.getD 22 undef = v22
  e23 : a.tmps.getD 23 undef = v23
  e24 : a.tmps.getD 24 undef = v24
  e54 : a.tmps.getD 54 undef = v54
  e55 : a.tmps.getD 55 undef = v55
  e56 : a.tmps.getD 56 undef = v56

set_option maxRecDepth 100000 in
theorem Ff_range (g : Nat → Value) : (List.range 104).map g = (g 0 :: g 1 :: g 2 :: g 3 :: g 4 :: g 5 :: g 6 :: g 7 :: g 8 :: g 9 :: g 10 :: g 11 :: g 12 :: g 13 :: g 14 :: g 15 :: g 16 :: g 17 :: g 18 :: g 19 :: g 20 :: g 21 :: g 22 :: g 23 :: g 24 :: g 25 :: g 26 :: g 27 :: g 28 :: g 29 :: g 30 :: g 31 :: g 32 :: g 33 :: g 34 :: g 35 :: g 36 :: g 37 :: g 38 :: g 39 :: g 40 :: g 41 :: g 42 :: g 43 :: g 44 :: g 45 :: g 46 :: g 47 :: g 48 :: g 49 :: g 50 :: g 51 :: g 52 :: g 53 :: g 54 :: g 55 :: g 56 :: g 57 :: g 58 :: g 59 :: g 60 :: g 61 :: g 62 :: g 63 :: g 64 :: g 65 :: g 66 :: g 67 :: g 68 :: g 69 :: g 70 :: g 71 :: g 72 :: g 73 :: g 74 :: g 75 :: g 76 :: g 77 :: g 78 :: g 79 :: g 80 :: g 81 :: g 82 :: g 83 :: g 84 :: g 85 :: g 86 :: g 87 :: g 88 :: g 89 :: g 90 :: g 91 :: g 92 :: g 93 :: g 94 :: g 95 :: g 96 :: g 97 :: g 98 :: g 99 :: g 100 :: g 101 :: g 102 :: g 103 :: []) := by
  kernel_rfl

set_option maxRecDepth 100000 in
theorem Ff.lay {v0 v1 v5 v8 v9 v11 v12 v22 v23 v24 v54 v55 v56 : Value} {a : Act} (h : Ff v0 v1 v5 v8 v9 v11 v12 v22 v23 v24 v54 v55 v56 a) : ∃ u : Nat → Value, a = ⟨List.toArray (v0 :: v1 :: u 2 :: u 3 :: u 4 :: v5 :: u 6 :: u 7 :: v8 :: v9 :: u 10 :: v11 :: v12 :: u 13 :: u 14 :: u 15 :: u 16 :: u 17 :: u 18 :: u 19 :: u 20 :: u 21 :: v22 :: v23 :: v24 :: u 25 :: u 26 :: u 27 :: u 28 :: u 29 :: u 30 :: u 31 :: u 32 :: u 33 :: u 34 :: u 35 :: u 36 :: u 37 :: u 38 :: u 39 :: u 40 :: u 41 :: u 42 :: u 43 :: u 44 :: u 45 :: u 46 :: u 47 :: u 48 :: u 49 :: u 50 :: u 51 :: u 52 :: u 53 :: v54 :: v55 :: v56 :: u 57 :: u 58 :: u 59 :: u 60 :: u 61 :: u 62 :: u 63 :: u 64 :: u 65 :: u 66 :: u 67 :: u 68 :: u 69 :: u 70 :: u 71 :: u 72 :: u 73 :: u 74 :: u 75 :: u 76 :: u 77 :: u 78 :: u 79 :: u 80 :: u 81 :: u 82 :: u 83 :: u 84 :: u 85 :: u 86 :: u 87 :: u 88 :: u 89 :: u 90 :: u 91 :: u 92 :: u 93 :: u 94 :: u 95 :: u 96 :: u 97 :: u 98 :: u 99 :: u 100 :: u 101 :: u 102 :: u 103 :: []), []⟩ := by
  obtain ⟨⟨l⟩, df⟩ := a
  obtain ⟨sz, hd, e0, e1, e5, e8, e9, e11, e12, e22, e23, e24, e54, e55, e56⟩ := h
  have hd' : df = [] := hd
  have hl : l = (l.getD 0 undef :: l.getD 1 undef :: l.getD 2 undef :: l.getD 3 undef :: l.getD 4 undef :: l.getD 5 undef :: l.getD 6 undef :: l.getD 7 undef :: l.getD 8 undef :: l.getD 9 undef :: l.getD 10 undef :: l.getD 11 undef :: l.getD 12 undef :: l.getD 13 undef :: l.getD 14 undef :: l.getD 15 undef :: l.getD 16 undef :: l.getD 17 undef :: l.getD 18 undef :: l.getD 19 undef :: l.getD 20 undef :: l.getD 21 undef :: l.getD 22 undef :: l.getD 23 undef :: l.getD 24 undef :: l.getD 25 undef :: l.getD 26 undef :: l.getD 27 undef :: l.getD 28 undef :: l.getD 29 undef :: l.getD 30 undef :: l.getD 31 undef :: l.getD 32 undef :: l.getD 33 undef :: l.getD 34 undef :: l.getD 35 undef :: l.getD 36 undef :: l.getD 37 undef :: l.getD 38 undef :: l.getD 39 undef :: l.getD 40 undef :: l.getD 41 undef :: l.getD 42 undef :: l.getD 43 undef :: l.getD 44 undef :: l.getD 45 undef :: l.getD 46 undef :: l.getD 47 undef :: l.getD 48 undef :: l.getD 49 undef :: l.getD 50 undef :: l.getD 51 undef :: l.getD 52 undef :: l.getD 53 undef :: l.getD 54 undef :: l.getD 55 undef :: l.getD 56 undef :: l.getD 57 undef :: l.getD 58 undef :: l.getD 59 undef :: l.getD 60 undef :: l.getD 61 undef :: l.getD 62 undef :: l.getD 63 undef :: l.getD 64 undef :: l.getD 65 undef :: l.getD 66 undef :: l.getD 67 undef :: l.getD 68 undef :: l.getD 69 undef :: l.getD 70 undef :: l.getD 71 undef :: l.getD 72 undef :: l.getD 73 undef :: l.getD 74 undef :: l.getD 75 undef :: l.getD 76 undef :: l.getD 77 undef :: l.getD 78 undef :: l.getD 79 undef :: l.getD 80 undef :: l.getD 81 undef :: l.getD 82 undef :: l.getD 83 undef :: l.getD 84 undef :: l.getD 85 undef :: l.getD 86 undef :: l.getD 87 undef :: l.getD 88 undef :: l.getD 89 undef :: l.getD 90 undef :: l.getD 91 undef :: l.getD 92 undef :: l.getD 93 undef :: l.getD 94 undef :: l.getD 95 undef :: l.getD 96 undef :: l.getD 97 undef :: l.getD 98 undef :: l.getD 99 undef :: l.getD 100 undef :: l.getD 101 undef :: l.getD 102 undef :: l.getD 103 undef :: []) := (list_eta l 104 sz).trans (Ff_range _)
  have e0' : l.getD 0 undef = v0 := by rw [← e0]; simp [List.getD, Array.getD_eq_getD_getElem?]
  have e1' : l.getD 1 undef = v1 := by rw [← e1]; simp [List.getD, Array.getD_eq_getD_getElem?]
  have e5' : l.getD 5 undef = v5 := by rw [← e5]; simp [List.getD, Array.getD_eq_getD_getElem?]
  have e8' : l.getD 8 undef = v8 := by rw [← e8]; simp [List.getD, Array.getD_eq_getD_getElem?]
  have e9' : l.getD 9 undef = v9 := by rw [← e9]; simp [List.getD, Array.getD_eq_getD_getElem?]
  have e11' : l.getD 11 undef = v11 := by rw [← e11]; simp [List.getD, Array.getD_eq_getD_getElem?]
  have e12' : l.getD 12 undef = v12 := by rw [← e12]; simp [List.getD, Array.getD_eq_getD_getElem?]
  have e22' : l.getD 22 undef = v22 := by rw [← e22]; simp [List.getD, Array.getD_eq_getD_getElem?]
  have e23' : l.getD 23 undef = v23 := by rw [← e23]; simp [List.getD, Array.getD_eq_getD_getElem?]
  have e24' : l.getD 24 undef = v24 := by rw [← e24]; simp [List.getD, Array.getD_eq_getD_getElem?]
  have e54' : l.getD 54 undef = v54 := by rw [← e54]; simp [List.getD, Array.getD_eq_getD_getElem?]
  have e55' : l.getD 55 undef = v55 := by rw [← e55]; simp [List.getD, Array.getD_eq_getD_getElem?]
  have e56' : l.getD 56 undef = v56 := by rw [← e56]; simp [List.getD, Array.getD_eq_getD_getElem?]
  refine ⟨fun i => l.getD i undef, ?_⟩
  rw [hd', ← e0', ← e1', ← e5', ← e8', ← e9', ← e11', ← e12', ← e22', ← e23', ← e24', ← e54', ← e55', ← e56']
  exact congrArg (fun x => (⟨⟨x⟩, []⟩ : Act)) hl
noncomputable def pc8 (l : List Nat) : Code := sub l (Yba.f8.body.getD .skip)
set_option maxRecDepth 20000 in
set_option maxHeartbeats 4000000 in
theorem d0  (h : Ff v0 v1 v5 v8 v9 v11 v12 v22 v23 v24 v54 v55 v56 a) (hQ : ∀ w' a', Ff v0 v1 v5 v8 v9 v11 v12 v22 v23 v24 v54 v55 v56 a' → w' = w → Q .normal a' w') : Code.wp Yba.prog (pc8 [0]) Q a w := by
  obtain ⟨u, rfl⟩ := h.lay
  clear h
  conv => arg 2; whnf
  go_wp2
  exact hQ _ _ ⟨rfl, rfl, rfl, rfl, rfl, rfl, rfl, rfl, rfl, rfl, rfl, rfl, rfl, rfl, rfl⟩ rfl

set_option maxRecDepth 20000 in
set_option maxHeartbeats 4000000 in
theorem d1 {nv cv : Nat} {vo : Option Addr} (hc : w.cell? ⟨Wb, 3, none⟩ = some (.slice vo nv cv)) (hn : nv ≤ 1000) (h : Ff (.pointer (some ⟨Wb, 0, none⟩)) v1 v5 v8 v9 v11 v12 v22 v23 v24 v54 v55 v56 a) (hQ : ∀ w' a', Ff (.pointer (some ⟨Wb, 0, none⟩)) v1 (.slice (some ⟨w.heap.size, 0, none⟩) nv nv) v8 v9 v11 v12 v22 v23 v24 v54 v55 v56 a' → w' = w.alloc (.cells (madeCells #[.string ByteArray.empty] nv) 9) → Q .normal a' w') : Code.wp Yba.prog (pc8 [1, 0]) Q a w := by
  have hmk := fun kl kc w => run_make_row' (P := Yba.prog) 24 9 (.string ByteArray.empty) 16 Yba.underlying24 Yba.info9 rfl kl kc nv (by omega) (by omega) w
  obtain ⟨u, rfl⟩ := h.lay
  clear h
  conv => arg 2; whnf
  go_wp2
  exact hQ _ _ ⟨rfl, rfl, rfl, rfl, rfl, rfl, rfl, rfl, rfl, rfl, rfl, rfl, rfl, rfl, rfl⟩ rfl

set_option maxRecDepth 20000 in
set_option maxHeartbeats 4000000 in
theorem d2 {nv cv : Nat} {vo : Option Addr} (hc : w.cell? ⟨Wb, 3, none⟩ = some (.slice vo nv cv)) (h : Ff (.pointer (some ⟨Wb, 0, none⟩)) v1 v5 v8 v9 v11 v12 v22 v23 v24 v54 v55 v56 a) (hQ : ∀ w' a', Ff (.pointer (some ⟨Wb, 0, none⟩)) v1 v5 v8 v9 v11 v12 (.slice vo nv cv) (.int .i64 nv) (.int .i64 ((0 : Nat) : Int)) v54 v55 v56 a' → w' = w → Q .normal a' w') : Code.wp Yba.prog (pc8 [1, 1, 0, 0]) Q a w := by
  obtain ⟨u, rfl⟩ := h.lay
  clear h
  conv => arg 2; whnf
  go_wp2
  exact hQ _ _ ⟨rfl, rfl, rfl, rfl, rfl, rfl, rfl, rfl, rfl, rfl, rfl, rfl, rfl, rfl, rfl⟩ rfl

set_option maxRecDepth 20000 in
set_option maxHeartbeats 4000000 in
theorem dh3 {i nv : Nat} (h : Ff v0 v1 v5 v8 v9 v11 v12 v22 (.int .i64 nv) (.int .i64 i) v54 v55 v56 a) (hQ : ∀ a', Ff v0 v1 v5 v8 v9 v11 v12 v22 (.int .i64 nv) (.int .i64 i) v54 v55 v56 a' → a'.tmps.getD 25 undef = .bool (decide (i < nv)) → Q .normal a' w) : Code.wp Yba.prog (pc8 [1, 1, 0, 1, 0, 0, 0]) Q a w := by
  obtain ⟨u, rfl⟩ := h.lay
  clear h
  by_cases c : i < nv
  · rw [decide_eq_true c] at hQ
    conv => arg 2; whnf
    go_wp2
    exact hQ _ ⟨rfl, rfl, rfl, rfl, rfl, rfl, rfl, rfl, rfl, rfl, rfl, rfl, rfl, rfl, rfl⟩ rfl
  · rw [decide_eq_false c] at hQ
    conv => arg 2; whnf
    go_wp2
    exact hQ _ ⟨rfl, rfl, rfl, rfl, rfl, rfl, rfl, rfl, rfl, rfl, rfl, rfl, rfl, rfl, rfl⟩ rfl

set_option maxRecDepth 20000 in
set_option maxHeartbeats 4000000 in
theorem dh11 {i nv : Nat} (h : Ff v0 v1 v5 v8 v9 v11 v12 v22 v23 v24 v54 (.int .i64 nv) (.int .i64 i) a) (hQ : ∀ a', Ff v0 v1 v5 v8 v9 v11 v12 v22 v23 v24 v54 (.int .i64 nv) (.int .i64 i) a' → a'.tmps.getD 57 undef = .bool (decide (i < nv)) → Q .normal a' w) : Code.wp Yba.prog (pc8 [1, 1, 1, 1, 1, 1, 0, 1, 0, 0, 0]) Q a w := by
  obtain ⟨u, rfl⟩ := h.lay
  clear h
  by_cases c : i < nv
  · rw [decide_eq_true c] at hQ
    conv => arg 2; whnf
    go_wp2
    exact hQ _ ⟨rfl, rfl, rfl, rfl, rfl, rfl, rfl, rfl, rfl, rfl, rfl, rfl, rfl, rfl, rfl⟩ rfl
  · rw [decide_eq_false c] at hQ
    conv => arg 2; whnf
    go_wp2
    exact hQ _ ⟨rfl, rfl, rfl, rfl, rfl, rfl, rfl, rfl, rfl, rfl, rfl, rfl, rfl, rfl, rfl⟩ rfl

set_option maxRecDepth 20000 in
set_option maxHeartbeats 4000000 in
theorem di6 {i : Nat} (h : Ff v0 v1 v5 v8 v9 v11 v12 v22 v23 (.int .i64 i) v54 v55 v56 a) (hi : i ≤ 1000) (hQ : ∀ a', Ff v0 v1 v5 v8 v9 v11 v12 v22 v23 (.int .i64 ((i + 1 : Nat) : Int)) v54 v55 v56 a' → Q .normal a' w) : Code.wp Yba.prog (pc8 [1, 1, 0, 1, 0, 0, 1, 1, 1]) Q a w := by
  have e : ((i + 1 : Nat) : Int) = (i : Int) + 1 := by omega
  rw [e] at hQ
  clear e

  obtain ⟨u, rfl⟩ := h.lay
  clear h
  conv => arg 2; whnf
  go_wp2
  exact ⟨rfl, rfl, rfl, rfl, rfl, rfl, rfl, rfl, rfl, rfl, rfl, rfl, rfl, rfl, rfl⟩

set_option maxRecDepth 20000 in
set_option maxHeartbeats 4000000 in
theorem di20 {i : Nat} (h : Ff v0 v1 v5 v8 v9 v11 v12 v22 v23 v24 v54 v55 (.int .i64 i) a) (hi : i ≤ 1000) (hQ : ∀ a', Ff v0 v1 v5 v8 v9 v11 v12 v22 v23 v24 v54 v55 (.int .i64 ((i + 1 : Nat) : Int)) a' → Q .normal a' w) : Code.wp Yba.prog (pc8 [1, 1, 1, 1, 1, 1, 0, 1, 0, 0, 1, 1, 1]) Q a w := by
  have e : ((i + 1 : Nat) : Int) = (i : Int) + 1 := by omega
  rw [e] at hQ
  clear e

  obtain ⟨u, rfl⟩ := h.lay
  clear h
  conv => arg 2; whnf
  go_wp2
  exact ⟨rfl, rfl, rfl, rfl, rfl, rfl, rfl, rfl, rfl, rfl, rfl, rfl, rfl, rfl, rfl⟩

set_option maxRecDepth 20000 in
set_option maxHeartbeats 4000000 in
theorem di15 {i : Nat} (h : Ff v0 v1 v5 v8 v9 v11 (.int .i64 i) v22 v23 v24 v54 v55 v56 a) (hi : i ≤ 1000) (hQ : ∀ a', Ff v0 v1 v5 v8 v9 v11 (.int .i64 ((i + 1 : Nat) : Int)) v22 v23 v24 v54 v55 v56 a' → Q .normal a' w) : Code.wp Yba.prog (pc8 [1, 1, 1, 1, 1, 1, 0, 1, 0, 0, 1, 1, 0, 0, 1, 0, 1, 0, 0, 1, 1]) Q a w := by
  have e : ((i + 1 : Nat) : Int) = (i : Int) + 1 := by omega
  rw [e] at hQ
  clear e

  obtain ⟨u, rfl⟩ := h.lay
  clear h
  conv => arg 2; whnf
  go_wp2
  exact ⟨rfl, rfl, rfl, rfl, rfl, rfl, rfl, rfl, rfl, rfl, rfl, rfl, rfl, rfl, rfl⟩

set_option maxRecDepth 20000 in
set_option maxHeartbeats 4000000 in
theorem d45 {go gv nv cv j i g cp nq : Nat} {s u0 : ByteArray} (hn : nv ≤ 1000) (hj : j < nv) (hi : i ≤ 1000) (hv : w.cell? ⟨gv, j, none⟩ = some (.int .i64 (i : Int)))
    (hc : Calls Yba.prog 17 #[(.pointer (some ⟨Wb, 0, none⟩)), .int .i64 (i : Int)] w fun e w' => ∃ n, e = .returned (.slice (some ⟨g, 2 * i, none⟩) 2 cp) ∧ w' = w.drewN n)
    (hcv : ∀ n, (convert 22 9 (.slice (some ⟨g, 2 * i, none⟩) 2 cp)).run Yba.prog (w.drewN n) = .ok (.string s) (w.drewN n)) (q1 : w.cell? ⟨go, j, none⟩ = some (.string u0)) (q2 : w.frozen? ⟨go, j, none⟩ = false)
    (h : Ff (.pointer (some ⟨Wb, 0, none⟩)) v1 (.slice (some ⟨go, 0, none⟩) nv nv) v8 v9 v11 v12 (.slice (some ⟨gv, 0, none⟩) nv cv) v23 (.int .i64 j) v54 v55 v56 a) (hQ : ∀ n a', Ff (.pointer (some ⟨Wb, 0, none⟩)) v1 (.slice (some ⟨go, 0, none⟩) nv nv) v8 v9 v11 v12 (.slice (some ⟨gv, 0, none⟩) nv cv) v23 (.int .i64 j) v54 v55 v56 a' → Q .normal a' ((w.setCell ⟨go, j, none⟩ (.string s)).drewN n)) : Code.wp Yba.prog (pc8 [1, 1, 0, 1, 0, 0, 1, 1, 0, 0]) Q a w := by
  obtain ⟨u, rfl⟩ := h.lay
  clear h
  conv => arg 2; whnf
  go_wp2_with fail
  refine hc.mono ?_
  rintro _ _ ⟨n, rfl, rfl⟩
  clear hc
  have hcn := hcv n
  clear hcv
  go_wp2
  exact ⟨rfl, rfl, rfl, rfl, rfl, rfl, rfl, rfl, rfl, rfl, rfl, rfl, rfl, rfl, rfl⟩

set_option maxRecDepth 20000 in
set_option maxHeartbeats 4000000 in
theorem d7 {nO cO nL cL : Nat} {oo lo : Option Addr} {RR : Ending → World → Prop} (h : Ff v0 (.slice lo nL cL) (.slice oo nO cO) v8 v9 v11 v12 v22 v23 v24 v54 v55 v56 a) (hc : Calls Yba.prog 18 #[.slice oo nO cO, .slice lo nL cL] w RR) (hQ : ∀ e w', RR e w' → ∃ fs, e = .returned fs ∧ ∀ a', Ff v0 (.slice lo nL cL) (.slice oo nO cO) fs v9 v11 v12 v22 v23 v24 v54 v55 v56 a' → Q .normal a' w') : Code.wp Yba.prog (pc8 [1, 1, 1, 0]) Q a w := by
  obtain ⟨u, rfl⟩ := h.lay
  clear h
  conv => arg 2; whnf
  go_wp2_with fail
  refine hc.mono ?_
  intro e w1 hr
  obtain ⟨fs, rfl, hQ1⟩ := hQ e w1 hr
  clear hQ hc hr
  go_wp2
  exact ⟨rfl, rfl, rfl, rfl, rfl, rfl, rfl, rfl, rfl, rfl, rfl, rfl, rfl, rfl, rfl⟩

set_option maxRecDepth 20000 in
set_option maxHeartbeats 4000000 in
theorem d8 {nO cO : Nat} {oo : Option Addr} {u0 : Value} (hn : nO ≤ 1000) (hl : Wb < w.heap.size) (hc : w.cell? ⟨Wb, 4, none⟩ = some u0) (hf : w.frozen? ⟨Wb, 4, none⟩ = false) (h : Ff (.pointer (some ⟨Wb, 0, none⟩)) v1 (.slice oo nO cO) v8 v9 v11 v12 v22 v23 v24 v54 v55 v56 a) (hQ : ∀ w' a', Ff (.pointer (some ⟨Wb, 0, none⟩)) v1 (.slice oo nO cO) v8 v9 v11 v12 v22 v23 v24 v54 v55 v56 a' → w' = (w.setCell ⟨Wb, 4, none⟩ (.slice (some ⟨w.heap.size, 0, none⟩) nO nO)).alloc (.cells (madeCells #[.bool false] nO) 4) → Q .normal a' w') : Code.wp Yba.prog (pc8 [1, 1, 1, 1, 0]) Q a w := by
  have hmk := fun kl kc w => run_make_row' (P := Yba.prog) 29 4 (.bool false) 1 Yba.underlying29 Yba.info4 rfl kl kc nO (by omega) (by omega) w
  obtain ⟨u, rfl⟩ := h.lay
  clear h
  conv => arg 2; whnf
  go_wp2
  exact hQ _ _ ⟨rfl, rfl, rfl, rfl, rfl, rfl, rfl, rfl, rfl, rfl, rfl, rfl, rfl, rfl, rfl⟩ rfl

set_option maxRecDepth 20000 in
set_option maxHeartbeats 4000000 in
theorem d9  (h : Ff v0 v1 v5 v8 v9 v11 v12 v22 v23 v24 v54 v55 v56 a) (hQ : ∀ w' a', Ff v0 v1 v5 v8 (.pointer (some ⟨w.heap.size, 0, none⟩)) v11 v12 v22 v23 v24 v54 v55 v56 a' → w' = w.alloc (.cells #[.int .i64 (-1), .int .i64 (-1)] 57) → Q .normal a' w') : Code.wp Yba.prog (pc8 [1, 1, 1, 1, 1, 0]) Q a w := by
  obtain ⟨u, rfl⟩ := h.lay
  clear h
  conv => arg 2; whnf
  go_wp2
  exact hQ _ _ ⟨rfl, rfl, rfl, rfl, rfl, rfl, rfl, rfl, rfl, rfl, rfl, rfl, rfl, rfl, rfl⟩ rfl

set_option maxRecDepth 20000 in
set_option maxHeartbeats 4000000 in
theorem d10 {nO cO nL cL : Nat} {oo lo : Option Addr} {fs : Value} {M : List (Nat × Nat)} (hM : M.length ≤ 1000) (hO : nO ≤ 1000) (hL : nL ≤ 1000) (hbw : base ≤ w.heap.size) (hown : w.ownsRow base 57 2 fs M.length (mcells M)) (h : Ff v0 (.slice lo nL cL) (.slice oo nO cO) fs v9 v11 v12 v22 v23 v24 v54 v55 v56 a)
    (hQ : ∀ fs' w' a', Ff v0 (.slice lo nL cL) (.slice oo nO cO) fs v9 v11 v12 v22 v23 v24 fs' (.int .i64 ((M.length + 1 : Nat) : Int)) (.int .i64 ((0 : Nat) : Int)) a' → w'.ownsRow base 57 2 fs' (M.length + 1) (mcells (M ++ [(nO, nL)])) → (∃ ob, (w.alloc ob).grownBy w' fs.ownBlock) → Q .normal a' w') : Code.wp Yba.prog (pc8 [1, 1, 1, 1, 1, 1, 0, 0]) Q a w := by
  obtain ⟨i0, hi0, hz0, hz1, hz2⟩ := info_parts Yba.info57
  have a63 : M.length + 1 ≤ maxLen := by unfold maxLen; omega
  have a47 : (M.length + 1) * 16 ≤ 140737488355328 := by omega
  obtain ⟨fo, fc, rfl⟩ := own_slice2 hown
  have em : ((M.length + 1 : Nat) : Int) = (M.length : Int) + 1 := by omega
  rw [em] at hQ
  clear em
  obtain ⟨u, rfl⟩ := h.lay
  clear h
  conv => arg 2; whnf
  go_wp2_with (at_builtin; refine wpList_append_any _ rfl (.tmp 47) (.tmp 53) 54 54 rfl base 57 i0 _ 2 16 Yba.underlying54 hi0 hz0 hz1 hz2 rfl (.slice fo M.length fc) M.length (mcells M) rfl (hown.alloc _) (.slice (some ⟨w.heap.size, 0, none⟩) 1 1) 1 [.int .i64 (nO : Int), .int .i64 (nL : Int)] rfl (Src.ofSlice _ Yba.underlying54 ⟨w.heap.size, 0, none⟩ 1 1 [.int .i64 (nO : Int), .int .i64 (nL : Int)] rfl (news_two _ _ _ _) (by simp [Value.oneCell'])) a63 a47 (by simp; omega) ?_; intro v' w1 ho1 hg1 hat1 _; obtain ⟨fo', fc', rfl⟩ := own_slice2 ho1)
  refine hQ (.slice fo' (M.length + 1) fc') _ _ ?_ ?_ ⟨_, hg1⟩
  · exact ⟨rfl, rfl, rfl, rfl, rfl, rfl, rfl, rfl, rfl, rfl, rfl, rfl, rfl, rfl, rfl⟩
  · rw [mcells_push]; exact ho1

end Go.Proofs.Ybulkacye
