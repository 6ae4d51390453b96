import Derived.Test.YbulkacyeFr
import Derived.Test.YbulkacyeDif5
import Derived.BigQuiet
namespace Go.Proofs.Ybulkacye
open Go.RowKit Go.Proofs.Ybulkacye.Lcs
set_option linter.unusedVariables false
set_option linter.unusedSectionVars false
variable {v0 v1 v5 v6 v7 v8 v9 v10 v11 v12 v13 v14 v15 : Value} {a : Act} {Q : Exit → Act → World → Prop} {w : World} {Wb gl gr go : Nat} {n m : Nat} {ao bo : Option Addr} {ca cb : Nat} {bs ns : List UInt8}

/-- The frame of function 4 by its variables. -/
structure Fg (v0 v1 v5 v6 v7 v8 v9 v10 v11 v12 v13 v14 v15 : Value) (a : Act) : Prop where
  sz : a.tmps.size = 96
  df : a.defers = []
  e0 : a.tmps.getD 0 undef = v0
  e1 : a.tmps.getD 1 undef = v1
  e5 : a.tmps.getD 5 undef = v5
  e6 : a.tmps.getD 6 undef = v6
  e7 : a.tmps.getD 7 undef = v7
  e8 : a.tmps.getD 8 undef = v8
  e9 : a.tmps.getD 9 undef = v9
  e10 : a.tmps.getD 10 undef = v10
  e11 : a.tmps.getD 11 undef = v11
  e12 : a.tmps.getD 12 undef = v12
  e13 : a.tmps.getD 13 undef = v13
  e14 : a.tmps.getD 14 undef = v14
  e15 : a.tmps.getD 15 undef = v15

set_option maxRecDepth 100000 in
theorem Fg_range (g : Nat → Value) : (List.range 96).map g = (g 0 :: g 1 :: g 2 :: g 3 :: g 4 :: g 5 :: g 6 :: g 7 :: g 8 :: g 9 :: g 10 :: g 11 :: g 12 :: g 13 :: g 14 :: g 15 :: g 16 :: g 17 :: g 18 :: g 19 :: g 20 :: g 21 :: g 22 :: g 23 :: g 24 :: g 25 :: g 26 :: g 27 :: g 28 :: g 29 :: g 30 :: g 31 :: g 32 :: g 33 :: g 34 :: g 35 :: g 36 :: g 37 :: g 38 :: g 39 :: g 40 :: g 41 :: g 42 :: g 43 :: g 44 :: g 45 :: g 46 :: g 47 :: g 48 :: g 49 :: g 50 :: g 51 :: g 52 :: g 53 :: g 54 :: g 55 :: g 56 :: g 57 :: g 58 :: g 59 :: g 60 :: g 61 :: g 62 :: g 63 :: g 64 :: g 65 :: g 66 :: g 67 :: g 68 :: g 69 :: g 70 :: g 71 :: g 72 :: g 73 :: g 74 :: g 75 :: g 76 :: g 77 :: g 78 :: g 79 :: g 80 :: g 81 :: g 82 :: g 83 :: g 84 :: g 85 :: g 86 :: g 87 :: g 88 :: g 89 :: g 90 :: g 91 :: g 92 :: g 93 :: g 94 :: g 95 :: []) := by
  kernel_rfl

set_option maxRecDepth 100000 in
theorem Fg.lay {v0 v1 v5 v6 v7 v8 v9 v10 v11 v12 v13 v14 v15 : Value} {a : Act} (h : Fg v0 v1 v5 v6 v7 v8 v9 v10 v11 v12 v13 v14 v15 a) : ∃ u : Nat → Value, a = ⟨List.toArray (v0 :: v1 :: u 2 :: u 3 :: u 4 :: v5 :: v6 :: v7 :: v8 :: v9 :: v10 :: v11 :: v12 :: v13 :: v14 :: v15 :: u 16 :: u 17 :: u 18 :: u 19 :: u 20 :: u 21 :: u 22 :: u 23 :: u 24 :: u 25 :: u 26 :: u 27 :: u 28 :: u 29 :: u 30 :: u 31 :: u 32 :: u 33 :: u 34 :: u 35 :: u 36 :: u 37 :: u 38 :: u 39 :: u 40 :: u 41 :: u 42 :: u 43 :: u 44 :: u 45 :: u 46 :: u 47 :: u 48 :: u 49 :: u 50 :: u 51 :: u 52 :: u 53 :: u 54 :: u 55 :: u 56 :: u 57 :: u 58 :: u 59 :: u 60 :: u 61 :: u 62 :: u 63 :: u 64 :: u 65 :: u 66 :: u 67 :: u 68 :: u 69 :: u 70 :: u 71 :: u 72 :: u 73 :: u 74 :: u 75 :: u 76 :: u 77 :: u 78 :: u 79 :: u 80 :: u 81 :: u 82 :: u 83 :: u 84 :: u 85 :: u 86 :: u 87 :: u 88 :: u 89 :: u 90 :: u 91 :: u 92 :: u 93 :: u 94 :: u 95 :: []), []⟩ := by
  obtain ⟨⟨l⟩, df⟩ := a
  obtain ⟨sz, hd, e0, e1, e5, e6, e7, e8, e9, e10, e11, e12, e13, e14, e15⟩ := h
  have hd' : df = [] := hd
  have hl : l = (l.getD 0 undef :: l.getD 1 undef :: l.getD 2 undef :: l.getD 3 undef :: l.getD 4 undef :: l.getD 5 undef :: l.getD 6 undef :: l.getD 7 undef :: l.getD 8 undef :: l.getD 9 undef :: l.getD 10 undef :: l.getD 11 undef :: l.getD 12 undef :: l.getD 13 undef :: l.getD 14 undef :: l.getD 15 undef :: l.getD 16 undef :: l.getD 17 undef :: l.getD 18 undef :: l.getD 19 undef :: l.getD 20 undef :: l.getD 21 undef :: l.getD 22 undef :: l.getD 23 undef :: l.getD 24 undef :: l.getD 25 undef :: l.getD 26 undef :: l.getD 27 undef :: l.getD 28 undef :: l.getD 29 undef :: l.getD 30 undef :: l.getD 31 undef :: l.getD 32 undef :: l.getD 33 undef :: l.getD 34 undef :: l.getD 35 undef :: l.getD 36 undef :: l.getD 37 undef :: l.getD 38 undef :: l.getD 39 undef :: l.getD 40 undef :: l.getD 41 undef :: l.getD 42 undef :: l.getD 43 undef :: l.getD 44 undef :: l.getD 45 undef :: l.getD 46 undef :: l.getD 47 undef :: l.getD 48 undef :: l.getD 49 undef :: l.getD 50 undef :: l.getD 51 undef :: l.getD 52 undef :: l.getD 53 undef :: l.getD 54 undef :: l.getD 55 undef :: l.getD 56 undef :: l.getD 57 undef :: l.getD 58 undef :: l.getD 59 undef :: l.getD 60 undef :: l.getD 61 undef :: l.getD 62 undef :: l.getD 63 undef :: l.getD 64 undef :: l.getD 65 undef :: l.getD 66 undef :: l.getD 67 undef :: l.getD 68 undef :: l.getD 69 undef :: l.getD 70 undef :: l.getD 71 undef :: l.getD 72 undef :: l.getD 73 undef :: l.getD 74 undef :: l.getD 75 undef :: l.getD 76 undef :: l.getD 77 undef :: l.getD 78 undef :: l.getD 79 undef :: l.getD 80 undef :: l.getD 81 undef :: l.getD 82 undef :: l.getD 83 undef :: l.getD 84 undef :: l.getD 85 undef :: l.getD 86 undef :: l.getD 87 undef :: l.getD 88 undef :: l.getD 89 undef :: l.getD 90 undef :: l.getD 91 undef :: l.getD 92 undef :: l.getD 93 undef :: l.getD 94 undef :: l.getD 95 undef :: []) := (list_eta l 96 sz).trans (Fg_range _)
  have e0' : l.getD 0 undef = v0 := by rw [← e0]; simp [List.getD, Array.getD_eq_getD_getElem?]
  have e1' : l.getD 1 undef = v1 := by rw [← e1]; simp [List.getD, Array.getD_eq_getD_getElem?]
  have e5' : l.getD 5 undef = v5 := by rw [← e5]; simp [List.getD, Array.getD_eq_getD_getElem?]
  have e6' : l.getD 6 undef = v6 := by rw [← e6]; simp [List.getD, Array.getD_eq_getD_getElem?]
  have e7' : l.getD 7 undef = v7 := by rw [← e7]; simp [List.getD, Array.getD_eq_getD_getElem?]
  have e8' : l.getD 8 undef = v8 := by rw [← e8]; simp [List.getD, Array.getD_eq_getD_getElem?]
  have e9' : l.getD 9 undef = v9 := by rw [← e9]; simp [List.getD, Array.getD_eq_getD_getElem?]
  have e10' : l.getD 10 undef = v10 := by rw [← e10]; simp [List.getD, Array.getD_eq_getD_getElem?]
  have e11' : l.getD 11 undef = v11 := by rw [← e11]; simp [List.getD, Array.getD_eq_getD_getElem?]
  have e12' : l.getD 12 undef = v12 := by rw [← e12]; simp [List.getD, Array.getD_eq_getD_getElem?]
  have e13' : l.getD 13 undef = v13 := by rw [← e13]; simp [List.getD, Array.getD_eq_getD_getElem?]
  have e14' : l.getD 14 undef = v14 := by rw [← e14]; simp [List.getD, Array.getD_eq_getD_getElem?]
  have e15' : l.getD 15 undef = v15 := by rw [← e15]; simp [List.getD, Array.getD_eq_getD_getElem?]
  refine ⟨fun i => l.getD i undef, ?_⟩
  rw [hd', ← e0', ← e1', ← e5', ← e6', ← e7', ← e8', ← e9', ← e10', ← e11', ← e12', ← e13', ← e14', ← e15']
  exact congrArg (fun x => (⟨⟨x⟩, []⟩ : Act)) hl
noncomputable def pc4 (l : List Nat) : Code := sub l (Yba.f4.body.getD .skip)
theorem str_eq (s t : ByteArray) : (s.toList == t.toList) = decide (s = t) := by
  rw [ByteArray.toList_eq, ByteArray.toList_eq]
  by_cases c : s = t
  · subst c; simp
  · rw [decide_eq_false c]
    rw [beq_eq_false_iff_ne]
    exact fun e => c (ba_ext e)

set_option maxRecDepth 20000 in
set_option maxHeartbeats 4000000 in
theorem g0 (h : Fg v0 v1 v5 v6 v7 v8 v9 v10 v11 v12 v13 v14 v15 a) (hQ : ∀ a', Fg v0 v1 v5 v6 v7 v8 v9 v10 v11 v12 v13 v14 v15 a' → Q .normal a' w) : Code.wp Yba.prog (pc4 [0]) Q a w := by
  obtain ⟨u, rfl⟩ := h.lay
  clear h
  conv => arg 2; whnf
  go_wp2
  exact ⟨rfl, rfl, rfl, rfl, rfl, rfl, rfl, rfl, rfl, rfl, rfl, rfl, rfl, rfl, rfl⟩

set_option maxRecDepth 20000 in
set_option maxHeartbeats 4000000 in
theorem g1 {nA nB : Nat} (h1 : nA ≤ 9223372036854775807) (h2 : nB ≤ 9223372036854775807) (h : Fg (.slice ao nA ca) (.slice bo nB cb) v5 v6 v7 v8 v9 v10 v11 v12 v13 v14 v15 a) (hQ : ∀ a', Fg (.slice ao nA ca) (.slice bo nB cb) v5 v6 v7 v8 v9 v10 v11 v12 v13 v14 v15 a' → a'.tmps.getD 23 undef = .bool (decide (300 < nA ∨ 300 < nB)) → Q .normal a' w) : Code.wp Yba.prog (pc4 [1, 0, 0]) Q a w := by
  obtain ⟨u, rfl⟩ := h.lay
  clear h
  by_cases c1 : 300 < nA
  · rw [decide_eq_true (p := 300 < nA ∨ 300 < nB) (.inl c1)] at hQ
    conv => arg 2; whnf
    go_wp2
    exact hQ _ ⟨rfl, rfl, rfl, rfl, rfl, rfl, rfl, rfl, rfl, rfl, rfl, rfl, rfl, rfl, rfl⟩ rfl
  · by_cases c2 : 300 < nB
    · rw [decide_eq_true (p := 300 < nA ∨ 300 < nB) (.inr c2)] at hQ
      conv => arg 2; whnf
      go_wp2
      exact hQ _ ⟨rfl, rfl, rfl, rfl, rfl, rfl, rfl, rfl, rfl, rfl, rfl, rfl, rfl, rfl, rfl⟩ (by show Value.bool (decide ((300 : Int) < nA) || decide ((300 : Int) < nB)) = _; rw [decide_eq_false (by omega), decide_eq_true (by omega)]; rfl)
    · rw [decide_eq_false (p := 300 < nA ∨ 300 < nB) (by omega)] at hQ
      conv => arg 2; whnf
      go_wp2
      exact hQ _ ⟨rfl, rfl, rfl, rfl, rfl, rfl, rfl, rfl, rfl, rfl, rfl, rfl, rfl, rfl, rfl⟩ (by show Value.bool (decide ((300 : Int) < nA) || decide ((300 : Int) < nB)) = _; rw [decide_eq_false (by omega), decide_eq_false (by omega)]; rfl)

set_option maxRecDepth 20000 in
set_option maxHeartbeats 4000000 in
theorem g2 (h : Fg v0 v1 v5 v6 v7 v8 v9 v10 v11 v12 v13 v14 v15 a) (hQ : ∀ a', a'.defers = [] → a'.tmps.getD 4 undef = .bool true → Q .ret a' w) : Code.wp Yba.prog (pc4 [1, 0, 1, 0]) Q a w := by
  obtain ⟨u, rfl⟩ := h.lay
  clear h
  conv => arg 2; whnf
  go_wp2
  exact hQ _ rfl rfl

set_option maxRecDepth 20000 in
set_option maxHeartbeats 4000000 in
theorem g3 {nA nB : Nat} {RR : Ending → World → Prop} (h : Fg (.slice ao nA ca) (.slice bo nB cb) v5 v6 v7 v8 v9 v10 v11 v12 v13 v14 v15 a) (hc : Calls Yba.prog 7 #[.slice ao nA ca, .slice bo nB cb] w RR) (hQ : ∀ e w', RR e w' → ∃ x y z, e = .returned (.tuple #[x, y, z]) ∧ ∀ a', Fg (.slice ao nA ca) (.slice bo nB cb) x y z v8 v9 v10 v11 v12 v13 v14 v15 a' → Q .normal a' w') : Code.wp Yba.prog (pc4 [1, 1, 0]) Q a w := by
  obtain ⟨u, rfl⟩ := h.lay
  clear h
  conv => arg 2; whnf
  go_wp2_with fail
  refine hc.mono ?_
  intro e w1 hr
  obtain ⟨x, y, z, rfl, hQ1⟩ := hQ e w1 hr
  clear hQ hc hr
  go_wp2
  exact ⟨rfl, rfl, rfl, rfl, rfl, rfl, rfl, rfl, rfl, rfl, rfl, rfl, rfl, rfl, rfl⟩

set_option maxRecDepth 20000 in
set_option maxHeartbeats 4000000 in
theorem g4 {RR : Ending → World → Prop} {x z : Value} (h : Fg v0 v1 x v6 z v8 v9 v10 v11 v12 v13 v14 v15 a) (hc : Calls Yba.prog 8 #[x, z] w RR) (hQ : ∀ e w', RR e w' → ∃ c, e = .returned c ∧ ∀ a', Fg v0 v1 x v6 z c v9 v10 v11 v12 v13 v14 v15 a' → Q .normal a' w') : Code.wp Yba.prog (pc4 [1, 1, 1, 0]) Q a w := by
  obtain ⟨u, rfl⟩ := h.lay
  clear h
  conv => arg 2; whnf
  go_wp2_with fail
  refine hc.mono ?_
  intro e w1 hr
  obtain ⟨c, rfl, hQ1⟩ := hQ e w1 hr
  clear hQ hc hr
  go_wp2
  exact ⟨rfl, rfl, rfl, rfl, rfl, rfl, rfl, rfl, rfl, rfl, rfl, rfl, rfl, rfl, rfl⟩

set_option maxRecDepth 20000 in
set_option maxHeartbeats 4000000 in
theorem g5 {oo : Option Addr} {oc : Nat} (h : Fg v0 v1 v5 (.slice oo n oc) (.slice (some ⟨gl, 0, none⟩) m m) v8 v9 v10 v11 v12 v13 v14 v15 a) (hQ : ∀ a', Fg v0 v1 v5 (.slice oo n oc) (.slice (some ⟨gl, 0, none⟩) m m) v8 (.int .i64 n) (.int .i64 m) v11 v12 v13 v14 v15 a' → Q .normal a' w) : Code.wp Yba.prog (pc4 [1, 1, 1, 1, 0]) Q a w := by
  obtain ⟨u, rfl⟩ := h.lay
  clear h
  conv => arg 2; whnf
  go_wp2
  exact ⟨rfl, rfl, rfl, rfl, rfl, rfl, rfl, rfl, rfl, rfl, rfl, rfl, rfl, rfl, rfl⟩

set_option maxRecDepth 20000 in
set_option maxHeartbeats 4000000 in
theorem g6 (hm : m ≤ 1000) (h : Fg v0 v1 v5 v6 v7 v8 v9 (.int .i64 m) v11 v12 v13 v14 v15 a) (hQ : ∀ w' a', Fg v0 v1 v5 v6 v7 v8 v9 (.int .i64 m) (.slice (some ⟨w.heap.size, 0, none⟩) (m + 1) (m + 1)) v12 v13 v14 v15 a' → w' = w.alloc (.cells (madeCells #[.int .i64 0] (m + 1)) 3) → Q .normal a' w') : Code.wp Yba.prog (pc4 [1, 1, 1, 1, 1, 0]) Q a w := by
  have hmk := fun kl kc w => run_make_row' (P := Yba.prog) 28 3 (.int .i64 0) 8 Yba.underlying28 Yba.info3 rfl kl kc (m + 1) (by omega) (by omega) w
  have em : ((m + 1 : Nat) : Int) = (m : Int) + 1 := by omega
  rw [em] at hmk

  obtain ⟨u, rfl⟩ := h.lay
  clear h
  conv => arg 2; whnf
  go_wp2
  exact hQ _ _ ⟨rfl, rfl, rfl, rfl, rfl, rfl, rfl, rfl, rfl, rfl, rfl, rfl, rfl, rfl, rfl⟩ rfl

set_option maxRecDepth 20000 in
set_option maxHeartbeats 4000000 in
theorem g7 (h : Fg v0 v1 v5 v6 v7 v8 v9 v10 v11 v12 v13 v14 v15 a) (hQ : ∀ a', Fg v0 v1 v5 v6 v7 v8 v9 v10 v11 (.int .i64 ((1 : Nat) : Int)) v13 v14 v15 a' → Q .normal a' w) : Code.wp Yba.prog (pc4 [1, 1, 1, 1, 1, 1, 0, 0]) Q a w := by
  obtain ⟨u, rfl⟩ := h.lay
  clear h
  conv => arg 2; whnf
  go_wp2
  exact ⟨rfl, rfl, rfl, rfl, rfl, rfl, rfl, rfl, rfl, rfl, rfl, rfl, rfl, rfl, rfl⟩

set_option maxRecDepth 20000 in
set_option maxHeartbeats 4000000 in
theorem gh8 {i x : Nat} (h : Fg v0 v1 v5 v6 v7 v8 (.int .i64 x) v10 v11 (.int .i64 i) v13 v14 v15 a) (hE : ¬ i ≤ x → ∀ a', Fg v0 v1 v5 v6 v7 v8 (.int .i64 x) v10 v11 (.int .i64 i) v13 v14 v15 a' → Q (.exit 0) a' w) (hQ : i ≤ x → ∀ a', Fg v0 v1 v5 v6 v7 v8 (.int .i64 x) v10 v11 (.int .i64 i) v13 v14 v15 a' → Q .normal a' w) : Code.wp Yba.prog (pc4 [1, 1, 1, 1, 1, 1, 0, 1, 0, 0, 0]) Q a w := by
  obtain ⟨u, rfl⟩ := h.lay
  clear h
  by_cases c : i ≤ x
  · have hQ := hQ c
    clear hE
    conv => arg 2; whnf
    go_wp2
    exact ⟨rfl, rfl, rfl, rfl, rfl, rfl, rfl, rfl, rfl, rfl, rfl, rfl, rfl, rfl, rfl⟩
  · have hE := hE c
    clear hQ
    conv => arg 2; whnf
    go_wp2
    exact ⟨rfl, rfl, rfl, rfl, rfl, rfl, rfl, rfl, rfl, rfl, rfl, rfl, rfl, rfl, rfl⟩
set_option maxRecDepth 20000 in
set_option maxHeartbeats 4000000 in
theorem gh12 {i x : Nat} (h : Fg v0 v1 v5 v6 v7 v8 v9 (.int .i64 x) v11 v12 v13 (.int .i64 i) v15 a) (hE : ¬ i ≤ x → ∀ a', Fg v0 v1 v5 v6 v7 v8 v9 (.int .i64 x) v11 v12 v13 (.int .i64 i) v15 a' → Q (.exit 2) a' w) (hQ : i ≤ x → ∀ a', Fg v0 v1 v5 v6 v7 v8 v9 (.int .i64 x) v11 v12 v13 (.int .i64 i) v15 a' → Q .normal a' w) : Code.wp Yba.prog (pc4 [1, 1, 1, 1, 1, 1, 0, 1, 0, 0, 1, 0, 0, 1, 1, 0, 0, 0]) Q a w := by
  obtain ⟨u, rfl⟩ := h.lay
  clear h
  by_cases c : i ≤ x
  · have hQ := hQ c
    clear hE
    conv => arg 2; whnf
    go_wp2
    exact ⟨rfl, rfl, rfl, rfl, rfl, rfl, rfl, rfl, rfl, rfl, rfl, rfl, rfl, rfl, rfl⟩
  · have hE := hE c
    clear hQ
    conv => arg 2; whnf
    go_wp2
    exact ⟨rfl, rfl, rfl, rfl, rfl, rfl, rfl, rfl, rfl, rfl, rfl, rfl, rfl, rfl, rfl⟩
set_option maxRecDepth 20000 in
set_option maxHeartbeats 4000000 in
theorem gi9 {i : Nat} (h : Fg v0 v1 v5 v6 v7 v8 v9 v10 v11 (.int .i64 i) v13 v14 v15 a) (hi : i ≤ 1000) (hQ : ∀ a', Fg v0 v1 v5 v6 v7 v8 v9 v10 v11 (.int .i64 ((i + 1 : Nat) : Int)) v13 v14 v15 a' → Q .normal a' w) : Code.wp Yba.prog (pc4 [1, 1, 1, 1, 1, 1, 0, 1, 0, 0, 1, 1]) Q a w := by
  have e : ((i + 1 : Nat) : Int) = (i : Int) + 1 := by omega
  rw [e] at hQ
  clear e
  obtain ⟨u, rfl⟩ := h.lay
  clear h
  conv => arg 2; whnf
  go_wp2
  exact ⟨rfl, rfl, rfl, rfl, rfl, rfl, rfl, rfl, rfl, rfl, rfl, rfl, rfl, rfl, rfl⟩

set_option maxRecDepth 20000 in
set_option maxHeartbeats 4000000 in
theorem gi13 {i : Nat} (h : Fg v0 v1 v5 v6 v7 v8 v9 v10 v11 v12 v13 (.int .i64 i) v15 a) (hi : i ≤ 1000) (hQ : ∀ a', Fg v0 v1 v5 v6 v7 v8 v9 v10 v11 v12 v13 (.int .i64 ((i + 1 : Nat) : Int)) v15 a' → Q .normal a' w) : Code.wp Yba.prog (pc4 [1, 1, 1, 1, 1, 1, 0, 1, 0, 0, 1, 0, 0, 1, 1, 0, 0, 1, 1]) Q a w := by
  have e : ((i + 1 : Nat) : Int) = (i : Int) + 1 := by omega
  rw [e] at hQ
  clear e
  obtain ⟨u, rfl⟩ := h.lay
  clear h
  conv => arg 2; whnf
  go_wp2
  exact ⟨rfl, rfl, rfl, rfl, rfl, rfl, rfl, rfl, rfl, rfl, rfl, rfl, rfl, rfl, rfl⟩

set_option maxRecDepth 20000 in
set_option maxHeartbeats 4000000 in
theorem g10 (h : Fg v0 v1 v5 v6 v7 v8 v9 v10 v11 v12 v13 v14 v15 a) (hQ : ∀ a', Fg v0 v1 v5 v6 v7 v8 v9 v10 v11 v12 (.int .i64 ((0 : Nat) : Int)) v14 v15 a' → Q .normal a' w) : Code.wp Yba.prog (pc4 [1, 1, 1, 1, 1, 1, 0, 1, 0, 0, 1, 0, 0, 0]) Q a w := by
  obtain ⟨u, rfl⟩ := h.lay
  clear h
  conv => arg 2; whnf
  go_wp2
  exact ⟨rfl, rfl, rfl, rfl, rfl, rfl, rfl, rfl, rfl, rfl, rfl, rfl, rfl, rfl, rfl⟩

set_option maxRecDepth 20000 in
set_option maxHeartbeats 4000000 in
theorem g11 (h : Fg v0 v1 v5 v6 v7 v8 v9 v10 v11 v12 v13 v14 v15 a) (hQ : ∀ a', Fg v0 v1 v5 v6 v7 v8 v9 v10 v11 v12 v13 (.int .i64 ((1 : Nat) : Int)) v15 a' → Q .normal a' w) : Code.wp Yba.prog (pc4 [1, 1, 1, 1, 1, 1, 0, 1, 0, 0, 1, 0, 0, 1, 0]) Q a w := by
  obtain ⟨u, rfl⟩ := h.lay
  clear h
  conv => arg 2; whnf
  go_wp2
  exact ⟨rfl, rfl, rfl, rfl, rfl, rfl, rfl, rfl, rfl, rfl, rfl, rfl, rfl, rfl, rfl⟩

set_option maxRecDepth 20000 in
set_option maxHeartbeats 4000000 in
theorem g14 {j t : Nat} (hj : j < m + 1) (hm : m ≤ 1000) (c1 : w.cell? ⟨gr, j, none⟩ = some (.int .i64 (t : Int))) (h : Fg v0 v1 v5 v6 v7 v8 v9 v10 (.slice (some ⟨gr, 0, none⟩) (m + 1) (m + 1)) v12 v13 (.int .i64 j) v15 a) (hQ : ∀ a', Fg v0 v1 v5 v6 v7 v8 v9 v10 (.slice (some ⟨gr, 0, none⟩) (m + 1) (m + 1)) v12 v13 (.int .i64 j) (.int .i64 t) a' → Q .normal a' w) : Code.wp Yba.prog (pc4 [1, 1, 1, 1, 1, 1, 0, 1, 0, 0, 1, 0, 0, 1, 1, 0, 0, 1, 0, 0, 0]) Q a w := by
  obtain ⟨u, rfl⟩ := h.lay
  clear h
  conv => arg 2; whnf
  go_wp2
  exact ⟨rfl, rfl, rfl, rfl, rfl, rfl, rfl, rfl, rfl, rfl, rfl, rfl, rfl, rfl, rfl⟩

set_option maxRecDepth 20000 in
set_option maxHeartbeats 4000000 in
theorem g15 {i j i' j' oc : Nat} {s t : ByteArray} (hi : (i : Int) - 1 = i') (hj : (j : Int) - 1 = j') (hi2 : i' < n) (hj2 : j' < m) (hn : n ≤ 1000) (hm : m ≤ 1000) (c1 : w.cell? ⟨go, i', none⟩ = some (.string s)) (c2 : w.cell? ⟨gl, j', none⟩ = some (.string t)) (h : Fg v0 v1 v5 (.slice (some ⟨go, 0, none⟩) n oc) (.slice (some ⟨gl, 0, none⟩) m m) v8 v9 v10 v11 (.int .i64 i) v13 (.int .i64 j) v15 a) (hQ : ∀ k a', Fg v0 v1 v5 (.slice (some ⟨go, 0, none⟩) n oc) (.slice (some ⟨gl, 0, none⟩) m m) v8 v9 v10 v11 (.int .i64 i) v13 (.int .i64 j) v15 a' → a'.tmps.getD 65 undef = .bool (decide (s = t)) → Q .normal a' (w.drewN k)) : Code.wp Yba.prog (pc4 [1, 1, 1, 1, 1, 1, 0, 1, 0, 0, 1, 0, 0, 1, 1, 0, 0, 1, 0, 0, 1, 0, 0]) Q a w := by
  obtain ⟨u, rfl⟩ := h.lay
  clear h
  conv => arg 2; whnf
  go_quiet (fail)
  go_wp2
  refine hQ _ _ ⟨rfl, rfl, rfl, rfl, rfl, rfl, rfl, rfl, rfl, rfl, rfl, rfl, rfl, rfl, rfl⟩ ?_
  rw [← str_eq]
  rfl

set_option maxRecDepth 20000 in
set_option maxHeartbeats 4000000 in
theorem g16 {j d : Nat} {u0 : Value} (hj : j < m + 1) (hm : m ≤ 1000) (hd : d ≤ 1000) (c1 : w.cell? ⟨gr, j, none⟩ = some u0) (f1 : w.frozen? ⟨gr, j, none⟩ = false) (h : Fg v0 v1 v5 v6 v7 v8 v9 v10 (.slice (some ⟨gr, 0, none⟩) (m + 1) (m + 1)) v12 (.int .i64 d) (.int .i64 j) v15 a) (hQ : ∀ a', Fg v0 v1 v5 v6 v7 v8 v9 v10 (.slice (some ⟨gr, 0, none⟩) (m + 1) (m + 1)) v12 (.int .i64 d) (.int .i64 j) v15 a' → Q .normal a' (w.setCell ⟨gr, j, none⟩ (.int .i64 ((d + 1 : Nat) : Int)))) : Code.wp Yba.prog (pc4 [1, 1, 1, 1, 1, 1, 0, 1, 0, 0, 1, 0, 0, 1, 1, 0, 0, 1, 0, 0, 1, 0, 1, 0]) Q a w := by
  have e : ((d + 1 : Nat) : Int) = (d : Int) + 1 := by omega
  rw [e] at hQ
  clear e
  obtain ⟨u, rfl⟩ := h.lay
  clear h
  conv => arg 2; whnf
  go_wp2
  exact ⟨rfl, rfl, rfl, rfl, rfl, rfl, rfl, rfl, rfl, rfl, rfl, rfl, rfl, rfl, rfl⟩

set_option maxRecDepth 20000 in
set_option maxHeartbeats 4000000 in
theorem g17 {j j' x y : Nat} (hj : (j : Int) - 1 = j') (hj1 : j < m + 1) (hm : m ≤ 1000) (c1 : w.cell? ⟨gr, j', none⟩ = some (.int .i64 (x : Int))) (c2 : w.cell? ⟨gr, j, none⟩ = some (.int .i64 (y : Int))) (h : Fg v0 v1 v5 v6 v7 v8 v9 v10 (.slice (some ⟨gr, 0, none⟩) (m + 1) (m + 1)) v12 v13 (.int .i64 j) v15 a) (hQ : ∀ k a', Fg v0 v1 v5 v6 v7 v8 v9 v10 (.slice (some ⟨gr, 0, none⟩) (m + 1) (m + 1)) v12 v13 (.int .i64 j) v15 a' → a'.tmps.getD 80 undef = .bool (decide (y < x)) → Q .normal a' (w.drewN k)) : Code.wp Yba.prog (pc4 [1, 1, 1, 1, 1, 1, 0, 1, 0, 0, 1, 0, 0, 1, 1, 0, 0, 1, 0, 0, 1, 0, 1, 1, 0]) Q a w := by
  have hj2 : j' < m + 1 := by omega
  obtain ⟨u, rfl⟩ := h.lay
  clear h
  by_cases c : y < x
  · rw [decide_eq_true c] at hQ
    have d1 : decide ((y : Int) < x) = true := decide_eq_true (by omega)
    conv => arg 2; whnf
    go_quiet (fail)
    go_wp2
    exact hQ _ _ ⟨rfl, rfl, rfl, rfl, rfl, rfl, rfl, rfl, rfl, rfl, rfl, rfl, rfl, rfl, rfl⟩ (by first | rfl | (show Value.bool (decide ((y : Int) < x)) = _; rw [d1]))
  · rw [decide_eq_false c] at hQ
    have d1 : decide ((y : Int) < x) = false := decide_eq_false (by omega)
    conv => arg 2; whnf
    go_quiet (fail)
    go_wp2
    exact hQ _ _ ⟨rfl, rfl, rfl, rfl, rfl, rfl, rfl, rfl, rfl, rfl, rfl, rfl, rfl, rfl, rfl⟩ (by first | rfl | (show Value.bool (decide ((y : Int) < x)) = _; rw [d1]))

set_option maxRecDepth 20000 in
set_option maxHeartbeats 4000000 in
theorem g18 {j j' x : Nat} {u0 : Value} (hj : (j : Int) - 1 = j') (hj1 : j < m + 1) (hm : m ≤ 1000) (c1 : w.cell? ⟨gr, j', none⟩ = some (.int .i64 (x : Int))) (c2 : w.cell? ⟨gr, j, none⟩ = some u0) (f2 : w.frozen? ⟨gr, j, none⟩ = false) (h : Fg v0 v1 v5 v6 v7 v8 v9 v10 (.slice (some ⟨gr, 0, none⟩) (m + 1) (m + 1)) v12 v13 (.int .i64 j) v15 a) (hQ : ∀ a', Fg v0 v1 v5 v6 v7 v8 v9 v10 (.slice (some ⟨gr, 0, none⟩) (m + 1) (m + 1)) v12 v13 (.int .i64 j) v15 a' → Q .normal a' (w.setCell ⟨gr, j, none⟩ (.int .i64 (x : Int)))) : Code.wp Yba.prog (pc4 [1, 1, 1, 1, 1, 1, 0, 1, 0, 0, 1, 0, 0, 1, 1, 0, 0, 1, 0, 0, 1, 0, 1, 1, 1, 0]) Q a w := by
  have hj2 : j' < m + 1 := by omega
  obtain ⟨u, rfl⟩ := h.lay
  clear h
  conv => arg 2; whnf
  go_wp2
  exact ⟨rfl, rfl, rfl, rfl, rfl, rfl, rfl, rfl, rfl, rfl, rfl, rfl, rfl, rfl, rfl⟩

set_option maxRecDepth 20000 in
set_option maxHeartbeats 4000000 in
theorem g19 {t : Nat} (h : Fg v0 v1 v5 v6 v7 v8 v9 v10 v11 v12 v13 v14 (.int .i64 t) a) (hQ : ∀ a', Fg v0 v1 v5 v6 v7 v8 v9 v10 v11 v12 (.int .i64 t) v14 (.int .i64 t) a' → Q .normal a' w) : Code.wp Yba.prog (pc4 [1, 1, 1, 1, 1, 1, 0, 1, 0, 0, 1, 0, 0, 1, 1, 0, 0, 1, 0, 0, 1, 1]) Q a w := by
  obtain ⟨u, rfl⟩ := h.lay
  clear h
  conv => arg 2; whnf
  go_wp2
  exact ⟨rfl, rfl, rfl, rfl, rfl, rfl, rfl, rfl, rfl, rfl, rfl, rfl, rfl, rfl, rfl⟩

set_option maxRecDepth 20000 in
set_option maxHeartbeats 4000000 in
theorem g20 {c : Nat} (hm : m ≤ 1000) (c1 : w.cell? ⟨gr, m, none⟩ = some (.int .i64 (c : Int))) (h : Fg v0 v1 v5 v6 v7 (.int .i64 c) v9 (.int .i64 m) (.slice (some ⟨gr, 0, none⟩) (m + 1) (m + 1)) v12 v13 v14 v15 a) (hQ : ∀ a', a'.defers = [] → a'.tmps.getD 4 undef = .bool true → Q .ret a' w) : Code.wp Yba.prog (pc4 [1, 1, 1, 1, 1, 1, 1]) Q a w := by
  obtain ⟨u, rfl⟩ := h.lay
  clear h
  conv => arg 2; whnf
  go_wp2
  exact hQ _ rfl (by simp)

end Go.Proofs.Ybulkacye
