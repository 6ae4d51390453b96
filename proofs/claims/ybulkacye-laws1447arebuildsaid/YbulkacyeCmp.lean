import Derived.Test.YbulkacyeFr
import Derived.Test.YbulkacyeSe
import Derived.BigQuiet
namespace Go.Proofs.Ybulkacye
open Go.RowKit Go.Proofs.Ybulkacye.Lcs
set_option linter.unusedVariables false
set_option linter.unusedSectionVars false
variable {S ga gb GF GR o N ca cb base : Nat} {ao bo : Option Addr} {xa xb : List Int} {fs : Value} {f r : Int → Int} {w : World} {v1 v2 v3 v4 v10 v11 v12 v13 v14 v15 : Value} {a : Act} {Q : Exit → Act → World → Prop} {M : List (Nat × Nat)}

/-- The frame of function 21 by its variables. -/
structure Fc (v0 v1 v2 v3 v4 v10 v11 v12 v13 v14 v15 : Value) (a : Act) : Prop where
  sz : a.tmps.size = 177
  df : a.defers = []
  e0 : a.tmps.getD 0 undef = v0
  e1 : a.tmps.getD 1 undef = v1
  e2 : a.tmps.getD 2 undef = v2
  e3 : a.tmps.getD 3 undef = v3
  e4 : a.tmps.getD 4 undef = v4
  e10 : a.tmps.getD 10 undef = v10
  e11 : a.tmps.getD 11 undef = v11
  e12 : a.tmps.getD 12 undef = v12
  e13 : a.tmps.getD 13 undef = v13
  e14 : a.tmps.getD 14 undef = v14
  e15 : a.tmps.getD 15 undef = v15

set_option maxRecDepth 100000 in
theorem Fc_range (g : Nat → Value) : (List.range 177).map g = (g 0 :: g 1 :: g 2 :: g 3 :: g 4 :: g 5 :: g 6 :: g 7 :: g 8 :: g 9 :: g 10 :: g 11 :: g 12 :: g 13 :: g 14 :: g 15 :: g 16 :: g 17 :: g 18 :: g 19 :: g 20 :: g 21 :: g 22 :: g 23 :: g 24 :: g 25 :: g 26 :: g 27 :: g 28 :: g 29 :: g 30 :: g 31 :: g 32 :: g 33 :: g 34 :: g 35 :: g 36 :: g 37 :: g 38 :: g 39 :: g 40 :: g 41 :: g 42 :: g 43 :: g 44 :: g 45 :: g 46 :: g 47 :: g 48 :: g 49 :: g 50 :: g 51 :: g 52 :: g 53 :: g 54 :: g 55 :: g 56 :: g 57 :: g 58 :: g 59 :: g 60 :: g 61 :: g 62 :: g 63 :: g 64 :: g 65 :: g 66 :: g 67 :: g 68 :: g 69 :: g 70 :: g 71 :: g 72 :: g 73 :: g 74 :: g 75 :: g 76 :: g 77 :: g 78 :: g 79 :: g 80 :: g 81 :: g 82 :: g 83 :: g 84 :: g 85 :: g 86 :: g 87 :: g 88 :: g 89 :: g 90 :: g 91 :: g 92 :: g 93 :: g 94 :: g 95 :: g 96 :: g 97 :: g 98 :: g 99 :: g 100 :: g 101 :: g 102 :: g 103 :: g 104 :: g 105 :: g 106 :: g 107 :: g 108 :: g 109 :: g 110 :: g 111 :: g 112 :: g 113 :: g 114 :: g 115 :: g 116 :: g 117 :: g 118 :: g 119 :: g 120 :: g 121 :: g 122 :: g 123 :: g 124 :: g 125 :: g 126 :: g 127 :: g 128 :: g 129 :: g 130 :: g 131 :: g 132 :: g 133 :: g 134 :: g 135 :: g 136 :: g 137 :: g 138 :: g 139 :: g 140 :: g 141 :: g 142 :: g 143 :: g 144 :: g 145 :: g 146 :: g 147 :: g 148 :: g 149 :: g 150 :: g 151 :: g 152 :: g 153 :: g 154 :: g 155 :: g 156 :: g 157 :: g 158 :: g 159 :: g 160 :: g 161 :: g 162 :: g 163 :: g 164 :: g 165 :: g 166 :: g 167 :: g 168 :: g 169 :: g 170 :: g 171 :: g 172 :: g 173 :: g 174 :: g 175 :: g 176 :: []) := by
  kernel_rfl

set_option maxRecDepth 100000 in
theorem Fc.lay {v0 v1 v2 v3 v4 v10 v11 v12 v13 v14 v15 : Value} {a : Act} (h : Fc v0 v1 v2 v3 v4 v10 v11 v12 v13 v14 v15 a) : ∃ u : Nat → Value, a = ⟨List.toArray (v0 :: v1 :: v2 :: v3 :: v4 :: u 5 :: u 6 :: u 7 :: u 8 :: u 9 :: v10 :: v11 :: v12 :: v13 :: v14 :: v15 :: u 16 :: u 17 :: u 18 :: u 19 :: u 20 :: u 21 :: u 22 :: u 23 :: u 24 :: u 25 :: u 26 :: u 27 :: u 28 :: u 29 :: u 30 :: u 31 :: u 32 :: u 33 :: u 34 :: u 35 :: u 36 :: u 37 :: u 38 :: u 39 :: u 40 :: u 41 :: u 42 :: u 43 :: u 44 :: u 45 :: u 46 :: u 47 :: u 48 :: u 49 :: u 50 :: u 51 :: u 52 :: u 53 :: u 54 :: u 55 :: u 56 :: u 57 :: u 58 :: u 59 :: u 60 :: u 61 :: u 62 :: u 63 :: u 64 :: u 65 :: u 66 :: u 67 :: u 68 :: u 69 :: u 70 :: u 71 :: u 72 :: u 73 :: u 74 :: u 75 :: u 76 :: u 77 :: u 78 :: u 79 :: u 80 :: u 81 :: u 82 :: u 83 :: u 84 :: u 85 :: u 86 :: u 87 :: u 88 :: u 89 :: u 90 :: u 91 :: u 92 :: u 93 :: u 94 :: u 95 :: u 96 :: u 97 :: u 98 :: u 99 :: u 100 :: u 101 :: u 102 :: u 103 :: u 104 :: u 105 :: u 106 :: u 107 :: u 108 :: u 109 :: u 110 :: u 111 :: u 112 :: u 113 :: u 114 :: u 115 :: u 116 :: u 117 :: u 118 :: u 119 :: u 120 :: u 121 :: u 122 :: u 123 :: u 124 :: u 125 :: u 126 :: u 127 :: u 128 :: u 129 :: u 130 :: u 131 :: u 132 :: u 133 :: u 134 :: u 135 :: u 136 :: u 137 :: u 138 :: u 139 :: u 140 :: u 141 :: u 142 :: u 143 :: u 144 :: u 145 :: u 146 :: u 147 :: u 148 :: u 149 :: u 150 :: u 151 :: u 152 :: u 153 :: u 154 :: u 155 :: u 156 :: u 157 :: u 158 :: u 159 :: u 160 :: u 161 :: u 162 :: u 163 :: u 164 :: u 165 :: u 166 :: u 167 :: u 168 :: u 169 :: u 170 :: u 171 :: u 172 :: u 173 :: u 174 :: u 175 :: u 176 :: []), []⟩ := by
  obtain ⟨⟨l⟩, df⟩ := a
  obtain ⟨sz, hd, e0, e1, e2, e3, e4, e10, e11, e12, e13, e14, e15⟩ := h
  have hd' : df = [] := hd
  have hl : l = (l.getD 0 undef :: l.getD 1 undef :: l.getD 2 undef :: l.getD 3 undef :: l.getD 4 undef :: l.getD 5 undef :: l.getD 6 undef :: l.getD 7 undef :: l.getD 8 undef :: l.getD 9 undef :: l.getD 10 undef :: l.getD 11 undef :: l.getD 12 undef :: l.getD 13 undef :: l.getD 14 undef :: l.getD 15 undef :: l.getD 16 undef :: l.getD 17 undef :: l.getD 18 undef :: l.getD 19 undef :: l.getD 20 undef :: l.getD 21 undef :: l.getD 22 undef :: l.getD 23 undef :: l.getD 24 undef :: l.getD 25 undef :: l.getD 26 undef :: l.getD 27 undef :: l.getD 28 undef :: l.getD 29 undef :: l.getD 30 undef :: l.getD 31 undef :: l.getD 32 undef :: l.getD 33 undef :: l.getD 34 undef :: l.getD 35 undef :: l.getD 36 undef :: l.getD 37 undef :: l.getD 38 undef :: l.getD 39 undef :: l.getD 40 undef :: l.getD 41 undef :: l.getD 42 undef :: l.getD 43 undef :: l.getD 44 undef :: l.getD 45 undef :: l.getD 46 undef :: l.getD 47 undef :: l.getD 48 undef :: l.getD 49 undef :: l.getD 50 undef :: l.getD 51 undef :: l.getD 52 undef :: l.getD 53 undef :: l.getD 54 undef :: l.getD 55 undef :: l.getD 56 undef :: l.getD 57 undef :: l.getD 58 undef :: l.getD 59 undef :: l.getD 60 undef :: l.getD 61 undef :: l.getD 62 undef :: l.getD 63 undef :: l.getD 64 undef :: l.getD 65 undef :: l.getD 66 undef :: l.getD 67 undef :: l.getD 68 undef :: l.getD 69 undef :: l.getD 70 undef :: l.getD 71 undef :: l.getD 72 undef :: l.getD 73 undef :: l.getD 74 undef :: l.getD 75 undef :: l.getD 76 undef :: l.getD 77 undef :: l.getD 78 undef :: l.getD 79 undef :: l.getD 80 undef :: l.getD 81 undef :: l.getD 82 undef :: l.getD 83 undef :: l.getD 84 undef :: l.getD 85 undef :: l.getD 86 undef :: l.getD 87 undef :: l.getD 88 undef :: l.getD 89 undef :: l.getD 90 undef :: l.getD 91 undef :: l.getD 92 undef :: l.getD 93 undef :: l.getD 94 undef :: l.getD 95 undef :: l.getD 96 undef :: l.getD 97 undef :: l.getD 98 undef :: l.getD 99 undef :: l.getD 100 undef :: l.getD 101 undef :: l.getD 102 undef :: l.getD 103 undef :: l.getD 104 undef :: l.getD 105 undef :: l.getD 106 undef :: l.getD 107 undef :: l.getD 108 undef :: l.getD 109 undef :: l.getD 110 undef :: l.getD 111 undef :: l.getD 112 undef :: l.getD 113 undef :: l.getD 114 undef :: l.getD 115 undef :: l.getD 116 undef :: l.getD 117 undef :: l.getD 118 undef :: l.getD 119 undef :: l.getD 120 undef :: l.getD 121 undef :: l.getD 122 undef :: l.getD 123 undef :: l.getD 124 undef :: l.getD 125 undef :: l.getD 126 undef :: l.getD 127 undef :: l.getD 128 undef :: l.getD 129 undef :: l.getD 130 undef :: l.getD 131 undef :: l.getD 132 undef :: l.getD 133 undef :: l.getD 134 undef :: l.getD 135 undef :: l.getD 136 undef :: l.getD 137 undef :: l.getD 138 undef :: l.getD 139 undef :: l.getD 140 undef :: l.getD 141 undef :: l.getD 142 undef :: l.getD 143 undef :: l.getD 144 undef :: l.getD 145 undef :: l.getD 146 undef :: l.getD 147 undef :: l.getD 148 undef :: l.getD 149 undef :: l.getD 150 undef :: l.getD 151 undef :: l.getD 152 undef :: l.getD 153 undef :: l.getD 154 undef :: l.getD 155 undef :: l.getD 156 undef :: l.getD 157 undef :: l.getD 158 undef :: l.getD 159 undef :: l.getD 160 undef :: l.getD 161 undef :: l.getD 162 undef :: l.getD 163 undef :: l.getD 164 undef :: l.getD 165 undef :: l.getD 166 undef :: l.getD 167 undef :: l.getD 168 undef :: l.getD 169 undef :: l.getD 170 undef :: l.getD 171 undef :: l.getD 172 undef :: l.getD 173 undef :: l.getD 174 undef :: l.getD 175 undef :: l.getD 176 undef :: []) := (list_eta l 177 sz).trans (Fc_range _)
  have e0' : l.getD 0 undef = v0 := by rw [← e0]; simp [List.getD, Array.getD_eq_getD_getElem?]
  have e1' : l.getD 1 undef = v1 := by rw [← e1]; simp [List.getD, Array.getD_eq_getD_getElem?]
  have e2' : l.getD 2 undef = v2 := by rw [← e2]; simp [List.getD, Array.getD_eq_getD_getElem?]
  have e3' : l.getD 3 undef = v3 := by rw [← e3]; simp [List.getD, Array.getD_eq_getD_getElem?]
  have e4' : l.getD 4 undef = v4 := by rw [← e4]; simp [List.getD, Array.getD_eq_getD_getElem?]
  have e10' : l.getD 10 undef = v10 := by rw [← e10]; simp [List.getD, Array.getD_eq_getD_getElem?]
  have e11' : l.getD 11 undef = v11 := by rw [← e11]; simp [List.getD, Array.getD_eq_getD_getElem?]
  have e12' : l.getD 12 undef = v12 := by rw [← e12]; simp [List.getD, Array.getD_eq_getD_getElem?]
  have e13' : l.getD 13 undef = v13 := by rw [← e13]; simp [List.getD, Array.getD_eq_getD_getElem?]
  have e14' : l.getD 14 undef = v14 := by rw [← e14]; simp [List.getD, Array.getD_eq_getD_getElem?]
  have e15' : l.getD 15 undef = v15 := by rw [← e15]; simp [List.getD, Array.getD_eq_getD_getElem?]
  refine ⟨fun i => l.getD i undef, ?_⟩
  rw [hd', ← e0', ← e1', ← e2', ← e3', ← e4', ← e10', ← e11', ← e12', ← e13', ← e14', ← e15']
  exact congrArg (fun x => (⟨⟨x⟩, []⟩ : Act)) hl
noncomputable def pc21 (l : List Nat) : Code := sub l (Yba.f21.body.getD .skip)
set_option maxRecDepth 20000 in
set_option maxHeartbeats 4000000 in
theorem cr2 {i j : Nat} (h : Fc (.pointer (some ⟨S, 0, none⟩)) (.int .i64 i) v2 (.int .i64 j) v4 v10 v11 v12 v13 v14 v15 a) (h1 : i ≤ 1000) (h2 : j ≤ 1000) (hQ : ∀ a', Fc (.pointer (some ⟨S, 0, none⟩)) (.int .i64 ((i + 1 : Nat) : Int)) v2 (.int .i64 ((j + 1 : Nat) : Int)) v4 v10 v11 v12 v13 v14 v15 a' → Q .normal a' w) : Code.wp Yba.prog (pc21 [0, 0, 0, 1, 0, 1]) Q a w := by
  obtain ⟨u, rfl⟩ := h.lay
  clear h
  have e1 : ((i + 1 : Nat) : Int) = (i : Int) + 1 := by omega
  have e2 : ((j + 1 : Nat) : Int) = (j : Int) + 1 := by omega
  rw [e1, e2] at hQ
  clear e1 e2
  conv => arg 2; whnf
  go_wp2
  exact ⟨rfl, rfl, rfl, rfl, rfl, rfl, rfl, rfl, rfl, rfl, rfl, rfl, rfl⟩
set_option maxRecDepth 20000 in
set_option maxHeartbeats 4000000 in
theorem cr3  (h : Fc (.pointer (some ⟨S, 0, none⟩)) v1 v2 v3 v4 v10 v11 v12 v13 v14 v15 a)  (hQ : ∀ a', Fc (.pointer (some ⟨S, 0, none⟩)) v1 v2 v3 v4 (.int .i64 ((0 : Nat) : Int)) v11 v12 v13 v14 v15 a' → Q .normal a' w) : Code.wp Yba.prog (pc21 [1, 0]) Q a w := by
  obtain ⟨u, rfl⟩ := h.lay
  clear h
  conv => arg 2; whnf
  go_wp2
  exact ⟨rfl, rfl, rfl, rfl, rfl, rfl, rfl, rfl, rfl, rfl, rfl, rfl, rfl⟩
set_option maxRecDepth 20000 in
set_option maxHeartbeats 4000000 in
theorem cr5 {s : Nat} (h : Fc (.pointer (some ⟨S, 0, none⟩)) v1 v2 v3 v4 (.int .i64 s) v11 v12 v13 v14 v15 a) (h1 : s ≤ 1000) (hQ : ∀ a', Fc (.pointer (some ⟨S, 0, none⟩)) v1 v2 v3 v4 (.int .i64 ((s + 1 : Nat) : Int)) v11 v12 v13 v14 v15 a' → Q .normal a' w) : Code.wp Yba.prog (pc21 [1, 1, 0, 0, 0, 1, 0]) Q a w := by
  obtain ⟨u, rfl⟩ := h.lay
  clear h
  have e1 : ((s + 1 : Nat) : Int) = (s : Int) + 1 := by omega
  rw [e1] at hQ
  clear e1
  conv => arg 2; whnf
  go_wp2
  exact ⟨rfl, rfl, rfl, rfl, rfl, rfl, rfl, rfl, rfl, rfl, rfl, rfl, rfl⟩
set_option maxRecDepth 20000 in
set_option maxHeartbeats 4000000 in
theorem cr10 {i j : Nat} (h : Fc (.pointer (some ⟨S, 0, none⟩)) v1 v2 v3 v4 v10 (.int .i64 i) (.int .i64 j) v13 v14 v15 a) (h1 : i ≤ 1000) (h2 : j ≤ 1000) (hQ : ∀ a', Fc (.pointer (some ⟨S, 0, none⟩)) v1 v2 v3 v4 v10 (.int .i64 ((i + 1 : Nat) : Int)) (.int .i64 ((j + 1 : Nat) : Int)) v13 v14 v15 a' → Q .normal a' w) : Code.wp Yba.prog (pc21 [1, 1, 1, 0, 1, 0, 1, 1, 0, 0, 0, 1, 1]) Q a w := by
  obtain ⟨u, rfl⟩ := h.lay
  clear h
  have e1 : ((i + 1 : Nat) : Int) = (i : Int) + 1 := by omega
  have e2 : ((j + 1 : Nat) : Int) = (j : Int) + 1 := by omega
  rw [e1, e2] at hQ
  clear e1 e2
  conv => arg 2; whnf
  go_wp2
  exact ⟨rfl, rfl, rfl, rfl, rfl, rfl, rfl, rfl, rfl, rfl, rfl, rfl, rfl⟩
set_option maxRecDepth 20000 in
set_option maxHeartbeats 4000000 in
theorem cr13 {s : Nat} (h : Fc (.pointer (some ⟨S, 0, none⟩)) v1 v2 v3 v4 (.int .i64 s) v11 v12 v13 v14 v15 a)  (hQ : ∀ a', Fc (.pointer (some ⟨S, 0, none⟩)) v1 v2 v3 v4 (.int .i64 s) v11 v12 v13 v14 (.int .i64 s) a' → Q .normal a' w) : Code.wp Yba.prog (pc21 [1, 1, 1, 1, 0]) Q a w := by
  obtain ⟨u, rfl⟩ := h.lay
  clear h
  conv => arg 2; whnf
  go_wp2
  exact ⟨rfl, rfl, rfl, rfl, rfl, rfl, rfl, rfl, rfl, rfl, rfl, rfl, rfl⟩
set_option maxRecDepth 20000 in
set_option maxHeartbeats 4000000 in
theorem cr15 {s : Nat} (h : Fc (.pointer (some ⟨S, 0, none⟩)) v1 v2 v3 v4 v10 v11 v12 v13 v14 (.int .i64 ((s + 1 : Nat) : Int)) a) (h1 : s ≤ 1000) (hQ : ∀ a', Fc (.pointer (some ⟨S, 0, none⟩)) v1 v2 v3 v4 v10 v11 v12 v13 v14 (.int .i64 s) a' → Q .normal a' w) : Code.wp Yba.prog (pc21 [1, 1, 1, 1, 1, 0, 0, 1, 1]) Q a w := by
  obtain ⟨u, rfl⟩ := h.lay
  clear h
  have e1 : ((s + 1 : Nat) : Int) = (s : Int) + 1 := by omega
  have e2 : (s : Int) + 1 - 1 = s := by omega
  rw [e1]
  clear e1
  conv => arg 2; whnf
  go_wp2
  exact ⟨rfl, rfl, rfl, rfl, rfl, rfl, rfl, rfl, rfl, rfl, rfl, rfl, rfl⟩
set_option maxRecDepth 20000 in
set_option maxHeartbeats 4000000 in
theorem ch9 {i x : Nat} (h : Fc (.pointer (some ⟨S, 0, none⟩)) v1 v2 v3 v4 v10 (.int .i64 i) v12 (.int .i64 x) v14 v15 a) (hE : ¬ i < x → ∀ a', Fc (.pointer (some ⟨S, 0, none⟩)) v1 v2 v3 v4 v10 (.int .i64 i) v12 (.int .i64 x) v14 v15 a' → Q (.exit 4) a' w) (hQ : i < x → ∀ a', Fc (.pointer (some ⟨S, 0, none⟩)) v1 v2 v3 v4 v10 (.int .i64 i) v12 (.int .i64 x) v14 v15 a' → Q .normal a' w) : Code.wp Yba.prog (pc21 [1, 1, 1, 0, 1, 0, 1, 1, 0, 0, 0, 0]) Q a w := by
  obtain ⟨u, rfl⟩ := h.lay
  clear h
  by_cases c : i < x
  · have hQ := hQ c
    clear hE
    conv => arg 2; whnf
    go_wp2
    exact ⟨rfl, rfl, rfl, rfl, rfl, rfl, rfl, rfl, rfl, rfl, rfl, rfl, rfl⟩
  · have hE := hE c
    clear hQ
    conv => arg 2; whnf
    go_wp2
    exact ⟨rfl, rfl, rfl, rfl, rfl, rfl, rfl, rfl, rfl, rfl, rfl, rfl, rfl⟩
set_option maxRecDepth 20000 in
set_option maxHeartbeats 4000000 in
theorem ch14 {s : Nat} (h : Fc (.pointer (some ⟨S, 0, none⟩)) v1 v2 v3 v4 v10 v11 v12 v13 v14 (.int .i64 s) a) (hE : ¬ 0 < s → ∀ a', Fc (.pointer (some ⟨S, 0, none⟩)) v1 v2 v3 v4 v10 v11 v12 v13 v14 (.int .i64 s) a' → Q (.exit 6) a' w) (hQ : 0 < s → ∀ a', Fc (.pointer (some ⟨S, 0, none⟩)) v1 v2 v3 v4 v10 v11 v12 v13 v14 (.int .i64 s) a' → Q .normal a' w) : Code.wp Yba.prog (pc21 [1, 1, 1, 1, 1, 0, 0, 0]) Q a w := by
  obtain ⟨u, rfl⟩ := h.lay
  clear h
  by_cases c : 0 < s
  · have hQ := hQ c
    clear hE
    conv => arg 2; whnf
    go_wp2
    exact ⟨rfl, rfl, rfl, rfl, rfl, rfl, rfl, rfl, rfl, rfl, rfl, rfl, rfl⟩
  · have hE := hE c
    clear hQ
    conv => arg 2; whnf
    go_wp2
    exact ⟨rfl, rfl, rfl, rfl, rfl, rfl, rfl, rfl, rfl, rfl, rfl, rfl, rfl⟩
set_option maxRecDepth 20000 in
set_option maxHeartbeats 4000000 in
theorem cr6 {i i1 j j1 s : Nat} (b1 : i1 ≤ 1000) (b2 : j1 ≤ 1000) (b3 : s ≤ i1) (b4 : s ≤ j1) (h : Fc (.pointer (some ⟨S, 0, none⟩)) (.int .i64 i) (.int .i64 i1) (.int .i64 j) (.int .i64 j1) (.int .i64 s) v11 v12 v13 v14 v15 a) (hQ : ∀ a', Fc (.pointer (some ⟨S, 0, none⟩)) (.int .i64 i) (.int .i64 i1) (.int .i64 j) (.int .i64 j1) (.int .i64 s) v11 v12 v13 v14 v15 a' → a'.tmps.getD 105 undef = .bool (decide (i < i1 - s ∧ j < j1 - s)) → Q .normal a' w) : Code.wp Yba.prog (pc21 [1, 1, 1, 0, 0]) Q a w := by
  obtain ⟨u, rfl⟩ := h.lay
  clear h
  by_cases c1 : (i : Int) < i1 - s
  · by_cases c2 : (j : Int) < j1 - s
    · rw [decide_eq_true (p := i < i1 - s ∧ j < j1 - s) (by omega)] at hQ
      conv => arg 2; whnf
      go_wp2
      exact hQ _ ⟨rfl, rfl, rfl, rfl, rfl, rfl, rfl, rfl, rfl, rfl, rfl, rfl, rfl⟩ rfl
    · rw [decide_eq_false (p := i < i1 - s ∧ j < j1 - s) (by omega)] at hQ
      conv => arg 2; whnf
      go_wp2
      exact hQ _ ⟨rfl, rfl, rfl, rfl, rfl, rfl, rfl, rfl, rfl, rfl, rfl, rfl, rfl⟩ rfl
  · rw [decide_eq_false (p := i < i1 - s ∧ j < j1 - s) (by omega)] at hQ
    conv => arg 2; whnf
    go_wp2
    exact hQ _ ⟨rfl, rfl, rfl, rfl, rfl, rfl, rfl, rfl, rfl, rfl, rfl, rfl, rfl⟩ rfl
end Go.Proofs.Ybulkacye
