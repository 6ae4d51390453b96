import Derived.Test.YbulkacyeFr
import Derived.Test.YbulkacyeDif5
import Derived.Test.YbulkacyeLng
import Derived.BigQuiet
namespace Go.Proofs.Ybulkacye
open Go.RowKit Go.Proofs.Ybulkacye.Lcs
set_option linter.unusedVariables false
set_option linter.unusedSectionVars false
variable {v0 v1 v5 v6 v7 v8 v9 v12 v13 v15 v16 v17 v18 v19 v65 v66 v67 v82 v83 v84 v192 v193 : Value} {a : Act} {Q : Exit → Act → World → Prop} {w : World} {Wb gl gd gi go : Nat} {n m c : Nat} {ao bo : Option Addr} {ca cb : Nat} {bs ns : List UInt8} {oo : Option Addr} {oc : Nat}

/-- The frame of function 3 by its variables. -/
structure Fh (v0 v1 v5 v6 v7 v8 v9 v12 v13 v15 v16 v17 v18 v19 v65 v66 v67 v82 v83 v84 v192 v193 : Value) (a : Act) : Prop where
  sz : a.tmps.size = 206
  df : a.defers = []
  e0 : a.tmps.getD 0 undef = v0
  e1 : a.tmps.getD 1 undef = v1
  e5 : a.tmps.getD 5 undef = v5
  e6 : a.tmps.getD 6 undef = v6
  e7 : a.tmps.getD 7 undef = v7
  e8 : a.tmps.getD 8 undef = v8
  e9 : a.tmps.getD 9 undef = v9
  e12 : a.tmps.getD 12 undef = v12
  e13 : a.tmps.getD 13 undef = v13
  e15 : a.tmps.getD 15 undef = v15
  e16 : a.tmps.getD 16 undef = v16
  e17 : a.tmps.getD 17 undef = v17
  e18 : a.tmps.getD 18 undef = v18
  e19 : a.tmps.getD 19 undef = v19
  e65 : a.tmps.getD 65 undef = v65
  e66 : a.tmps.getD 66 undef = v66
  e67 : a.tmps.getD 67 undef = v67
  e82 : a.tmps.getD 82 undef = v82
  e83 : a.tmps.getD 83 undef = v83
  e84 : a.tmps.getD 84 undef = v84
  e192 : a.tmps.getD 192 undef = v192
  e193 : a.tmps.getD 193 undef = v193

set_option maxRecDepth 100000 in
theorem Fh_range (g : Nat → Value) : (List.range 206).map g = (g 0 :: g 1 :: g 2 :: g 3 :: g 4 :: g 5 :: g 6 :: g 7 :: g 8 :: g 9 :: g 10 :: g 11 :: g 12 :: g 13 :: g 14 :: g 15 :: g 16 :: g 17 :: g 18 :: g 19 :: g 20 :: g 21 :: g 22 :: g 23 :: g 24 :: g 25 :: g 26 :: g 27 :: g 28 :: g 29 :: g 30 :: g 31 :: g 32 :: g 33 :: g 34 :: g 35 :: g 36 :: g 37 :: g 38 :: g 39 :: g 40 :: g 41 :: g 42 :: g 43 :: g 44 :: g 45 :: g 46 :: g 47 :: g 48 :: g 49 :: g 50 :: g 51 :: g 52 :: g 53 :: g 54 :: g 55 :: g 56 :: g 57 :: g 58 :: g 59 :: g 60 :: g 61 :: g 62 :: g 63 :: g 64 :: g 65 :: g 66 :: g 67 :: g 68 :: g 69 :: g 70 :: g 71 :: g 72 :: g 73 :: g 74 :: g 75 :: g 76 :: g 77 :: g 78 :: g 79 :: g 80 :: g 81 :: g 82 :: g 83 :: g 84 :: g 85 :: g 86 :: g 87 :: g 88 :: g 89 :: g 90 :: g 91 :: g 92 :: g 93 :: g 94 :: g 95 :: g 96 :: g 97 :: g 98 :: g 99 :: g 100 :: g 101 :: g 102 :: g 103 :: g 104 :: g 105 :: g 106 :: g 107 :: g 108 :: g 109 :: g 110 :: g 111 :: g 112 :: g 113 :: g 114 :: g 115 :: g 116 :: g 117 :: g 118 :: g 119 :: g 120 :: g 121 :: g 122 :: g 123 :: g 124 :: g 125 :: g 126 :: g 127 :: g 128 :: g 129 :: g 130 :: g 131 :: g 132 :: g 133 :: g 134 :: g 135 :: g 136 :: g 137 :: g 138 :: g 139 :: g 140 :: g 141 :: g 142 :: g 143 :: g 144 :: g 145 :: g 146 :: g 147 :: g 148 :: g 149 :: g 150 :: g 151 :: g 152 :: g 153 :: g 154 :: g 155 :: g 156 :: g 157 :: g 158 :: g 159 :: g 160 :: g 161 :: g 162 :: g 163 :: g 164 :: g 165 :: g 166 :: g 167 :: g 168 :: g 169 :: g 170 :: g 171 :: g 172 :: g 173 :: g 174 :: g 175 :: g 176 :: g 177 :: g 178 :: g 179 :: g 180 :: g 181 :: g 182 :: g 183 :: g 184 :: g 185 :: g 186 :: g 187 :: g 188 :: g 189 :: g 190 :: g 191 :: g 192 :: g 193 :: g 194 :: g 195 :: g 196 :: g 197 :: g 198 :: g 199 :: g 200 :: g 201 :: g 202 :: g 203 :: g 204 :: g 205 :: []) := by
  kernel_rfl

set_option maxRecDepth 100000 in
theorem Fh.lay {v0 v1 v5 v6 v7 v8 v9 v12 v13 v15 v16 v17 v18 v19 v65 v66 v67 v82 v83 v84 v192 v193 : Value} {a : Act} (h : Fh v0 v1 v5 v6 v7 v8 v9 v12 v13 v15 v16 v17 v18 v19 v65 v66 v67 v82 v83 v84 v192 v193 a) : ∃ u : Nat → Value, a = ⟨List.toArray (v0 :: v1 :: u 2 :: u 3 :: u 4 :: v5 :: v6 :: v7 :: v8 :: v9 :: u 10 :: u 11 :: v12 :: v13 :: u 14 :: v15 :: v16 :: v17 :: v18 :: v19 :: u 20 :: u 21 :: u 22 :: u 23 :: u 24 :: u 25 :: u 26 :: u 27 :: u 28 :: u 29 :: u 30 :: u 31 :: u 32 :: u 33 :: u 34 :: u 35 :: u 36 :: u 37 :: u 38 :: u 39 :: u 40 :: u 41 :: u 42 :: u 43 :: u 44 :: u 45 :: u 46 :: u 47 :: u 48 :: u 49 :: u 50 :: u 51 :: u 52 :: u 53 :: u 54 :: u 55 :: u 56 :: u 57 :: u 58 :: u 59 :: u 60 :: u 61 :: u 62 :: u 63 :: u 64 :: v65 :: v66 :: v67 :: u 68 :: u 69 :: u 70 :: u 71 :: u 72 :: u 73 :: u 74 :: u 75 :: u 76 :: u 77 :: u 78 :: u 79 :: u 80 :: u 81 :: v82 :: v83 :: v84 :: u 85 :: u 86 :: u 87 :: u 88 :: u 89 :: u 90 :: u 91 :: u 92 :: u 93 :: u 94 :: u 95 :: u 96 :: u 97 :: u 98 :: u 99 :: u 100 :: u 101 :: u 102 :: u 103 :: u 104 :: u 105 :: u 106 :: u 107 :: u 108 :: u 109 :: u 110 :: u 111 :: u 112 :: u 113 :: u 114 :: u 115 :: u 116 :: u 117 :: u 118 :: u 119 :: u 120 :: u 121 :: u 122 :: u 123 :: u 124 :: u 125 :: u 126 :: u 127 :: u 128 :: u 129 :: u 130 :: u 131 :: u 132 :: u 133 :: u 134 :: u 135 :: u 136 :: u 137 :: u 138 :: u 139 :: u 140 :: u 141 :: u 142 :: u 143 :: u 144 :: u 145 :: u 146 :: u 147 :: u 148 :: u 149 :: u 150 :: u 151 :: u 152 :: u 153 :: u 154 :: u 155 :: u 156 :: u 157 :: u 158 :: u 159 :: u 160 :: u 161 :: u 162 :: u 163 :: u 164 :: u 165 :: u 166 :: u 167 :: u 168 :: u 169 :: u 170 :: u 171 :: u 172 :: u 173 :: u 174 :: u 175 :: u 176 :: u 177 :: u 178 :: u 179 :: u 180 :: u 181 :: u 182 :: u 183 :: u 184 :: u 185 :: u 186 :: u 187 :: u 188 :: u 189 :: u 190 :: u 191 :: v192 :: v193 :: u 194 :: u 195 :: u 196 :: u 197 :: u 198 :: u 199 :: u 200 :: u 201 :: u 202 :: u 203 :: u 204 :: u 205 :: []), []⟩ := by
  obtain ⟨⟨l⟩, df⟩ := a
  obtain ⟨sz, hd, e0, e1, e5, e6, e7, e8, e9, e12, e13, e15, e16, e17, e18, e19, e65, e66, e67, e82, e83, e84, e192, e193⟩ := h
  have hd' : df = [] := hd
  have hl : l = (l.getD 0 undef :: l.getD 1 undef :: l.getD 2 undef :: l.getD 3 undef :: l.getD 4 undef :: l.getD 5 undef :: l.getD 6 undef :: l.getD 7 undef :: l.getD 8 undef :: l.getD 9 undef :: l.getD 10 undef :: l.getD 11 undef :: l.getD 12 undef :: l.getD 13 undef :: l.getD 14 undef :: l.getD 15 undef :: l.getD 16 undef :: l.getD 17 undef :: l.getD 18 undef :: l.getD 19 undef :: l.getD 20 undef :: l.getD 21 undef :: l.getD 22 undef :: l.getD 23 undef :: l.getD 24 undef :: l.getD 25 undef :: l.getD 26 undef :: l.getD 27 undef :: l.getD 28 undef :: l.getD 29 undef :: l.getD 30 undef :: l.getD 31 undef :: l.getD 32 undef :: l.getD 33 undef :: l.getD 34 undef :: l.getD 35 undef :: l.getD 36 undef :: l.getD 37 undef :: l.getD 38 undef :: l.getD 39 undef :: l.getD 40 undef :: l.getD 41 undef :: l.getD 42 undef :: l.getD 43 undef :: l.getD 44 undef :: l.getD 45 undef :: l.getD 46 undef :: l.getD 47 undef :: l.getD 48 undef :: l.getD 49 undef :: l.getD 50 undef :: l.getD 51 undef :: l.getD 52 undef :: l.getD 53 undef :: l.getD 54 undef :: l.getD 55 undef :: l.getD 56 undef :: l.getD 57 undef :: l.getD 58 undef :: l.getD 59 undef :: l.getD 60 undef :: l.getD 61 undef :: l.getD 62 undef :: l.getD 63 undef :: l.getD 64 undef :: l.getD 65 undef :: l.getD 66 undef :: l.getD 67 undef :: l.getD 68 undef :: l.getD 69 undef :: l.getD 70 undef :: l.getD 71 undef :: l.getD 72 undef :: l.getD 73 undef :: l.getD 74 undef :: l.getD 75 undef :: l.getD 76 undef :: l.getD 77 undef :: l.getD 78 undef :: l.getD 79 undef :: l.getD 80 undef :: l.getD 81 undef :: l.getD 82 undef :: l.getD 83 undef :: l.getD 84 undef :: l.getD 85 undef :: l.getD 86 undef :: l.getD 87 undef :: l.getD 88 undef :: l.getD 89 undef :: l.getD 90 undef :: l.getD 91 undef :: l.getD 92 undef :: l.getD 93 undef :: l.getD 94 undef :: l.getD 95 undef :: l.getD 96 undef :: l.getD 97 undef :: l.getD 98 undef :: l.getD 99 undef :: l.getD 100 undef :: l.getD 101 undef :: l.getD 102 undef :: l.getD 103 undef :: l.getD 104 undef :: l.getD 105 undef :: l.getD 106 undef :: l.getD 107 undef :: l.getD 108 undef :: l.getD 109 undef :: l.getD 110 undef :: l.getD 111 undef :: l.getD 112 undef :: l.getD 113 undef :: l.getD 114 undef :: l.getD 115 undef :: l.getD 116 undef :: l.getD 117 undef :: l.getD 118 undef :: l.getD 119 undef :: l.getD 120 undef :: l.getD 121 undef :: l.getD 122 undef :: l.getD 123 undef :: l.getD 124 undef :: l.getD 125 undef :: l.getD 126 undef :: l.getD 127 undef :: l.getD 128 undef :: l.getD 129 undef :: l.getD 130 undef :: l.getD 131 undef :: l.getD 132 undef :: l.getD 133 undef :: l.getD 134 undef :: l.getD 135 undef :: l.getD 136 undef :: l.getD 137 undef :: l.getD 138 undef :: l.getD 139 undef :: l.getD 140 undef :: l.getD 141 undef :: l.getD 142 undef :: l.getD 143 undef :: l.getD 144 undef :: l.getD 145 undef :: l.getD 146 undef :: l.getD 147 undef :: l.getD 148 undef :: l.getD 149 undef :: l.getD 150 undef :: l.getD 151 undef :: l.getD 152 undef :: l.getD 153 undef :: l.getD 154 undef :: l.getD 155 undef :: l.getD 156 undef :: l.getD 157 undef :: l.getD 158 undef :: l.getD 159 undef :: l.getD 160 undef :: l.getD 161 undef :: l.getD 162 undef :: l.getD 163 undef :: l.getD 164 undef :: l.getD 165 undef :: l.getD 166 undef :: l.getD 167 undef :: l.getD 168 undef :: l.getD 169 undef :: l.getD 170 undef :: l.getD 171 undef :: l.getD 172 undef :: l.getD 173 undef :: l.getD 174 undef :: l.getD 175 undef :: l.getD 176 undef :: l.getD 177 undef :: l.getD 178 undef :: l.getD 179 undef :: l.getD 180 undef :: l.getD 181 undef :: l.getD 182 undef :: l.getD 183 undef :: l.getD 184 undef :: l.getD 185 undef :: l.getD 186 undef :: l.getD 187 undef :: l.getD 188 undef :: l.getD 189 undef :: l.getD 190 undef :: l.getD 191 undef :: l.getD 192 undef :: l.getD 193 undef :: l.getD 194 undef :: l.getD 195 undef :: l.getD 196 undef :: l.getD 197 undef :: l.getD 198 undef :: l.getD 199 undef :: l.getD 200 undef :: l.getD 201 undef :: l.getD 202 undef :: l.getD 203 undef :: l.getD 204 undef :: l.getD 205 undef :: []) := (list_eta l 206 sz).trans (Fh_range _)
  have e0' : l.getD 0 undef = v0 := by rw [← e0]; simp [List.getD, Array.getD_eq_getD_getElem?]
  have e1' : l.getD 1 undef = v1 := by rw [← e1]; simp [List.getD, Array.getD_eq_getD_getElem?]
  have e5' : l.getD 5 undef = v5 := by rw [← e5]; simp [List.getD, Array.getD_eq_getD_getElem?]
  have e6' : l.getD 6 undef = v6 := by rw [← e6]; simp [List.getD, Array.getD_eq_getD_getElem?]
  have e7' : l.getD 7 undef = v7 := by rw [← e7]; simp [List.getD, Array.getD_eq_getD_getElem?]
  have e8' : l.getD 8 undef = v8 := by rw [← e8]; simp [List.getD, Array.getD_eq_getD_getElem?]
  have e9' : l.getD 9 undef = v9 := by rw [← e9]; simp [List.getD, Array.getD_eq_getD_getElem?]
  have e12' : l.getD 12 undef = v12 := by rw [← e12]; simp [List.getD, Array.getD_eq_getD_getElem?]
  have e13' : l.getD 13 undef = v13 := by rw [← e13]; simp [List.getD, Array.getD_eq_getD_getElem?]
  have e15' : l.getD 15 undef = v15 := by rw [← e15]; simp [List.getD, Array.getD_eq_getD_getElem?]
  have e16' : l.getD 16 undef = v16 := by rw [← e16]; simp [List.getD, Array.getD_eq_getD_getElem?]
  have e17' : l.getD 17 undef = v17 := by rw [← e17]; simp [List.getD, Array.getD_eq_getD_getElem?]
  have e18' : l.getD 18 undef = v18 := by rw [← e18]; simp [List.getD, Array.getD_eq_getD_getElem?]
  have e19' : l.getD 19 undef = v19 := by rw [← e19]; simp [List.getD, Array.getD_eq_getD_getElem?]
  have e65' : l.getD 65 undef = v65 := by rw [← e65]; simp [List.getD, Array.getD_eq_getD_getElem?]
  have e66' : l.getD 66 undef = v66 := by rw [← e66]; simp [List.getD, Array.getD_eq_getD_getElem?]
  have e67' : l.getD 67 undef = v67 := by rw [← e67]; simp [List.getD, Array.getD_eq_getD_getElem?]
  have e82' : l.getD 82 undef = v82 := by rw [← e82]; simp [List.getD, Array.getD_eq_getD_getElem?]
  have e83' : l.getD 83 undef = v83 := by rw [← e83]; simp [List.getD, Array.getD_eq_getD_getElem?]
  have e84' : l.getD 84 undef = v84 := by rw [← e84]; simp [List.getD, Array.getD_eq_getD_getElem?]
  have e192' : l.getD 192 undef = v192 := by rw [← e192]; simp [List.getD, Array.getD_eq_getD_getElem?]
  have e193' : l.getD 193 undef = v193 := by rw [← e193]; simp [List.getD, Array.getD_eq_getD_getElem?]
  refine ⟨fun i => l.getD i undef, ?_⟩
  rw [hd', ← e0', ← e1', ← e5', ← e6', ← e7', ← e8', ← e9', ← e12', ← e13', ← e15', ← e16', ← e17', ← e18', ← e19', ← e65', ← e66', ← e67', ← e82', ← e83', ← e84', ← e192', ← e193']
  exact congrArg (fun x => (⟨⟨x⟩, []⟩ : Act)) hl
noncomputable def pc3 (l : List Nat) : Code := sub l (Yba.f3.body.getD .skip)
set_option maxRecDepth 20000 in
set_option maxHeartbeats 4000000 in
theorem k0  (h : Fh v0 v1 v5 v6 v7 v8 v9 v12 v13 v15 v16 v17 v18 v19 v65 v66 v67 v82 v83 v84 v192 v193 a) (hQ : ∀ a', Fh v0 v1 v5 v6 v7 v8 v9 v12 v13 v15 v16 v17 v18 v19 v65 v66 v67 v82 v83 v84 v192 v193 a' → Q .normal a' w) : Code.wp Yba.prog (pc3 [0]) Q a w := by
  obtain ⟨u, rfl⟩ := h.lay
  clear h
  conv => arg 2; whnf
  go_wp2
  exact ⟨rfl, rfl, rfl, rfl, rfl, rfl, rfl, rfl, rfl, rfl, rfl, rfl, rfl, rfl, rfl, rfl, rfl, rfl, rfl, rfl, rfl, rfl, rfl, rfl⟩

set_option maxRecDepth 20000 in
set_option maxHeartbeats 4000000 in
theorem k1 {nA nB : Nat} (h1 : nA ≤ 9223372036854775807) (h2 : nB ≤ 9223372036854775807) (h : Fh (.slice ao nA ca) (.slice bo nB cb) v5 v6 v7 v8 v9 v12 v13 v15 v16 v17 v18 v19 v65 v66 v67 v82 v83 v84 v192 v193 a) (hQ : ∀ a', Fh (.slice ao nA ca) (.slice bo nB cb) v5 v6 v7 v8 v9 v12 v13 v15 v16 v17 v18 v19 v65 v66 v67 v82 v83 v84 v192 v193 a' → a'.tmps.getD 27 undef = .bool (decide (300 < nA ∨ 300 < nB)) → Q .normal a' w) : Code.wp Yba.prog (pc3 [1, 0, 0]) Q a w := by
  obtain ⟨u, rfl⟩ := h.lay
  clear h
  by_cases c1 : 300 < nA
  · rw [decide_eq_true (p := 300 < nA ∨ 300 < nB) (.inl c1)] at hQ
    conv => arg 2; whnf
    go_wp2
    exact hQ _ ⟨rfl, rfl, rfl, rfl, rfl, rfl, rfl, rfl, rfl, rfl, rfl, rfl, rfl, rfl, rfl, rfl, rfl, rfl, rfl, rfl, rfl, rfl, rfl, rfl⟩ rfl
  · by_cases c2 : 300 < nB
    · rw [decide_eq_true (p := 300 < nA ∨ 300 < nB) (.inr c2)] at hQ
      conv => arg 2; whnf
      go_wp2
      exact hQ _ ⟨rfl, rfl, rfl, rfl, rfl, rfl, rfl, rfl, rfl, rfl, rfl, rfl, rfl, rfl, rfl, rfl, rfl, rfl, rfl, rfl, rfl, rfl, rfl, rfl⟩ (by show Value.bool (decide ((300 : Int) < nA) || decide ((300 : Int) < nB)) = _; rw [decide_eq_false (by omega), decide_eq_true (by omega)]; rfl)
    · rw [decide_eq_false (p := 300 < nA ∨ 300 < nB) (by omega)] at hQ
      conv => arg 2; whnf
      go_wp2
      exact hQ _ ⟨rfl, rfl, rfl, rfl, rfl, rfl, rfl, rfl, rfl, rfl, rfl, rfl, rfl, rfl, rfl, rfl, rfl, rfl, rfl, rfl, rfl, rfl, rfl, rfl⟩ (by show Value.bool (decide ((300 : Int) < nA) || decide ((300 : Int) < nB)) = _; rw [decide_eq_false (by omega), decide_eq_false (by omega)]; rfl)

set_option maxRecDepth 20000 in
set_option maxHeartbeats 4000000 in
theorem k2 (h : Fh v0 v1 v5 v6 v7 v8 v9 v12 v13 v15 v16 v17 v18 v19 v65 v66 v67 v82 v83 v84 v192 v193 a) (hQ : ∀ a', a'.defers = [] → a'.tmps.getD 4 undef = .bool true → Q .ret a' w) : Code.wp Yba.prog (pc3 [1, 0, 1, 0]) Q a w := by
  obtain ⟨u, rfl⟩ := h.lay
  clear h
  conv => arg 2; whnf
  go_wp2
  exact hQ _ rfl rfl

set_option maxRecDepth 20000 in
set_option maxHeartbeats 4000000 in
theorem k3 {nA nB : Nat} {RR : Ending → World → Prop} (h : Fh (.slice ao nA ca) (.slice bo nB cb) v5 v6 v7 v8 v9 v12 v13 v15 v16 v17 v18 v19 v65 v66 v67 v82 v83 v84 v192 v193 a) (hc : Calls Yba.prog 7 #[.slice ao nA ca, .slice bo nB cb] w RR) (hQ : ∀ e w', RR e w' → ∃ x y z, e = .returned (.tuple #[x, y, z]) ∧ ∀ a', Fh (.slice ao nA ca) (.slice bo nB cb) x y z v8 v9 v12 v13 v15 v16 v17 v18 v19 v65 v66 v67 v82 v83 v84 v192 v193 a' → Q .normal a' w') : Code.wp Yba.prog (pc3 [1, 1, 0]) Q a w := by
  obtain ⟨u, rfl⟩ := h.lay
  clear h
  conv => arg 2; whnf
  go_wp2_with fail
  refine hc.mono ?_
  intro e w1 hr
  obtain ⟨x, y, z, rfl, hQ1⟩ := hQ e w1 hr
  clear hQ hc hr
  go_wp2
  exact ⟨rfl, rfl, rfl, rfl, rfl, rfl, rfl, rfl, rfl, rfl, rfl, rfl, rfl, rfl, rfl, rfl, rfl, rfl, rfl, rfl, rfl, rfl, rfl, rfl⟩

set_option maxRecDepth 20000 in
set_option maxHeartbeats 4000000 in
theorem k4 {RR : Ending → World → Prop} {x z : Value} (h : Fh v0 v1 x v6 z v8 v9 v12 v13 v15 v16 v17 v18 v19 v65 v66 v67 v82 v83 v84 v192 v193 a) (hc : Calls Yba.prog 8 #[x, z] w RR) (hQ : ∀ e w', RR e w' → ∃ c, e = .returned c ∧ ∀ a', Fh v0 v1 x v6 z c v9 v12 v13 v15 v16 v17 v18 v19 v65 v66 v67 v82 v83 v84 v192 v193 a' → Q .normal a' w') : Code.wp Yba.prog (pc3 [1, 1, 1, 0]) Q a w := by
  obtain ⟨u, rfl⟩ := h.lay
  clear h
  conv => arg 2; whnf
  go_wp2_with fail
  refine hc.mono ?_
  intro e w1 hr
  obtain ⟨c, rfl, hQ1⟩ := hQ e w1 hr
  clear hQ hc hr
  go_wp2
  exact ⟨rfl, rfl, rfl, rfl, rfl, rfl, rfl, rfl, rfl, rfl, rfl, rfl, rfl, rfl, rfl, rfl, rfl, rfl, rfl, rfl, rfl, rfl, rfl, rfl⟩

set_option maxRecDepth 20000 in
set_option maxHeartbeats 4000000 in
theorem k5 (c4 : w.cell? ⟨Wb, 4, none⟩ = some (.slice (some ⟨gd, 0, none⟩) n n)) (h1 : c ≤ n) (h2 : c ≤ m) (hn : n ≤ 1000) (hm : m ≤ 1000) (h : Fh v0 v1 (.pointer (some ⟨Wb, 0, none⟩)) (.slice oo n oc) (.slice (some ⟨gl, 0, none⟩) m m) (.int .i64 c) v9 v12 v13 v15 v16 v17 v18 v19 v65 v66 v67 v82 v83 v84 v192 v193 a) (hQ : ∀ a', Fh v0 v1 (.pointer (some ⟨Wb, 0, none⟩)) (.slice oo n oc) (.slice (some ⟨gl, 0, none⟩) m m) (.int .i64 c) v9 v12 v13 v15 v16 v17 v18 v19 v65 v66 v67 v82 v83 v84 v192 v193 a' → a'.tmps.getD 61 undef = .bool false → Q .normal a' w) : Code.wp Yba.prog (pc3 [1, 1, 1, 1, 0, 0]) Q a w := by
  have d1 : decide ((n : Int) < c) = false := decide_eq_false (by omega)
  have d2 : decide ((m : Int) < c) = false := decide_eq_false (by omega)
  have d3 : decide ((c : Int) < 0) = false := decide_eq_false (by omega)
  have d4 : ((n : Int) != (n : Int)) = false := by simp
  have d5 : decide (n < c) = false := decide_eq_false (by omega)
  have d6 : decide (m < c) = false := decide_eq_false (by omega)
  obtain ⟨u, rfl⟩ := h.lay
  clear h
  conv => arg 2; whnf
  go_wp2
  exact hQ _ ⟨rfl, rfl, rfl, rfl, rfl, rfl, rfl, rfl, rfl, rfl, rfl, rfl, rfl, rfl, rfl, rfl, rfl, rfl, rfl, rfl, rfl, rfl, rfl, rfl⟩ (by first | rfl | simp [d1, d2, d3, d5, d6] | (simp; omega))

set_option maxRecDepth 20000 in
set_option maxHeartbeats 4000000 in
theorem k7  (h : Fh v0 v1 v5 v6 v7 v8 v9 v12 v13 v15 v16 v17 v18 v19 v65 v66 v67 v82 v83 v84 v192 v193 a) (hQ : ∀ a', Fh v0 v1 v5 v6 v7 v8 (.int .i64 ((0 : Nat) : Int)) v12 v13 v15 v16 v17 v18 v19 v65 v66 v67 v82 v83 v84 v192 v193 a' → Q .normal a' w) : Code.wp Yba.prog (pc3 [1, 1, 1, 1, 1, 0]) Q a w := by
  obtain ⟨u, rfl⟩ := h.lay
  clear h
  conv => arg 2; whnf
  go_wp2
  exact ⟨rfl, rfl, rfl, rfl, rfl, rfl, rfl, rfl, rfl, rfl, rfl, rfl, rfl, rfl, rfl, rfl, rfl, rfl, rfl, rfl, rfl, rfl, rfl, rfl⟩

set_option maxRecDepth 20000 in
set_option maxHeartbeats 4000000 in
theorem k8 (c4 : w.cell? ⟨Wb, 4, none⟩ = some (.slice (some ⟨gd, 0, none⟩) n n)) (h : Fh v0 v1 (.pointer (some ⟨Wb, 0, none⟩)) v6 v7 v8 v9 v12 v13 v15 v16 v17 v18 v19 v65 v66 v67 v82 v83 v84 v192 v193 a) (hQ : ∀ a', Fh v0 v1 (.pointer (some ⟨Wb, 0, none⟩)) v6 v7 v8 v9 v12 v13 v15 v16 v17 v18 v19 (.slice (some ⟨gd, 0, none⟩) n n) (.int .i64 n) (.int .i64 ((0 : Nat) : Int)) v82 v83 v84 v192 v193 a' → Q .normal a' w) : Code.wp Yba.prog (pc3 [1, 1, 1, 1, 1, 1, 0, 0]) Q a w := by
  obtain ⟨u, rfl⟩ := h.lay
  clear h
  conv => arg 2; whnf
  go_wp2
  exact ⟨rfl, rfl, rfl, rfl, rfl, rfl, rfl, rfl, rfl, rfl, rfl, rfl, rfl, rfl, rfl, rfl, rfl, rfl, rfl, rfl, rfl, rfl, rfl, rfl⟩

set_option maxRecDepth 20000 in
set_option maxHeartbeats 4000000 in
theorem kh9 {i x : Nat} (h : Fh v0 v1 v5 v6 v7 v8 v9 v12 v13 v15 v16 v17 v18 v19 v65 (.int .i64 x) (.int .i64 i) v82 v83 v84 v192 v193 a) (hQ : ∀ a', Fh v0 v1 v5 v6 v7 v8 v9 v12 v13 v15 v16 v17 v18 v19 v65 (.int .i64 x) (.int .i64 i) v82 v83 v84 v192 v193 a' → a'.tmps.getD 68 undef = .bool (decide (i < x)) → Q .normal a' w) : Code.wp Yba.prog (pc3 [1, 1, 1, 1, 1, 1, 0, 1, 0, 0, 0]) Q a w := by
  obtain ⟨u, rfl⟩ := h.lay
  clear h
  by_cases c : i < x
  · rw [decide_eq_true c] at hQ
    conv => arg 2; whnf
    go_wp2
    exact hQ _ ⟨rfl, rfl, rfl, rfl, rfl, rfl, rfl, rfl, rfl, rfl, rfl, rfl, rfl, rfl, rfl, rfl, rfl, rfl, rfl, rfl, rfl, rfl, rfl, rfl⟩ rfl
  · rw [decide_eq_false c] at hQ
    conv => arg 2; whnf
    go_wp2
    exact hQ _ ⟨rfl, rfl, rfl, rfl, rfl, rfl, rfl, rfl, rfl, rfl, rfl, rfl, rfl, rfl, rfl, rfl, rfl, rfl, rfl, rfl, rfl, rfl, rfl, rfl⟩ rfl

set_option maxRecDepth 20000 in
set_option maxHeartbeats 4000000 in
theorem kh19 {i x : Nat} (h : Fh v0 v1 v5 v6 v7 v8 v9 v12 v13 v15 v16 v17 v18 v19 v65 v66 v67 v82 (.int .i64 x) (.int .i64 i) v192 v193 a) (hQ : ∀ a', Fh v0 v1 v5 v6 v7 v8 v9 v12 v13 v15 v16 v17 v18 v19 v65 v66 v67 v82 (.int .i64 x) (.int .i64 i) v192 v193 a' → a'.tmps.getD 85 undef = .bool (decide (i < x)) → Q .normal a' w) : Code.wp Yba.prog (pc3 [1, 1, 1, 1, 1, 1, 1, 1, 1, 1, 0, 1, 0, 0, 0]) Q a w := by
  obtain ⟨u, rfl⟩ := h.lay
  clear h
  by_cases c : i < x
  · rw [decide_eq_true c] at hQ
    conv => arg 2; whnf
    go_wp2
    exact hQ _ ⟨rfl, rfl, rfl, rfl, rfl, rfl, rfl, rfl, rfl, rfl, rfl, rfl, rfl, rfl, rfl, rfl, rfl, rfl, rfl, rfl, rfl, rfl, rfl, rfl⟩ rfl
  · rw [decide_eq_false c] at hQ
    conv => arg 2; whnf
    go_wp2
    exact hQ _ ⟨rfl, rfl, rfl, rfl, rfl, rfl, rfl, rfl, rfl, rfl, rfl, rfl, rfl, rfl, rfl, rfl, rfl, rfl, rfl, rfl, rfl, rfl, rfl, rfl⟩ rfl

set_option maxRecDepth 20000 in
set_option maxHeartbeats 4000000 in
theorem kh41 {i x : Nat} (h : Fh v0 v1 v5 v6 v7 v8 v9 v12 v13 v15 v16 v17 v18 v19 v65 v66 v67 v82 v83 v84 (.int .i64 x) (.int .i64 i) a) (hQ : ∀ a', Fh v0 v1 v5 v6 v7 v8 v9 v12 v13 v15 v16 v17 v18 v19 v65 v66 v67 v82 v83 v84 (.int .i64 x) (.int .i64 i) a' → a'.tmps.getD 194 undef = .bool (decide (i < x)) → Q .normal a' w) : Code.wp Yba.prog (pc3 [1, 1, 1, 1, 1, 1, 1, 1, 1, 1, 1, 1, 1, 1, 1, 1, 0, 1, 0, 0, 0]) Q a w := by
  obtain ⟨u, rfl⟩ := h.lay
  clear h
  by_cases c : i < x
  · rw [decide_eq_true c] at hQ
    conv => arg 2; whnf
    go_wp2
    exact hQ _ ⟨rfl, rfl, rfl, rfl, rfl, rfl, rfl, rfl, rfl, rfl, rfl, rfl, rfl, rfl, rfl, rfl, rfl, rfl, rfl, rfl, rfl, rfl, rfl, rfl⟩ rfl
  · rw [decide_eq_false c] at hQ
    conv => arg 2; whnf
    go_wp2
    exact hQ _ ⟨rfl, rfl, rfl, rfl, rfl, rfl, rfl, rfl, rfl, rfl, rfl, rfl, rfl, rfl, rfl, rfl, rfl, rfl, rfl, rfl, rfl, rfl, rfl, rfl⟩ rfl

set_option maxRecDepth 20000 in
set_option maxHeartbeats 4000000 in
theorem ki13 {i : Nat} (h : Fh v0 v1 v5 v6 v7 v8 v9 v12 v13 v15 v16 v17 v18 v19 v65 v66 (.int .i64 i) v82 v83 v84 v192 v193 a) (hi : i ≤ 1000) (hQ : ∀ a', Fh v0 v1 v5 v6 v7 v8 v9 v12 v13 v15 v16 v17 v18 v19 v65 v66 (.int .i64 ((i + 1 : Nat) : Int)) v82 v83 v84 v192 v193 a' → Q .normal a' w) : Code.wp Yba.prog (pc3 [1, 1, 1, 1, 1, 1, 0, 1, 0, 0, 1, 1, 1]) Q a w := by
  have e : ((i + 1 : Nat) : Int) = (i : Int) + 1 := by omega
  rw [e] at hQ
  clear e
  obtain ⟨u, rfl⟩ := h.lay
  clear h
  conv => arg 2; whnf
  go_wp2
  exact ⟨rfl, rfl, rfl, rfl, rfl, rfl, rfl, rfl, rfl, rfl, rfl, rfl, rfl, rfl, rfl, rfl, rfl, rfl, rfl, rfl, rfl, rfl, rfl, rfl⟩

set_option maxRecDepth 20000 in
set_option maxHeartbeats 4000000 in
theorem ki25 {i : Nat} (h : Fh v0 v1 v5 v6 v7 v8 v9 v12 v13 v15 v16 v17 v18 v19 v65 v66 v67 v82 v83 (.int .i64 i) v192 v193 a) (hi : i ≤ 1000) (hQ : ∀ a', Fh v0 v1 v5 v6 v7 v8 v9 v12 v13 v15 v16 v17 v18 v19 v65 v66 v67 v82 v83 (.int .i64 ((i + 1 : Nat) : Int)) v192 v193 a' → Q .normal a' w) : Code.wp Yba.prog (pc3 [1, 1, 1, 1, 1, 1, 1, 1, 1, 1, 0, 1, 0, 0, 1, 1, 1]) Q a w := by
  have e : ((i + 1 : Nat) : Int) = (i : Int) + 1 := by omega
  rw [e] at hQ
  clear e
  obtain ⟨u, rfl⟩ := h.lay
  clear h
  conv => arg 2; whnf
  go_wp2
  exact ⟨rfl, rfl, rfl, rfl, rfl, rfl, rfl, rfl, rfl, rfl, rfl, rfl, rfl, rfl, rfl, rfl, rfl, rfl, rfl, rfl, rfl, rfl, rfl, rfl⟩

set_option maxRecDepth 20000 in
set_option maxHeartbeats 4000000 in
theorem ki35 {i : Nat} (h : Fh v0 v1 v5 v6 v7 v8 v9 v12 v13 v15 v16 (.int .i64 i) v18 v19 v65 v66 v67 v82 v83 v84 v192 v193 a) (hi : i ≤ 1000) (hQ : ∀ a', Fh v0 v1 v5 v6 v7 v8 v9 v12 v13 v15 v16 (.int .i64 ((i + 1 : Nat) : Int)) v18 v19 v65 v66 v67 v82 v83 v84 v192 v193 a' → Q .normal a' w) : Code.wp Yba.prog (pc3 [1, 1, 1, 1, 1, 1, 1, 1, 1, 1, 1, 1, 1, 1, 0, 1, 0, 0, 1, 0, 0, 0, 0, 0, 1, 0, 1]) Q a w := by
  have e : ((i + 1 : Nat) : Int) = (i : Int) + 1 := by omega
  rw [e] at hQ
  clear e
  obtain ⟨u, rfl⟩ := h.lay
  clear h
  conv => arg 2; whnf
  go_wp2
  exact ⟨rfl, rfl, rfl, rfl, rfl, rfl, rfl, rfl, rfl, rfl, rfl, rfl, rfl, rfl, rfl, rfl, rfl, rfl, rfl, rfl, rfl, rfl, rfl, rfl⟩

set_option maxRecDepth 20000 in
set_option maxHeartbeats 4000000 in
theorem ki32 {i : Nat} (h : Fh v0 v1 v5 v6 v7 v8 v9 v12 v13 v15 v16 v17 (.int .i64 i) v19 v65 v66 v67 v82 v83 v84 v192 v193 a) (hi : i ≤ 1000) (hQ : ∀ a', Fh v0 v1 v5 v6 v7 v8 v9 v12 v13 v15 v16 v17 (.int .i64 ((i + 1 : Nat) : Int)) v19 v65 v66 v67 v82 v83 v84 v192 v193 a' → Q .normal a' w) : Code.wp Yba.prog (pc3 [1, 1, 1, 1, 1, 1, 1, 1, 1, 1, 1, 1, 1, 1, 0, 1, 0, 0, 1, 1]) Q a w := by
  have e : ((i + 1 : Nat) : Int) = (i : Int) + 1 := by omega
  rw [e] at hQ
  clear e
  obtain ⟨u, rfl⟩ := h.lay
  clear h
  conv => arg 2; whnf
  go_wp2
  exact ⟨rfl, rfl, rfl, rfl, rfl, rfl, rfl, rfl, rfl, rfl, rfl, rfl, rfl, rfl, rfl, rfl, rfl, rfl, rfl, rfl, rfl, rfl, rfl, rfl⟩

set_option maxRecDepth 20000 in
set_option maxHeartbeats 4000000 in
theorem ki45 {i : Nat} (h : Fh v0 v1 v5 v6 v7 v8 v9 v12 v13 v15 v16 v17 v18 v19 v65 v66 v67 v82 v83 v84 v192 (.int .i64 i) a) (hi : i ≤ 1000) (hQ : ∀ a', Fh v0 v1 v5 v6 v7 v8 v9 v12 v13 v15 v16 v17 v18 v19 v65 v66 v67 v82 v83 v84 v192 (.int .i64 ((i + 1 : Nat) : Int)) a' → Q .normal a' w) : Code.wp Yba.prog (pc3 [1, 1, 1, 1, 1, 1, 1, 1, 1, 1, 1, 1, 1, 1, 1, 1, 0, 1, 0, 0, 1, 1, 1]) Q a w := by
  have e : ((i + 1 : Nat) : Int) = (i : Int) + 1 := by omega
  rw [e] at hQ
  clear e
  obtain ⟨u, rfl⟩ := h.lay
  clear h
  conv => arg 2; whnf
  go_wp2
  exact ⟨rfl, rfl, rfl, rfl, rfl, rfl, rfl, rfl, rfl, rfl, rfl, rfl, rfl, rfl, rfl, rfl, rfl, rfl, rfl, rfl, rfl, rfl, rfl, rfl⟩

set_option maxRecDepth 20000 in
set_option maxHeartbeats 4000000 in
theorem ki12 {i : Nat} (h : Fh v0 v1 v5 v6 v7 v8 (.int .i64 i) v12 v13 v15 v16 v17 v18 v19 v65 v66 v67 v82 v83 v84 v192 v193 a) (hi : i ≤ 1000) (hQ : ∀ a', Fh v0 v1 v5 v6 v7 v8 (.int .i64 ((i + 1 : Nat) : Int)) v12 v13 v15 v16 v17 v18 v19 v65 v66 v67 v82 v83 v84 v192 v193 a' → Q .normal a' w) : Code.wp Yba.prog (pc3 [1, 1, 1, 1, 1, 1, 0, 1, 0, 0, 1, 1, 0, 0, 1, 1, 0]) Q a w := by
  have e : ((i + 1 : Nat) : Int) = (i : Int) + 1 := by omega
  rw [e] at hQ
  clear e
  obtain ⟨u, rfl⟩ := h.lay
  clear h
  conv => arg 2; whnf
  go_wp2
  exact ⟨rfl, rfl, rfl, rfl, rfl, rfl, rfl, rfl, rfl, rfl, rfl, rfl, rfl, rfl, rfl, rfl, rfl, rfl, rfl, rfl, rfl, rfl, rfl, rfl⟩

set_option maxRecDepth 20000 in
set_option maxHeartbeats 4000000 in
theorem k1011 {i cn : Nat} {b : Bool} (hi : i < n) (hn : n ≤ 1000) (hcn : cn ≤ 1000) (c1 : w.cell? ⟨gd, i, none⟩ = some (.bool b)) (h : Fh v0 v1 v5 v6 v7 v8 (.int .i64 cn) v12 v13 v15 v16 v17 v18 v19 (.slice (some ⟨gd, 0, none⟩) n n) v66 (.int .i64 i) v82 v83 v84 v192 v193 a) (hQ : ∀ a', Fh v0 v1 v5 v6 v7 v8 (.int .i64 ((if b = true then cn else cn + 1 : Nat) : Int)) v12 v13 v15 v16 v17 v18 v19 (.slice (some ⟨gd, 0, none⟩) n n) v66 (.int .i64 i) v82 v83 v84 v192 v193 a' → Q .normal a' w) : Code.wp Yba.prog (pc3 [1, 1, 1, 1, 1, 1, 0, 1, 0, 0, 1, 1, 0, 0]) Q a w := by
  cases b with
  | true =>
    obtain ⟨u, rfl⟩ := h.lay
    clear h
    conv => arg 2; whnf
    go_wp2
    exact ⟨rfl, rfl, rfl, rfl, rfl, rfl, rfl, rfl, rfl, rfl, rfl, rfl, rfl, rfl, rfl, rfl, rfl, rfl, rfl, rfl, rfl, rfl, rfl, rfl⟩
  | false =>
    have e : ((cn + 1 : Nat) : Int) = (cn : Int) + 1 := by omega
    rw [if_neg (by simp)] at hQ
    rw [e] at hQ
    clear e
    obtain ⟨u, rfl⟩ := h.lay
    clear h
    conv => arg 2; whnf
    go_wp2
    exact ⟨rfl, rfl, rfl, rfl, rfl, rfl, rfl, rfl, rfl, rfl, rfl, rfl, rfl, rfl, rfl, rfl, rfl, rfl, rfl, rfl, rfl, rfl, rfl, rfl⟩

set_option maxRecDepth 20000 in
set_option maxHeartbeats 4000000 in
theorem k14  (h : Fh v0 v1 v5 v6 v7 (.int .i64 c) (.int .i64 c) v12 v13 v15 v16 v17 v18 v19 v65 v66 v67 v82 v83 v84 v192 v193 a) (hQ : ∀ a', Fh v0 v1 v5 v6 v7 (.int .i64 c) (.int .i64 c) v12 v13 v15 v16 v17 v18 v19 v65 v66 v67 v82 v83 v84 v192 v193 a' → a'.tmps.getD 78 undef = .bool false → Q .normal a' w) : Code.wp Yba.prog (pc3 [1, 1, 1, 1, 1, 1, 1, 0, 0]) Q a w := by
  obtain ⟨u, rfl⟩ := h.lay
  clear h
  conv => arg 2; whnf
  go_wp2
  exact hQ _ ⟨rfl, rfl, rfl, rfl, rfl, rfl, rfl, rfl, rfl, rfl, rfl, rfl, rfl, rfl, rfl, rfl, rfl, rfl, rfl, rfl, rfl, rfl, rfl, rfl⟩ (by first | rfl | simp)

set_option maxRecDepth 20000 in
set_option maxHeartbeats 4000000 in
theorem k16  (h : Fh v0 v1 v5 v6 v7 v8 v9 v12 v13 v15 v16 v17 v18 v19 v65 v66 v67 v82 v83 v84 v192 v193 a) (hQ : ∀ a', Fh v0 v1 v5 v6 v7 v8 v9 (.int .i64 ((0 : Nat) : Int)) v13 v15 v16 v17 v18 v19 v65 v66 v67 v82 v83 v84 v192 v193 a' → Q .normal a' w) : Code.wp Yba.prog (pc3 [1, 1, 1, 1, 1, 1, 1, 1, 0]) Q a w := by
  obtain ⟨u, rfl⟩ := h.lay
  clear h
  conv => arg 2; whnf
  go_wp2
  exact ⟨rfl, rfl, rfl, rfl, rfl, rfl, rfl, rfl, rfl, rfl, rfl, rfl, rfl, rfl, rfl, rfl, rfl, rfl, rfl, rfl, rfl, rfl, rfl, rfl⟩

set_option maxRecDepth 20000 in
set_option maxHeartbeats 4000000 in
theorem k17  (h : Fh v0 v1 v5 v6 v7 v8 v9 v12 v13 v15 v16 v17 v18 v19 v65 v66 v67 v82 v83 v84 v192 v193 a) (hQ : ∀ a', Fh v0 v1 v5 v6 v7 v8 v9 v12 (.int .i64 ((0 : Nat) : Int)) v15 v16 v17 v18 v19 v65 v66 v67 v82 v83 v84 v192 v193 a' → Q .normal a' w) : Code.wp Yba.prog (pc3 [1, 1, 1, 1, 1, 1, 1, 1, 1, 0]) Q a w := by
  obtain ⟨u, rfl⟩ := h.lay
  clear h
  conv => arg 2; whnf
  go_wp2
  exact ⟨rfl, rfl, rfl, rfl, rfl, rfl, rfl, rfl, rfl, rfl, rfl, rfl, rfl, rfl, rfl, rfl, rfl, rfl, rfl, rfl, rfl, rfl, rfl, rfl⟩

set_option maxRecDepth 20000 in
set_option maxHeartbeats 4000000 in
theorem k18 {io : Option Addr} {ni ic : Nat} (c5 : w.cell? ⟨Wb, 5, none⟩ = some (.slice io ni ic)) (h : Fh v0 v1 (.pointer (some ⟨Wb, 0, none⟩)) v6 v7 v8 v9 v12 v13 v15 v16 v17 v18 v19 v65 v66 v67 v82 v83 v84 v192 v193 a) (hQ : ∀ a', Fh v0 v1 (.pointer (some ⟨Wb, 0, none⟩)) v6 v7 v8 v9 v12 v13 v15 v16 v17 v18 v19 v65 v66 v67 (.slice io ni ic) (.int .i64 ni) (.int .i64 ((0 : Nat) : Int)) v192 v193 a' → Q .normal a' w) : Code.wp Yba.prog (pc3 [1, 1, 1, 1, 1, 1, 1, 1, 1, 1, 0, 0]) Q a w := by
  obtain ⟨u, rfl⟩ := h.lay
  clear h
  conv => arg 2; whnf
  go_wp2
  exact ⟨rfl, rfl, rfl, rfl, rfl, rfl, rfl, rfl, rfl, rfl, rfl, rfl, rfl, rfl, rfl, rfl, rfl, rfl, rfl, rfl, rfl, rfl, rfl, rfl⟩

end Go.Proofs.Ybulkacye
