import Derived.Test.YbulkacyeFr
import Derived.Test.YbulkacyeFLoop
import Derived.Test.YbulkacyeMem
import Derived.BigQuiet
namespace Go.Proofs.Ybulkacye
open Go.RowKit Go.Maps Go.Proofs.Ybulkacye.Lcs
set_option linter.unusedVariables false
set_option linter.unusedSectionVars false
variable {v0 v1 v5 v6 v11 v12 v13 v18 v19 v22 v29 v30 v31 v57 v58 v59 v83 v84 v85 v115 v116 v117 : Value} {a : Act} {Q : Exit → Act → World → Prop} {w : World} {base bm gi gn : Nat} {ao bo : Option Addr} {ca cb : Nat} {A B ks : List ByteArray}

/-- The frame of function 18 by its variables. -/
structure Fm (v0 v1 v5 v6 v11 v12 v13 v18 v19 v22 v29 v30 v31 v57 v58 v59 v83 v84 v85 v115 v116 v117 : Value) (a : Act) : Prop where
  sz : a.tmps.size = 144
  df : a.defers = []
  e0 : a.tmps.getD 0 undef = v0
  e1 : a.tmps.getD 1 undef = v1
  e5 : a.tmps.getD 5 undef = v5
  e6 : a.tmps.getD 6 undef = v6
  e11 : a.tmps.getD 11 undef = v11
  e12 : a.tmps.getD 12 undef = v12
  e13 : a.tmps.getD 13 undef = v13
  e18 : a.tmps.getD 18 undef = v18
  e19 : a.tmps.getD 19 undef = v19
  e22 : a.tmps.getD 22 undef = v22
  e29 : a.tmps.getD 29 undef = v29
  e30 : a.tmps.getD 30 undef = v30
  e31 : a.tmps.getD 31 undef = v31
  e57 : a.tmps.getD 57 undef = v57
  e58 : a.tmps.getD 58 undef = v58
  e59 : a.tmps.getD 59 undef = v59
  e83 : a.tmps.getD 83 undef = v83
  e84 : a.tmps.getD 84 undef = v84
  e85 : a.tmps.getD 85 undef = v85
  e115 : a.tmps.getD 115 undef = v115
  e116 : a.tmps.getD 116 undef = v116
  e117 : a.tmps.getD 117 undef = v117

set_option maxRecDepth 100000 in
theorem Fm_range (g : Nat → Value) : (List.range 144).map g = (g 0 :: g 1 :: g 2 :: g 3 :: g 4 :: g 5 :: g 6 :: g 7 :: g 8 :: g 9 :: g 10 :: g 11 :: g 12 :: g 13 :: g 14 :: g 15 :: g 16 :: g 17 :: g 18 :: g 19 :: g 20 :: g 21 :: g 22 :: g 23 :: g 24 :: g 25 :: g 26 :: g 27 :: g 28 :: g 29 :: g 30 :: g 31 :: g 32 :: g 33 :: g 34 :: g 35 :: g 36 :: g 37 :: g 38 :: g 39 :: g 40 :: g 41 :: g 42 :: g 43 :: g 44 :: g 45 :: g 46 :: g 47 :: g 48 :: g 49 :: g 50 :: g 51 :: g 52 :: g 53 :: g 54 :: g 55 :: g 56 :: g 57 :: g 58 :: g 59 :: g 60 :: g 61 :: g 62 :: g 63 :: g 64 :: g 65 :: g 66 :: g 67 :: g 68 :: g 69 :: g 70 :: g 71 :: g 72 :: g 73 :: g 74 :: g 75 :: g 76 :: g 77 :: g 78 :: g 79 :: g 80 :: g 81 :: g 82 :: g 83 :: g 84 :: g 85 :: g 86 :: g 87 :: g 88 :: g 89 :: g 90 :: g 91 :: g 92 :: g 93 :: g 94 :: g 95 :: g 96 :: g 97 :: g 98 :: g 99 :: g 100 :: g 101 :: g 102 :: g 103 :: g 104 :: g 105 :: g 106 :: g 107 :: g 108 :: g 109 :: g 110 :: g 111 :: g 112 :: g 113 :: g 114 :: g 115 :: g 116 :: g 117 :: g 118 :: g 119 :: g 120 :: g 121 :: g 122 :: g 123 :: g 124 :: g 125 :: g 126 :: g 127 :: g 128 :: g 129 :: g 130 :: g 131 :: g 132 :: g 133 :: g 134 :: g 135 :: g 136 :: g 137 :: g 138 :: g 139 :: g 140 :: g 141 :: g 142 :: g 143 :: []) := by
  kernel_rfl

set_option maxRecDepth 100000 in
theorem Fm.lay {v0 v1 v5 v6 v11 v12 v13 v18 v19 v22 v29 v30 v31 v57 v58 v59 v83 v84 v85 v115 v116 v117 : Value} {a : Act} (h : Fm v0 v1 v5 v6 v11 v12 v13 v18 v19 v22 v29 v30 v31 v57 v58 v59 v83 v84 v85 v115 v116 v117 a) : ∃ u : Nat → Value, a = ⟨List.toArray (v0 :: v1 :: u 2 :: u 3 :: u 4 :: v5 :: v6 :: u 7 :: u 8 :: u 9 :: u 10 :: v11 :: v12 :: v13 :: u 14 :: u 15 :: u 16 :: u 17 :: v18 :: v19 :: u 20 :: u 21 :: v22 :: u 23 :: u 24 :: u 25 :: u 26 :: u 27 :: u 28 :: v29 :: v30 :: v31 :: u 32 :: u 33 :: u 34 :: u 35 :: u 36 :: u 37 :: u 38 :: u 39 :: u 40 :: u 41 :: u 42 :: u 43 :: u 44 :: u 45 :: u 46 :: u 47 :: u 48 :: u 49 :: u 50 :: u 51 :: u 52 :: u 53 :: u 54 :: u 55 :: u 56 :: v57 :: v58 :: v59 :: u 60 :: u 61 :: u 62 :: u 63 :: u 64 :: u 65 :: u 66 :: u 67 :: u 68 :: u 69 :: u 70 :: u 71 :: u 72 :: u 73 :: u 74 :: u 75 :: u 76 :: u 77 :: u 78 :: u 79 :: u 80 :: u 81 :: u 82 :: v83 :: v84 :: v85 :: u 86 :: u 87 :: u 88 :: u 89 :: u 90 :: u 91 :: u 92 :: u 93 :: u 94 :: u 95 :: u 96 :: u 97 :: u 98 :: u 99 :: u 100 :: u 101 :: u 102 :: u 103 :: u 104 :: u 105 :: u 106 :: u 107 :: u 108 :: u 109 :: u 110 :: u 111 :: u 112 :: u 113 :: u 114 :: v115 :: v116 :: v117 :: u 118 :: u 119 :: u 120 :: u 121 :: u 122 :: u 123 :: u 124 :: u 125 :: u 126 :: u 127 :: u 128 :: u 129 :: u 130 :: u 131 :: u 132 :: u 133 :: u 134 :: u 135 :: u 136 :: u 137 :: u 138 :: u 139 :: u 140 :: u 141 :: u 142 :: u 143 :: []), []⟩ := by
  obtain ⟨⟨l⟩, df⟩ := a
  obtain ⟨sz, hd, e0, e1, e5, e6, e11, e12, e13, e18, e19, e22, e29, e30, e31, e57, e58, e59, e83, e84, e85, e115, e116, e117⟩ := h
  have hd' : df = [] := hd
  have hl : l = (l.getD 0 undef :: l.getD 1 undef :: l.getD 2 undef :: l.getD 3 undef :: l.getD 4 undef :: l.getD 5 undef :: l.getD 6 undef :: l.getD 7 undef :: l.getD 8 undef :: l.getD 9 undef :: l.getD 10 undef :: l.getD 11 undef :: l.getD 12 undef :: l.getD 13 undef :: l.getD 14 undef :: l.getD 15 undef :: l.getD 16 undef :: l.getD 17 undef :: l.getD 18 undef :: l.getD 19 undef :: l.getD 20 undef :: l.getD 21 undef :: l.getD 22 undef :: l.getD 23 undef :: l.getD 24 undef :: l.getD 25 undef :: l.getD 26 undef :: l.getD 27 undef :: l.getD 28 undef :: l.getD 29 undef :: l.getD 30 undef :: l.getD 31 undef :: l.getD 32 undef :: l.getD 33 undef :: l.getD 34 undef :: l.getD 35 undef :: l.getD 36 undef :: l.getD 37 undef :: l.getD 38 undef :: l.getD 39 undef :: l.getD 40 undef :: l.getD 41 undef :: l.getD 42 undef :: l.getD 43 undef :: l.getD 44 undef :: l.getD 45 undef :: l.getD 46 undef :: l.getD 47 undef :: l.getD 48 undef :: l.getD 49 undef :: l.getD 50 undef :: l.getD 51 undef :: l.getD 52 undef :: l.getD 53 undef :: l.getD 54 undef :: l.getD 55 undef :: l.getD 56 undef :: l.getD 57 undef :: l.getD 58 undef :: l.getD 59 undef :: l.getD 60 undef :: l.getD 61 undef :: l.getD 62 undef :: l.getD 63 undef :: l.getD 64 undef :: l.getD 65 undef :: l.getD 66 undef :: l.getD 67 undef :: l.getD 68 undef :: l.getD 69 undef :: l.getD 70 undef :: l.getD 71 undef :: l.getD 72 undef :: l.getD 73 undef :: l.getD 74 undef :: l.getD 75 undef :: l.getD 76 undef :: l.getD 77 undef :: l.getD 78 undef :: l.getD 79 undef :: l.getD 80 undef :: l.getD 81 undef :: l.getD 82 undef :: l.getD 83 undef :: l.getD 84 undef :: l.getD 85 undef :: l.getD 86 undef :: l.getD 87 undef :: l.getD 88 undef :: l.getD 89 undef :: l.getD 90 undef :: l.getD 91 undef :: l.getD 92 undef :: l.getD 93 undef :: l.getD 94 undef :: l.getD 95 undef :: l.getD 96 undef :: l.getD 97 undef :: l.getD 98 undef :: l.getD 99 undef :: l.getD 100 undef :: l.getD 101 undef :: l.getD 102 undef :: l.getD 103 undef :: l.getD 104 undef :: l.getD 105 undef :: l.getD 106 undef :: l.getD 107 undef :: l.getD 108 undef :: l.getD 109 undef :: l.getD 110 undef :: l.getD 111 undef :: l.getD 112 undef :: l.getD 113 undef :: l.getD 114 undef :: l.getD 115 undef :: l.getD 116 undef :: l.getD 117 undef :: l.getD 118 undef :: l.getD 119 undef :: l.getD 120 undef :: l.getD 121 undef :: l.getD 122 undef :: l.getD 123 undef :: l.getD 124 undef :: l.getD 125 undef :: l.getD 126 undef :: l.getD 127 undef :: l.getD 128 undef :: l.getD 129 undef :: l.getD 130 undef :: l.getD 131 undef :: l.getD 132 undef :: l.getD 133 undef :: l.getD 134 undef :: l.getD 135 undef :: l.getD 136 undef :: l.getD 137 undef :: l.getD 138 undef :: l.getD 139 undef :: l.getD 140 undef :: l.getD 141 undef :: l.getD 142 undef :: l.getD 143 undef :: []) := (list_eta l 144 sz).trans (Fm_range _)
  have e0' : l.getD 0 undef = v0 := by rw [← e0]; simp [List.getD, Array.getD_eq_getD_getElem?]
  have e1' : l.getD 1 undef = v1 := by rw [← e1]; simp [List.getD, Array.getD_eq_getD_getElem?]
  have e5' : l.getD 5 undef = v5 := by rw [← e5]; simp [List.getD, Array.getD_eq_getD_getElem?]
  have e6' : l.getD 6 undef = v6 := by rw [← e6]; simp [List.getD, Array.getD_eq_getD_getElem?]
  have e11' : l.getD 11 undef = v11 := by rw [← e11]; simp [List.getD, Array.getD_eq_getD_getElem?]
  have e12' : l.getD 12 undef = v12 := by rw [← e12]; simp [List.getD, Array.getD_eq_getD_getElem?]
  have e13' : l.getD 13 undef = v13 := by rw [← e13]; simp [List.getD, Array.getD_eq_getD_getElem?]
  have e18' : l.getD 18 undef = v18 := by rw [← e18]; simp [List.getD, Array.getD_eq_getD_getElem?]
  have e19' : l.getD 19 undef = v19 := by rw [← e19]; simp [List.getD, Array.getD_eq_getD_getElem?]
  have e22' : l.getD 22 undef = v22 := by rw [← e22]; simp [List.getD, Array.getD_eq_getD_getElem?]
  have e29' : l.getD 29 undef = v29 := by rw [← e29]; simp [List.getD, Array.getD_eq_getD_getElem?]
  have e30' : l.getD 30 undef = v30 := by rw [← e30]; simp [List.getD, Array.getD_eq_getD_getElem?]
  have e31' : l.getD 31 undef = v31 := by rw [← e31]; simp [List.getD, Array.getD_eq_getD_getElem?]
  have e57' : l.getD 57 undef = v57 := by rw [← e57]; simp [List.getD, Array.getD_eq_getD_getElem?]
  have e58' : l.getD 58 undef = v58 := by rw [← e58]; simp [List.getD, Array.getD_eq_getD_getElem?]
  have e59' : l.getD 59 undef = v59 := by rw [← e59]; simp [List.getD, Array.getD_eq_getD_getElem?]
  have e83' : l.getD 83 undef = v83 := by rw [← e83]; simp [List.getD, Array.getD_eq_getD_getElem?]
  have e84' : l.getD 84 undef = v84 := by rw [← e84]; simp [List.getD, Array.getD_eq_getD_getElem?]
  have e85' : l.getD 85 undef = v85 := by rw [← e85]; simp [List.getD, Array.getD_eq_getD_getElem?]
  have e115' : l.getD 115 undef = v115 := by rw [← e115]; simp [List.getD, Array.getD_eq_getD_getElem?]
  have e116' : l.getD 116 undef = v116 := by rw [← e116]; simp [List.getD, Array.getD_eq_getD_getElem?]
  have e117' : l.getD 117 undef = v117 := by rw [← e117]; simp [List.getD, Array.getD_eq_getD_getElem?]
  refine ⟨fun i => l.getD i undef, ?_⟩
  rw [hd', ← e0', ← e1', ← e5', ← e6', ← e11', ← e12', ← e13', ← e18', ← e19', ← e22', ← e29', ← e30', ← e31', ← e57', ← e58', ← e59', ← e83', ← e84', ← e85', ← e115', ← e116', ← e117']
  exact congrArg (fun x => (⟨⟨x⟩, []⟩ : Act)) hl
noncomputable def pc18 (l : List Nat) : Code := sub l (Yba.f18.body.getD .skip)
theorem take_succ' {α : Type} {l : List α} {i : Nat} {s : α} (h : l[i]? = some s) : l.take (i + 1) = l.take i ++ [s] := by
  obtain ⟨hi, rfl⟩ := List.getElem?_eq_some_iff.1 h
  exact List.take_succ_eq_append_getElem hi
theorem row_step {ks ks' l : List ByteArray} {i N : Nat} {s : ByteArray} (h : l[i]? = some s) (hN : l.length = N) (hk : ∀ t ∈ l.take i, idx ks' t = idx ks t) :
    ((l.take i).map (idx ks) ++ List.replicate (N - i) (0 : Int)).set i (idx ks' s) = (l.take (i + 1)).map (idx ks') ++ List.replicate (N - (i + 1)) 0 := by
  have hi := (List.getElem?_eq_some_iff.1 h).1
  have e1 : (l.take i).map (idx ks) = (l.take i).map (idx ks') := List.map_congr_left (fun t ht => (hk t ht).symm)
  have e2 : N - i = (N - (i + 1)) + 1 := by omega
  have e3 : ((l.take i).map (idx ks')).length = i := by simp; omega
  rw [e1, take_succ' h, List.map_append, e2, List.replicate_succ, List.set_append, if_neg (by omega), e3, Nat.sub_self]
  simp

set_option maxRecDepth 20000 in
set_option maxHeartbeats 4000000 in
theorem co1 (hl : A.length ≤ 1000) (hsz : ∀ s ∈ A, s.size ≤ 1000) (hst : Strs base w ao A) (hbw : base ≤ w.heap.size) (hb1 : base ≤ bm) (hb2 : base ≤ gi) (hne : bm ≠ gi) (h : Fm v0 v1 (.map (some bm)) (.slice (some ⟨gi, 0, none⟩) A.length A.length) v11 v12 v13 v18 v19 v22 (.slice ao A.length ca) (.int .i64 A.length) (.int .i64 0) v57 v58 v59 v83 v84 v85 v115 v116 v117 a) (hm : MapIs w bm 0 []) (hr : RowI w gi (List.replicate A.length 0))
    (hQ : ∀ n ks v31 w' a', Fm v0 v1 (.map (some bm)) (.slice (some ⟨gi, 0, none⟩) A.length A.length) v11 v12 v13 v18 v19 v22 (.slice ao A.length ca) (.int .i64 A.length) v31 v57 v58 v59 v83 v84 v85 v115 v116 v117 a' → n ≤ 1000 → MapIs w' bm n ks → (∀ s, s ∈ ks ↔ s ∈ A) → RowI w' gi (A.map (idx ks)) → Only w w' [bm, gi] → Q .normal a' w') : Code.wp Yba.prog (pc18 [1, 1, 1, 0, 1]) Q a w := by
  have hbml := hm.lt
  have hgil := hr.lt
  show Code.wp Yba.prog (Code.block 0 (Code.loop (pc18 [1, 1, 1, 0, 1, 0, 0]))) Q a w
  refine wp_block (wp_loop (fun a' w' => ∃ (i n : Nat) (ks : List ByteArray), Fm v0 v1 (.map (some bm)) (.slice (some ⟨gi, 0, none⟩) A.length A.length) v11 v12 v13 v18 v19 v22 (.slice ao A.length ca) (.int .i64 A.length) (.int .i64 i) v57 v58 v59 v83 v84 v85 v115 v116 v117 a' ∧ i ≤ A.length ∧ n ≤ i ∧ MapIs w' bm n ks ∧ (∀ s, s ∈ ks ↔ s ∈ A.take i) ∧ RowI w' gi ((A.take i).map (idx ks) ++ List.replicate (A.length - i) 0) ∧ Only w w' [bm, gi]) (fun a' _ => (1000 - intOf (a'.tmps.getD 31 undef)).toNat) ⟨0, 0, [], h, Nat.zero_le _, Nat.le_refl _, hm, by simp, by simpa using hr, Only.refl _ _⟩ ?_)
  clear h hm hr
  rintro a2 w2 ⟨i, n, ks, h, hi, hn, hm, hks, hr, hO⟩
  have hμ : (1000 - intOf (a2.tmps.getD 31 undef)).toNat = (1000 - (i : Int)).toNat := by rw [h.e31]; rfl
  rw [hμ]
  clear hμ
  have hst2 := hst.only hO hbw (by simp; omega)
  by_cases hlt : i < A.length
  · obtain ⟨s, hs⟩ : ∃ s, A[i]? = some s := ⟨A[i], by simp [hlt]⟩
    obtain ⟨g, rfl, hg, hcell⟩ := hst2 i s hs
    have hsl := hsz s (List.mem_of_getElem? hs)
    have hkey : keyOf Yba.prog 9 (.string s) = some (key s) := Go.WideMaps.keyOf_string_mk Yba.underlying9 (by unfold maxLen; omega)
    have htk : A.take (i + 1) = A.take i ++ [s] := take_succ' hs
    obtain ⟨D, hown, hDs, hD⟩ := hm
    obtain ⟨hh1, hh2⟩ := hD s
    have hrl : i < ((A.take i).map (idx ks) ++ List.replicate (A.length - i) (0 : Int)).length := by simp; omega
    obtain ⟨u0, hu0⟩ : ∃ u0, ((A.take i).map (idx ks) ++ List.replicate (A.length - i) (0 : Int))[i]? = some u0 := ⟨_, List.getElem?_eq_getElem hrl⟩
    obtain ⟨rc1, rc2⟩ := hr.cell hu0
    obtain ⟨W2, hW2⟩ : ∃ W2, W2 = w2 := ⟨_, rfl⟩
    subst hW2
    by_cases hin : s ∈ ks
    · have hrow := row_step (ks := ks) (ks' := ks) hs rfl (fun _ _ => rfl)
      have HR : Hid (RowI (W2.setCell ⟨gi, i, none⟩ (.int .i64 (idx ks s))) gi ((A.take (i + 1)).map (idx ks) ++ List.replicate (A.length - (i + 1)) 0)) := by
        have := hr.set i (idx ks s); rw [hrow] at this; exact this
      have HO : Hid (Only w (W2.setCell ⟨gi, i, none⟩ (.int .i64 (idx ks s))) [bm, gi]) := hO.setCell _ _ (.inl (by simp))
      have HM : Hid (MapIs (W2.setCell ⟨gi, i, none⟩ (.int .i64 (idx ks s))) bm n ks) := by
        refine MapIs.congr ⟨D, hown, hDs, hD⟩ (Below.heap_setCell _ _ _ _ hne)
      have HK : Hid (∀ t, t ∈ ks ↔ t ∈ A.take (i + 1)) := by
        intro t; rw [htk, List.mem_append, List.mem_singleton]
        constructor
        · intro g; exact .inl ((hks t).1 g)
        · rintro (g | g); exact (hks t).2 g; rw [g]; exact hin
      have hat0 := hh2 hin
      have hix : (pos ks s : Int) = idx ks s := rfl
      rw [hix] at hat0
      have hhas : Maps.has D (key s) = true := by rw [hh1, isIn_iff.2 hin]
      generalize idx ks s = z at *
      obtain ⟨u, rfl⟩ := h.lay
      clear h hQ hrow htk hks hD hDs hh1 hh2 hix hin hr hu0 hO hst2 hst hrl hs
      conv => arg 2; whnf
      go_wp2_with (first
        | (at_lookup; refine wpList_lookup_own_ok_int _ rfl _ _ 66 rfl 9 3 .i64 law9 Yba.underlying66 Yba.underlying3 (zero3 _) bm n D rfl hown _ _ rfl hkey ?_; intro c hat hwc; obtain rfl : c = z := (by rw [hat0] at hat; injection hat with hat; injection hat with _ hat; exact hat.symm); rw [hhas])
        | go_in)
      exact ⟨⟨i + 1, n, ks, ⟨rfl, rfl, rfl, rfl, rfl, rfl, rfl, rfl, rfl, rfl, rfl, rfl, rfl, rfl, rfl, rfl, rfl, rfl, rfl, rfl, rfl, rfl, rfl, rfl⟩, by omega, by omega, HM.out, HK.out, HR.out, HO.out⟩, by show (1000 - ((i : Int) + 1)).toNat < _; omega⟩
    · have hhas : Maps.has D (key s) = false := by rw [hh1, isIn_false.2 hin]
      have hkn : ks.length ≤ n := by rw [← hDs]; exact hown.size_le
      have hT := hown.tidy law9
      have hM := hown.isMap
      have hrow := row_step (ks := ks) (ks' := ks ++ [s]) hs rfl (fun t ht => by unfold idx; rw [pos_app _ ((hks t).2 ht)])
      have hix : idx (ks ++ [s]) s = (ks.length : Int) := by unfold idx; rw [pos_new hin]
      rw [hix] at hrow
      have hgl : gi < W2.heap.size := hr.lt
      have HR : Hid (∀ w1 : World, w1.heap[gi]? = W2.heap[gi]? → RowI (w1.setCell ⟨gi, i, none⟩ (.int .i64 ks.length)) gi ((A.take (i + 1)).map (idx (ks ++ [s])) ++ List.replicate (A.length - (i + 1)) 0)) := by
        intro w1 hw1
        have := (hr.congr hw1).set i (ks.length : Int); rw [hrow] at this; exact this
      have HM : Hid (∀ w1 : World, w1.ownsMap Yba.prog 9 (plainElem Yba.prog 3) bm (n + 1) (D.put (key s) (.lit (.int .i64 ks.length))) → MapIs (w1.setCell ⟨gi, i, none⟩ (.int .i64 ks.length)) bm (n + 1) (ks ++ [s])) := by
        intro w1 hw1
        exact MapIs.congr (MapIs.put hM hT hDs hD hin trivial hw1) (Below.heap_setCell _ _ _ _ hne)
      have HO : Hid (∀ w1 : World, W2.grownBy w1 (some bm) → Only w (w1.setCell ⟨gi, i, none⟩ (.int .i64 ks.length)) [bm, gi]) := by
        intro w1 hw1
        exact (hO.grown hw1 (fun k hk => .inl (by cases hk; simp))).setCell _ _ (.inl (by simp))
      have HK : Hid (∀ t, t ∈ ks ++ [s] ↔ t ∈ A.take (i + 1)) := by
        intro t; rw [htk, List.mem_append, List.mem_append, hks t]
      have HRC : Hid (∀ w1 : World, W2.grownBy w1 (some bm) → w1.heap[gi]? = W2.heap[gi]? ∧ w1.cell? ⟨gi, i, none⟩ = some (.int .i64 u0) ∧ w1.frozen? ⟨gi, i, none⟩ = false) := by
        intro w1 hw1
        have e := hw1.block gi hgl (fun e => hne (by cases e; rfl))
        exact ⟨e, (hr.congr e).cell hu0⟩
      have hfit : (Lit.int .i64 (ks.length : Int)).wf = true := WalkArith.wf_i64 (by omega)
      generalize hzz : ks.length = z at *
      obtain ⟨u, rfl⟩ := h.lay
      clear h hQ hrow htk hks hD hh1 hh2 hix hin hr hu0 hO hst2 hst hrl hs hzz
      conv => arg 2; whnf
      go_wp2_with (first
        | (at_lookup; refine wpList_lookup_own_ok_int _ rfl _ _ 66 rfl 9 3 .i64 law9 Yba.underlying66 Yba.underlying3 (zero3 _) bm n D rfl hown _ _ rfl hkey ?_; intro c hat hwc; rw [hhas])
        | (at_len; refine wpList_len_own _ rfl _ 66 rfl 9 3 Yba.underlying66 _ bm n D rfl hown ?_; rw [hDs])
        | (at_mapUpdate; refine wpList_mapUpdate_own _ rfl _ _ _ 66 rfl 9 3 law9 Yba.underlying66 _ bm n D rfl hown (by unfold maxLen; omega) _ _ _ rfl rfl hkey _ [] (plainElem_int Yba.underlying3 hfit) ?_; intro w1 hown1 hgrow1; obtain ⟨rc0, rc1, rc2⟩ := HRC.out w1 hgrow1)
        | go_in)
      exact ⟨⟨i + 1, n + 1, ks ++ [s], ⟨rfl, rfl, rfl, rfl, rfl, rfl, rfl, rfl, rfl, rfl, rfl, rfl, rfl, rfl, rfl, rfl, rfl, rfl, rfl, rfl, rfl, rfl, rfl, rfl⟩, by omega, by omega, HM.out _ hown1, HK.out, HR.out _ rc0, HO.out _ hgrow1⟩, by show (1000 - ((i : Int) + 1)).toNat < _; omega⟩
  · have hie : i = A.length := by omega
    subst hie
    have hQ1 := fun v31 w' a' h1 h2 h3 h4 => hQ n ks v31 w' a' h1 (by omega) h2 (fun s => by rw [hks s, List.take_length]) h3 h4
    rw [List.take_length, Nat.sub_self, List.replicate_zero, List.append_nil] at hr
    obtain ⟨u, rfl⟩ := h.lay
    clear h hQ hks
    conv => arg 2; whnf
    go_wp2
    exact hQ1 _ _ _ ⟨rfl, rfl, rfl, rfl, rfl, rfl, rfl, rfl, rfl, rfl, rfl, rfl, rfl, rfl, rfl, rfl, rfl, rfl, rfl, rfl, rfl, rfl, rfl, rfl⟩ hm hr hO

end Go.Proofs.Ybulkacye
