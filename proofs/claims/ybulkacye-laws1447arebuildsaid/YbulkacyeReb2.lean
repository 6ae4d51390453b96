import Derived.Test.YbulkacyeReb
namespace Go.Proofs.Ybulkacye
open Go.RowKit Go.Proofs.Ybulkacye.Lcs
set_option linter.unusedVariables false
set_option linter.unusedSectionVars false
variable {v0 v1 v5 v6 v7 v8 v9 v12 v13 v15 v16 v17 v18 v19 v65 v66 v67 v82 v83 v84 v192 v193 : Value} {a : Act} {Q : Exit → Act → World → Prop} {w : World} {Wb gl gd gi go : Nat} {n m c : Nat} {ao bo : Option Addr} {ca cb : Nat} {bs ns : List UInt8} {oo : Option Addr} {oc : Nat}

set_option maxRecDepth 20000 in
set_option maxHeartbeats 4000000 in
theorem k20 {k ni ic lo ln lc be pv s : Nat} (hk : k < ni) (hni : ni ≤ 1000) (hl : 0 < ln) (hl2 : ln ≤ 1000) (hs : s ≤ 1000) (h1 : pv ≤ be) (h2 : be ≤ n) (hn : n ≤ 1000) (c1 : w.cell? ⟨gi, k * 2, none⟩ = some (.int .i64 (be : Int))) (c2 : w.cell? ⟨gi, k * 2 + 1, none⟩ = some (.slice (some ⟨gl, lo, none⟩) ln lc)) (h : Fh v0 v1 v5 (.slice oo n oc) v7 v8 v9 (.int .i64 s) (.int .i64 pv) v15 v16 v17 v18 v19 v65 v66 v67 (.slice (some ⟨gi, 0, none⟩) ni ic) v83 (.int .i64 k) v192 v193 a) (hQ : ∀ a', Fh v0 v1 v5 (.slice oo n oc) v7 v8 v9 (.int .i64 ((s + ln : Nat) : Int)) (.int .i64 be) (.pointer (some ⟨w.heap.size, 0, none⟩)) v16 v17 v18 v19 v65 v66 v67 (.slice (some ⟨gi, 0, none⟩) ni ic) v83 (.int .i64 k) v192 v193 a' → Q .normal a' (w.alloc (.cells #[.int .i64 (be : Int), (.slice (some ⟨gl, lo, none⟩) ln lc)] 34))) : Code.wp Yba.prog (pc3 [1, 1, 1, 1, 1, 1, 1, 1, 1, 1, 0, 1, 0, 0, 1, 1, 0, 0]) Q a w := by
  have e : ((s + ln : Nat) : Int) = (s : Int) + ln := by omega
  rw [e] at hQ
  clear e
  have d0 : ¬ ((ln : Int) = 0) := by omega
  have d1 : decide ((be : Int) < pv) = false := decide_eq_false (by omega)
  have d2 : decide ((n : Int) < be) = false := decide_eq_false (by omega)
  have d3 : ((ln : Int) == 0) = false := by simp; omega
  obtain ⟨u, rfl⟩ := h.lay
  clear h
  conv => arg 2; whnf
  go_wp2
  exact ⟨rfl, rfl, rfl, rfl, rfl, rfl, rfl, rfl, rfl, rfl, rfl, rfl, rfl, rfl, rfl, rfl, rfl, rfl, rfl, rfl, rfl, rfl, rfl, rfl⟩

set_option maxRecDepth 20000 in
set_option maxHeartbeats 4000000 in
theorem k26 {s : Nat} (hs : s + c = m) (hm : m ≤ 1000) (h : Fh v0 v1 v5 v6 (.slice (some ⟨gl, 0, none⟩) m m) (.int .i64 c) v9 (.int .i64 s) v13 v15 v16 v17 v18 v19 v65 v66 v67 v82 v83 v84 v192 v193 a) (hQ : ∀ a', Fh v0 v1 v5 v6 (.slice (some ⟨gl, 0, none⟩) m m) (.int .i64 c) v9 (.int .i64 s) v13 v15 v16 v17 v18 v19 v65 v66 v67 v82 v83 v84 v192 v193 a' → a'.tmps.getD 118 undef = .bool false → Q .normal a' w) : Code.wp Yba.prog (pc3 [1, 1, 1, 1, 1, 1, 1, 1, 1, 1, 1, 0, 0]) Q a w := by
  have e : (m : Int) - c = s := by omega
  obtain ⟨u, rfl⟩ := h.lay
  clear h
  conv => arg 2; whnf
  go_wp2
  exact hQ _ ⟨rfl, rfl, rfl, rfl, rfl, rfl, rfl, rfl, rfl, rfl, rfl, rfl, rfl, rfl, rfl, rfl, rfl, rfl, rfl, rfl, rfl, rfl, rfl, rfl⟩ (by first | rfl | simp)

set_option maxRecDepth 20000 in
set_option maxHeartbeats 4000000 in
theorem k28  (h : Fh v0 v1 v5 v6 v7 v8 v9 v12 v13 v15 v16 v17 v18 v19 v65 v66 v67 v82 v83 v84 v192 v193 a) (hQ : ∀ a', Fh v0 v1 v5 v6 v7 v8 v9 v12 v13 v15 (.slice none 0 0) v17 v18 v19 v65 v66 v67 v82 v83 v84 v192 v193 a' → Q .normal a' w) : Code.wp Yba.prog (pc3 [1, 1, 1, 1, 1, 1, 1, 1, 1, 1, 1, 1, 0]) Q a w := by
  obtain ⟨u, rfl⟩ := h.lay
  clear h
  conv => arg 2; whnf
  go_wp2
  exact ⟨rfl, rfl, rfl, rfl, rfl, rfl, rfl, rfl, rfl, rfl, rfl, rfl, rfl, rfl, rfl, rfl, rfl, rfl, rfl, rfl, rfl, rfl, rfl, rfl⟩

set_option maxRecDepth 20000 in
set_option maxHeartbeats 4000000 in
theorem k29  (h : Fh v0 v1 v5 v6 v7 v8 v9 v12 v13 v15 v16 v17 v18 v19 v65 v66 v67 v82 v83 v84 v192 v193 a) (hQ : ∀ a', Fh v0 v1 v5 v6 v7 v8 v9 v12 v13 v15 v16 (.int .i64 ((0 : Nat) : Int)) v18 v19 v65 v66 v67 v82 v83 v84 v192 v193 a' → Q .normal a' w) : Code.wp Yba.prog (pc3 [1, 1, 1, 1, 1, 1, 1, 1, 1, 1, 1, 1, 1, 0]) Q a w := by
  obtain ⟨u, rfl⟩ := h.lay
  clear h
  conv => arg 2; whnf
  go_wp2
  exact ⟨rfl, rfl, rfl, rfl, rfl, rfl, rfl, rfl, rfl, rfl, rfl, rfl, rfl, rfl, rfl, rfl, rfl, rfl, rfl, rfl, rfl, rfl, rfl, rfl⟩

set_option maxRecDepth 20000 in
set_option maxHeartbeats 4000000 in
theorem k30  (h : Fh v0 v1 v5 v6 v7 v8 v9 v12 v13 v15 v16 v17 v18 v19 v65 v66 v67 v82 v83 v84 v192 v193 a) (hQ : ∀ a', Fh v0 v1 v5 v6 v7 v8 v9 v12 v13 v15 v16 v17 (.int .i64 ((0 : Nat) : Int)) v19 v65 v66 v67 v82 v83 v84 v192 v193 a' → Q .normal a' w) : Code.wp Yba.prog (pc3 [1, 1, 1, 1, 1, 1, 1, 1, 1, 1, 1, 1, 1, 1, 0, 0]) Q a w := by
  obtain ⟨u, rfl⟩ := h.lay
  clear h
  conv => arg 2; whnf
  go_wp2
  exact ⟨rfl, rfl, rfl, rfl, rfl, rfl, rfl, rfl, rfl, rfl, rfl, rfl, rfl, rfl, rfl, rfl, rfl, rfl, rfl, rfl, rfl, rfl, rfl, rfl⟩

set_option maxRecDepth 20000 in
set_option maxHeartbeats 4000000 in
theorem kh31 {j : Nat} (h : Fh v0 v1 v5 (.slice oo n oc) v7 v8 v9 v12 v13 v15 v16 v17 (.int .i64 j) v19 v65 v66 v67 v82 v83 v84 v192 v193 a) (hE : ¬ j ≤ n → ∀ a', Fh v0 v1 v5 (.slice oo n oc) v7 v8 v9 v12 v13 v15 v16 v17 (.int .i64 j) v19 v65 v66 v67 v82 v83 v84 v192 v193 a' → Q (.exit 4) a' w) (hQ : j ≤ n → ∀ a', Fh v0 v1 v5 (.slice oo n oc) v7 v8 v9 v12 v13 v15 v16 v17 (.int .i64 j) v19 v65 v66 v67 v82 v83 v84 v192 v193 a' → Q .normal a' w) : Code.wp Yba.prog (pc3 [1, 1, 1, 1, 1, 1, 1, 1, 1, 1, 1, 1, 1, 1, 0, 1, 0, 0, 0]) Q a w := by
  obtain ⟨u, rfl⟩ := h.lay
  clear h
  by_cases c : j ≤ n
  · have hQ := hQ c
    clear hE
    conv => arg 2; whnf
    go_wp2
    exact ⟨rfl, rfl, rfl, rfl, rfl, rfl, rfl, rfl, rfl, rfl, rfl, rfl, rfl, rfl, rfl, rfl, rfl, rfl, rfl, rfl, rfl, rfl, rfl, rfl⟩
  · have hE := hE c
    clear hQ
    conv => arg 2; whnf
    go_wp2
    exact ⟨rfl, rfl, rfl, rfl, rfl, rfl, rfl, rfl, rfl, rfl, rfl, rfl, rfl, rfl, rfl, rfl, rfl, rfl, rfl, rfl, rfl, rfl, rfl, rfl⟩
set_option maxRecDepth 20000 in
set_option maxHeartbeats 4000000 in
theorem k33T {k j ni ic : Nat} (c5 : w.cell? ⟨Wb, 5, none⟩ = some (.slice (some ⟨gi, 0, none⟩) ni ic)) (hk : k < ni) (hni : ni ≤ 1000) (c1 : w.cell? ⟨gi, k * 2, none⟩ = some (.int .i64 (j : Int))) (h : Fh v0 v1 (.pointer (some ⟨Wb, 0, none⟩)) v6 v7 v8 v9 v12 v13 v15 v16 (.int .i64 k) (.int .i64 j) v19 v65 v66 v67 v82 v83 v84 v192 v193 a) (hQ : ∀ a', Fh v0 v1 (.pointer (some ⟨Wb, 0, none⟩)) v6 v7 v8 v9 v12 v13 v15 v16 (.int .i64 k) (.int .i64 j) v19 v65 v66 v67 v82 v83 v84 v192 v193 a' → Q .normal a' w) : Code.wp Yba.prog (pc3 [1, 1, 1, 1, 1, 1, 1, 1, 1, 1, 1, 1, 1, 1, 0, 1, 0, 0, 1, 0, 0, 0, 0, 0, 0]) Q a w := by
  obtain ⟨u, rfl⟩ := h.lay
  clear h
  conv => arg 2; whnf
  go_wp2
  exact ⟨rfl, rfl, rfl, rfl, rfl, rfl, rfl, rfl, rfl, rfl, rfl, rfl, rfl, rfl, rfl, rfl, rfl, rfl, rfl, rfl, rfl, rfl, rfl, rfl⟩

set_option maxRecDepth 20000 in
set_option maxHeartbeats 4000000 in
theorem k33F {k j ni ic : Nat} (c5 : w.cell? ⟨Wb, 5, none⟩ = some (.slice (some ⟨gi, 0, none⟩) ni ic)) (hk : k < ni) (hni : ni ≤ 1000) {be : Nat} (hb : be ≠ j) (c1 : w.cell? ⟨gi, k * 2, none⟩ = some (.int .i64 (be : Int))) (h : Fh v0 v1 (.pointer (some ⟨Wb, 0, none⟩)) v6 v7 v8 v9 v12 v13 v15 v16 (.int .i64 k) (.int .i64 j) v19 v65 v66 v67 v82 v83 v84 v192 v193 a) (hQ : ∀ a', Fh v0 v1 (.pointer (some ⟨Wb, 0, none⟩)) v6 v7 v8 v9 v12 v13 v15 v16 (.int .i64 k) (.int .i64 j) v19 v65 v66 v67 v82 v83 v84 v192 v193 a' → Q (.exit 6) a' w) : Code.wp Yba.prog (pc3 [1, 1, 1, 1, 1, 1, 1, 1, 1, 1, 1, 1, 1, 1, 0, 1, 0, 0, 1, 0, 0, 0, 0, 0, 0]) Q a w := by
  have d1 : ((be : Int) == (j : Int)) = false := by simp; omega
  have d2 : ¬ ((be : Int) = (j : Int)) := by omega
  obtain ⟨u, rfl⟩ := h.lay
  clear h
  conv => arg 2; whnf
  go_wp2
  exact ⟨rfl, rfl, rfl, rfl, rfl, rfl, rfl, rfl, rfl, rfl, rfl, rfl, rfl, rfl, rfl, rfl, rfl, rfl, rfl, rfl, rfl, rfl, rfl, rfl⟩

set_option maxRecDepth 20000 in
set_option maxHeartbeats 4000000 in
theorem k33N {k j ni ic : Nat} {io : Option Addr} (c5 : w.cell? ⟨Wb, 5, none⟩ = some (.slice io ni ic)) (hk : ¬ k < ni) (h : Fh v0 v1 (.pointer (some ⟨Wb, 0, none⟩)) v6 v7 v8 v9 v12 v13 v15 v16 (.int .i64 k) (.int .i64 j) v19 v65 v66 v67 v82 v83 v84 v192 v193 a) (hQ : ∀ a', Fh v0 v1 (.pointer (some ⟨Wb, 0, none⟩)) v6 v7 v8 v9 v12 v13 v15 v16 (.int .i64 k) (.int .i64 j) v19 v65 v66 v67 v82 v83 v84 v192 v193 a' → Q (.exit 6) a' w) : Code.wp Yba.prog (pc3 [1, 1, 1, 1, 1, 1, 1, 1, 1, 1, 1, 1, 1, 1, 0, 1, 0, 0, 1, 0, 0, 0, 0, 0, 0]) Q a w := by
  obtain ⟨u, rfl⟩ := h.lay
  clear h
  conv => arg 2; whnf
  go_wp2
  exact ⟨rfl, rfl, rfl, rfl, rfl, rfl, rfl, rfl, rfl, rfl, rfl, rfl, rfl, rfl, rfl, rfl, rfl, rfl, rfl, rfl, rfl, rfl, rfl, rfl⟩

set_option maxRecDepth 20000 in
set_option maxHeartbeats 4000000 in
theorem k34 {k ni ic lo ln lc base : Nat} {outv : Value} {ol sg : List ByteArray} (c5 : w.cell? ⟨Wb, 5, none⟩ = some (.slice (some ⟨gi, 0, none⟩) ni ic)) (hk : k < ni) (hni : ni ≤ 1000) (c2 : w.cell? ⟨gi, k * 2 + 1, none⟩ = some (.slice (some ⟨gl, lo, none⟩) ln lc)) (hsg : sg.length = ln) (hseg : ∀ x s, sg[x]? = some s → w.cell? ⟨gl, lo + x, none⟩ = some (.string s)) (hl : ol.length ≤ 1000) (hl2 : ln ≤ 1000) (hbw : base ≤ w.heap.size) (hown : w.ownsRow base 9 1 outv ol.length (strs ol)) (h : Fh v0 v1 (.pointer (some ⟨Wb, 0, none⟩)) v6 v7 v8 v9 v12 v13 v15 outv (.int .i64 k) v18 v19 v65 v66 v67 v82 v83 v84 v192 v193 a)
    (hQ : ∀ ov' w' a', Fh v0 v1 (.pointer (some ⟨Wb, 0, none⟩)) v6 v7 v8 v9 v12 v13 v15 ov' (.int .i64 k) v18 v19 v65 v66 v67 v82 v83 v84 v192 v193 a' → w'.ownsRow base 9 1 ov' (ol ++ sg).length (strs (ol ++ sg)) → w.grownBy w' outv.ownBlock → Q .normal a' w') : Code.wp Yba.prog (pc3 [1, 1, 1, 1, 1, 1, 1, 1, 1, 1, 1, 1, 1, 1, 0, 1, 0, 0, 1, 0, 0, 0, 0, 0, 1, 0, 0]) Q a w := by
  obtain ⟨i0, hi0, hz0, hz1, hz2⟩ := info_parts Yba.info9
  subst hsg
  have a63 : ol.length + sg.length ≤ maxLen := by unfold maxLen; omega
  have a47 : (ol.length + sg.length) * 16 ≤ 140737488355328 := by omega
  have hll : (strs sg).length = sg.length * 1 := by rw [strs_len]; omega
  have hnews : ∀ j u, (strs sg)[j]? = some u → w.cell? ((⟨gl, lo, none⟩ : Addr).add j) = some u := fun j u hu => by
    rw [Go.WideShapes.add_plain]
    unfold strs at hu
    rw [List.getElem?_map] at hu
    cases hx : sg[j]? with
    | none => rw [hx] at hu; simp at hu
    | some s => rw [hx] at hu; simp at hu; subst hu; exact hseg j s hx
  have hone : ∀ u ∈ strs sg, u.oneCell' = true := fun u hu => by
    obtain ⟨s, _, rfl⟩ := List.mem_map.1 hu
    rfl
  obtain ⟨oo1, oc1, rfl⟩ := own_slice2 hown
  obtain ⟨u, rfl⟩ := h.lay
  clear h
  conv => arg 2; whnf
  go_wp2_with (at_builtin; refine wpList_append_any _ rfl (.tmp 144) (.tmp 152) 24 24 rfl base 9 i0 _ 1 16 Yba.underlying24 hi0 hz0 hz1 hz2 rfl (.slice oo1 ol.length oc1) ol.length (strs ol) rfl hown (.slice (some ⟨gl, lo, none⟩) sg.length lc) sg.length (strs sg) rfl (Src.ofSlice _ Yba.underlying24 ⟨gl, lo, none⟩ sg.length lc (strs sg) hll hnews hone) a63 a47 hbw ?_; intro x' w1 ho1 hg1 hat1 _; obtain ⟨xo, xc, rfl⟩ := own_slice2 ho1)
  refine hQ (.slice xo (ol.length + sg.length) xc) _ _ ?_ ?_ hg1
  · exact ⟨rfl, rfl, rfl, rfl, rfl, rfl, rfl, rfl, rfl, rfl, rfl, rfl, rfl, rfl, rfl, rfl, rfl, rfl, rfl, rfl, rfl, rfl, rfl, rfl⟩
  · rw [List.length_append, show strs (ol ++ sg) = strs ol ++ strs sg from by simp [strs]]; exact ho1

set_option maxRecDepth 20000 in
set_option maxHeartbeats 4000000 in
theorem k36 {j : Nat} {b : Bool} (c4 : w.cell? ⟨Wb, 4, none⟩ = some (.slice (some ⟨gd, 0, none⟩) n n)) (hj : j < n) (hn : n ≤ 1000) (c1 : w.cell? ⟨gd, j, none⟩ = some (.bool b)) (h : Fh v0 v1 (.pointer (some ⟨Wb, 0, none⟩)) (.slice oo n oc) v7 v8 v9 v12 v13 v15 v16 v17 (.int .i64 j) v19 v65 v66 v67 v82 v83 v84 v192 v193 a) (hQ : ∀ a', Fh v0 v1 (.pointer (some ⟨Wb, 0, none⟩)) (.slice oo n oc) v7 v8 v9 v12 v13 v15 v16 v17 (.int .i64 j) v19 v65 v66 v67 v82 v83 v84 v192 v193 a' → a'.tmps.getD 169 undef = .bool (!b) → Q .normal a' w) : Code.wp Yba.prog (pc3 [1, 1, 1, 1, 1, 1, 1, 1, 1, 1, 1, 1, 1, 1, 0, 1, 0, 0, 1, 0, 0, 1, 0]) Q a w := by
  obtain ⟨u, rfl⟩ := h.lay
  clear h
  conv => arg 2; whnf
  go_wp2
  exact hQ _ ⟨rfl, rfl, rfl, rfl, rfl, rfl, rfl, rfl, rfl, rfl, rfl, rfl, rfl, rfl, rfl, rfl, rfl, rfl, rfl, rfl, rfl, rfl, rfl, rfl⟩ (by first | rfl | simp)

set_option maxRecDepth 20000 in
set_option maxHeartbeats 4000000 in
theorem k36N {j : Nat} (hj : ¬ j < n) (h : Fh v0 v1 (.pointer (some ⟨Wb, 0, none⟩)) (.slice oo n oc) v7 v8 v9 v12 v13 v15 v16 v17 (.int .i64 j) v19 v65 v66 v67 v82 v83 v84 v192 v193 a) (hQ : ∀ a', Fh v0 v1 (.pointer (some ⟨Wb, 0, none⟩)) (.slice oo n oc) v7 v8 v9 v12 v13 v15 v16 v17 (.int .i64 j) v19 v65 v66 v67 v82 v83 v84 v192 v193 a' → a'.tmps.getD 169 undef = .bool false → Q .normal a' w) : Code.wp Yba.prog (pc3 [1, 1, 1, 1, 1, 1, 1, 1, 1, 1, 1, 1, 1, 1, 0, 1, 0, 0, 1, 0, 0, 1, 0]) Q a w := by
  obtain ⟨u, rfl⟩ := h.lay
  clear h
  conv => arg 2; whnf
  go_wp2
  exact hQ _ ⟨rfl, rfl, rfl, rfl, rfl, rfl, rfl, rfl, rfl, rfl, rfl, rfl, rfl, rfl, rfl, rfl, rfl, rfl, rfl, rfl, rfl, rfl, rfl, rfl⟩ (by first | rfl | simp)

set_option maxRecDepth 20000 in
set_option maxHeartbeats 4000000 in
theorem k37 {j base : Nat} {outv : Value} {ol : List ByteArray} {s : ByteArray} (hj : j < n) (hn : n ≤ 1000) (c1 : w.cell? ⟨go, j, none⟩ = some (.string s)) (hl : ol.length ≤ 1000) (hbw : base ≤ w.heap.size) (hown : w.ownsRow base 9 1 outv ol.length (strs ol)) (h : Fh v0 v1 v5 (.slice (some ⟨go, 0, none⟩) n oc) v7 v8 v9 v12 v13 v15 outv v17 (.int .i64 j) v19 v65 v66 v67 v82 v83 v84 v192 v193 a)
    (hQ : ∀ ov' w' a', Fh v0 v1 v5 (.slice (some ⟨go, 0, none⟩) n oc) v7 v8 v9 v12 v13 v15 ov' v17 (.int .i64 j) v19 v65 v66 v67 v82 v83 v84 v192 v193 a' → w'.ownsRow base 9 1 ov' (ol ++ [s]).length (strs (ol ++ [s])) → (∃ ob, (w.alloc ob).grownBy w' outv.ownBlock) → Q .normal a' w') : Code.wp Yba.prog (pc3 [1, 1, 1, 1, 1, 1, 1, 1, 1, 1, 1, 1, 1, 1, 0, 1, 0, 0, 1, 0, 0, 1, 1, 0]) Q a w := by
  obtain ⟨i0, hi0, hz0, hz1, hz2⟩ := info_parts Yba.info9
  have a63 : ol.length + 1 ≤ maxLen := by unfold maxLen; omega
  have a47 : (ol.length + 1) * 16 ≤ 140737488355328 := by omega
  obtain ⟨oo1, oc1, rfl⟩ := own_slice2 hown
  obtain ⟨u, rfl⟩ := h.lay
  clear h
  conv => arg 2; whnf
  go_wp2_with (at_builtin; refine wpList_append_any _ rfl (.tmp 170) (.tmp 175) 24 24 rfl base 9 i0 _ 1 16 Yba.underlying24 hi0 hz0 hz1 hz2 rfl (.slice oo1 ol.length oc1) ol.length (strs ol) rfl (hown.alloc _) (.slice (some ⟨w.heap.size, 0, none⟩) 1 1) 1 [.string s] rfl (Src.ofSlice _ Yba.underlying24 ⟨w.heap.size, 0, none⟩ 1 1 [.string s] rfl (news_one' _ _ _) (by simp [Value.oneCell'])) a63 a47 (by simp; omega) ?_; intro x' w1 ho1 hg1 hat1 _; obtain ⟨xo, xc, rfl⟩ := own_slice2 ho1)
  refine hQ (.slice xo (ol.length + 1) xc) _ _ ?_ ?_ ⟨_, hg1⟩
  · exact ⟨rfl, rfl, rfl, rfl, rfl, rfl, rfl, rfl, rfl, rfl, rfl, rfl, rfl, rfl, rfl, rfl, rfl, rfl, rfl, rfl, rfl, rfl, rfl, rfl⟩
  · rw [List.length_append, show strs (ol ++ [s]) = strs ol ++ [.string s] from by simp [strs]]; exact ho1

set_option maxRecDepth 20000 in
set_option maxHeartbeats 4000000 in
theorem k38 {io xo : Option Addr} {ni ic xc : Nat} (c5 : w.cell? ⟨Wb, 5, none⟩ = some (.slice io ni ic)) (h : Fh v0 v1 (.pointer (some ⟨Wb, 0, none⟩)) v6 (.slice (some ⟨gl, 0, none⟩) m m) v8 v9 v12 v13 v15 (.slice xo m xc) (.int .i64 ni) v18 v19 v65 v66 v67 v82 v83 v84 v192 v193 a) (hQ : ∀ a', Fh v0 v1 (.pointer (some ⟨Wb, 0, none⟩)) v6 (.slice (some ⟨gl, 0, none⟩) m m) v8 v9 v12 v13 v15 (.slice xo m xc) (.int .i64 ni) v18 v19 v65 v66 v67 v82 v83 v84 v192 v193 a' → a'.tmps.getD 190 undef = .bool false → Q .normal a' w) : Code.wp Yba.prog (pc3 [1, 1, 1, 1, 1, 1, 1, 1, 1, 1, 1, 1, 1, 1, 1, 0, 0]) Q a w := by
  obtain ⟨u, rfl⟩ := h.lay
  clear h
  conv => arg 2; whnf
  go_wp2
  exact hQ _ ⟨rfl, rfl, rfl, rfl, rfl, rfl, rfl, rfl, rfl, rfl, rfl, rfl, rfl, rfl, rfl, rfl, rfl, rfl, rfl, rfl, rfl, rfl, rfl, rfl⟩ (by first | rfl | simp)

set_option maxRecDepth 20000 in
set_option maxHeartbeats 4000000 in
theorem k40 {xo : Option Addr} {xc : Nat} (h : Fh v0 v1 v5 v6 v7 v8 v9 v12 v13 v15 (.slice xo m xc) v17 v18 v19 v65 v66 v67 v82 v83 v84 v192 v193 a) (hQ : ∀ a', Fh v0 v1 v5 v6 v7 v8 v9 v12 v13 v15 (.slice xo m xc) v17 v18 v19 v65 v66 v67 v82 v83 v84 (.int .i64 m) (.int .i64 ((0 : Nat) : Int)) a' → Q .normal a' w) : Code.wp Yba.prog (pc3 [1, 1, 1, 1, 1, 1, 1, 1, 1, 1, 1, 1, 1, 1, 1, 1, 0, 0]) Q a w := by
  obtain ⟨u, rfl⟩ := h.lay
  clear h
  conv => arg 2; whnf
  go_wp2
  exact ⟨rfl, rfl, rfl, rfl, rfl, rfl, rfl, rfl, rfl, rfl, rfl, rfl, rfl, rfl, rfl, rfl, rfl, rfl, rfl, rfl, rfl, rfl, rfl, rfl⟩

set_option maxRecDepth 20000 in
set_option maxHeartbeats 4000000 in
theorem k42 {i : Nat} (h : Fh v0 v1 v5 v6 v7 v8 v9 v12 v13 v15 v16 v17 v18 v19 v65 v66 v67 v82 v83 v84 v192 (.int .i64 i) a) (hQ : ∀ a', Fh v0 v1 v5 v6 v7 v8 v9 v12 v13 v15 v16 v17 v18 (.int .i64 i) v65 v66 v67 v82 v83 v84 v192 (.int .i64 i) a' → Q .normal a' w) : Code.wp Yba.prog (pc3 [1, 1, 1, 1, 1, 1, 1, 1, 1, 1, 1, 1, 1, 1, 1, 1, 0, 1, 0, 0, 1, 1, 0, 0, 0]) Q a w := by
  obtain ⟨u, rfl⟩ := h.lay
  clear h
  conv => arg 2; whnf
  go_wp2
  exact ⟨rfl, rfl, rfl, rfl, rfl, rfl, rfl, rfl, rfl, rfl, rfl, rfl, rfl, rfl, rfl, rfl, rfl, rfl, rfl, rfl, rfl, rfl, rfl, rfl⟩

set_option maxRecDepth 20000 in
set_option maxHeartbeats 4000000 in
theorem k43 {i : Nat} {s : ByteArray} (hi : i < m) (hm : m ≤ 1000) (c1 : w.cell? ⟨go, i, none⟩ = some (.string s)) (c2 : w.cell? ⟨gl, i, none⟩ = some (.string s)) (h : Fh v0 v1 v5 v6 (.slice (some ⟨gl, 0, none⟩) m m) v8 v9 v12 v13 v15 (.slice (some ⟨go, 0, none⟩) m oc) v17 v18 (.int .i64 i) v65 v66 v67 v82 v83 v84 v192 v193 a) (hQ : ∀ k a', Fh v0 v1 v5 v6 (.slice (some ⟨gl, 0, none⟩) m m) v8 v9 v12 v13 v15 (.slice (some ⟨go, 0, none⟩) m oc) v17 v18 (.int .i64 i) v65 v66 v67 v82 v83 v84 v192 v193 a' → a'.tmps.getD 204 undef = .bool false → Q .normal a' (w.drewN k)) : Code.wp Yba.prog (pc3 [1, 1, 1, 1, 1, 1, 1, 1, 1, 1, 1, 1, 1, 1, 1, 1, 0, 1, 0, 0, 1, 1, 0, 0, 1, 0]) Q a w := by
  obtain ⟨u, rfl⟩ := h.lay
  clear h
  conv => arg 2; whnf
  go_quiet (fail)
  go_wp2
  exact hQ _ _ ⟨rfl, rfl, rfl, rfl, rfl, rfl, rfl, rfl, rfl, rfl, rfl, rfl, rfl, rfl, rfl, rfl, rfl, rfl, rfl, rfl, rfl, rfl, rfl, rfl⟩ (by first | rfl | simp)

set_option maxRecDepth 20000 in
set_option maxHeartbeats 4000000 in
theorem k46 (h : Fh v0 v1 v5 v6 v7 v8 v9 v12 v13 v15 v16 v17 v18 v19 v65 v66 v67 v82 v83 v84 v192 v193 a) (hQ : ∀ a', a'.defers = [] → a'.tmps.getD 4 undef = .bool true → Q .ret a' w) : Code.wp Yba.prog (pc3 [1, 1, 1, 1, 1, 1, 1, 1, 1, 1, 1, 1, 1, 1, 1, 1, 1]) Q a w := by
  obtain ⟨u, rfl⟩ := h.lay
  clear h
  conv => arg 2; whnf
  go_wp2
  exact hQ _ rfl rfl

end Go.Proofs.Ybulkacye
