import Derived.Test.YbulkacyeCom2
import Derived.Test.YbulkacyeCom3
import Derived.Test.YbulkacyeCmp6
namespace Go.Proofs.Ybulkacye
open Go.RowKit Go.Maps Go.Proofs.Ybulkacye.Lcs
set_option linter.unusedVariables false
set_option linter.unusedSectionVars false
variable {v0 v1 v5 v6 v11 v12 v13 v18 v19 v22 v29 v30 v31 v57 v58 v59 v83 v84 v85 v115 v116 v117 : Value} {a : Act} {Q : Exit → Act → World → Prop} {w : World} {base bm gi gn : Nat} {ao bo : Option Addr} {ca cb : Nat} {A B ks : List ByteArray}

set_option maxRecDepth 20000 in
set_option maxHeartbeats 4000000 in
theorem cq_0  (h : Fm v0 v1 v5 v6 v11 v12 v13 v18 v19 v22 v29 v30 v31 v57 v58 v59 v83 v84 v85 v115 v116 v117 a)  (hQ : ∀ w' a', Fm v0 v1 v5 v6 v11 v12 v13 v18 v19 v22 v29 v30 v31 v57 v58 v59 v83 v84 v85 v115 v116 v117 a' → w' = w → Q .normal a' w') : Code.wp Yba.prog (pc18 [0]) Q a w := by
  obtain ⟨u, rfl⟩ := h.lay
  clear h
  conv => arg 2; whnf
  go_wp2
  exact hQ _ _ ⟨rfl, rfl, rfl, rfl, rfl, rfl, rfl, rfl, rfl, rfl, rfl, rfl, rfl, rfl, rfl, rfl, rfl, rfl, rfl, rfl, rfl, rfl, rfl, rfl⟩ rfl
set_option maxRecDepth 20000 in
set_option maxHeartbeats 4000000 in
theorem cq_1  (h : Fm v0 v1 v5 v6 v11 v12 v13 v18 v19 v22 v29 v30 v31 v57 v58 v59 v83 v84 v85 v115 v116 v117 a)  (hQ : ∀ w' a', Fm v0 v1 (.map (some w.heap.size)) v6 v11 v12 v13 v18 v19 v22 v29 v30 v31 v57 v58 v59 v83 v84 v85 v115 v116 v117 a' → w' = w.alloc (.map #[] 0) → Q .normal a' w') : Code.wp Yba.prog (pc18 [1, 0]) Q a w := by
  have hmm := @run_makeMap Yba.prog
  obtain ⟨u, rfl⟩ := h.lay
  clear h
  conv => arg 2; whnf
  go_wp2
  exact hQ _ _ ⟨rfl, rfl, rfl, rfl, rfl, rfl, rfl, rfl, rfl, rfl, rfl, rfl, rfl, rfl, rfl, rfl, rfl, rfl, rfl, rfl, rfl, rfl, rfl, rfl⟩ rfl
set_option maxRecDepth 20000 in
set_option maxHeartbeats 4000000 in
theorem cq_2 (hl : A.length ≤ 1000) (h : Fm (.slice ao A.length ca) v1 v5 v6 v11 v12 v13 v18 v19 v22 v29 v30 v31 v57 v58 v59 v83 v84 v85 v115 v116 v117 a)  (hQ : ∀ w' a', Fm (.slice ao A.length ca) v1 v5 (.slice (some ⟨w.heap.size, 0, none⟩) A.length A.length) v11 v12 v13 v18 v19 v22 v29 v30 v31 v57 v58 v59 v83 v84 v85 v115 v116 v117 a' → w' = w.alloc (.cells (madeCells #[.int .i64 0] A.length) 3) → Q .normal a' w') : Code.wp Yba.prog (pc18 [1, 1, 0]) Q a w := by
  have hmk := fun kl kc w => run_make_row' (P := Yba.prog) 28 3 (.int .i64 0) 8 Yba.underlying28 Yba.info3 rfl kl kc A.length (by omega) (by omega) w
  obtain ⟨u, rfl⟩ := h.lay
  clear h
  conv => arg 2; whnf
  go_wp2
  exact hQ _ _ ⟨rfl, rfl, rfl, rfl, rfl, rfl, rfl, rfl, rfl, rfl, rfl, rfl, rfl, rfl, rfl, rfl, rfl, rfl, rfl, rfl, rfl, rfl, rfl, rfl⟩ rfl
set_option maxRecDepth 20000 in
set_option maxHeartbeats 4000000 in
theorem cq_3  (h : Fm (.slice ao A.length ca) v1 v5 v6 v11 v12 v13 v18 v19 v22 v29 v30 v31 v57 v58 v59 v83 v84 v85 v115 v116 v117 a)  (hQ : ∀ w' a', Fm (.slice ao A.length ca) v1 v5 v6 v11 v12 v13 v18 v19 v22 (.slice ao A.length ca) (.int .i64 A.length) (.int .i64 0) v57 v58 v59 v83 v84 v85 v115 v116 v117 a' → w' = w → Q .normal a' w') : Code.wp Yba.prog (pc18 [1, 1, 1, 0, 0]) Q a w := by
  obtain ⟨u, rfl⟩ := h.lay
  clear h
  conv => arg 2; whnf
  go_wp2
  exact hQ _ _ ⟨rfl, rfl, rfl, rfl, rfl, rfl, rfl, rfl, rfl, rfl, rfl, rfl, rfl, rfl, rfl, rfl, rfl, rfl, rfl, rfl, rfl, rfl, rfl, rfl⟩ rfl
set_option maxRecDepth 20000 in
set_option maxHeartbeats 4000000 in
theorem cq_12 {n : Nat} (hkl : ks.length ≤ 1000) (hm : MapIs w bm n ks) (h : Fm v0 v1 (.map (some bm)) v6 v11 v12 v13 v18 v19 v22 v29 v30 v31 v57 v58 v59 v83 v84 v85 v115 v116 v117 a)  (hQ : ∀ w' a', Fm v0 v1 (.map (some bm)) v6 (.slice (some ⟨w.heap.size, 0, none⟩) ks.length ks.length) v12 v13 v18 v19 v22 v29 v30 v31 v57 v58 v59 v83 v84 v85 v115 v116 v117 a' → w' = w.alloc (.cells (madeCells #[.bool false] ks.length) 4) → Q .normal a' w') : Code.wp Yba.prog (pc18 [1, 1, 1, 1, 0]) Q a w := by
  obtain ⟨D, hown, hDs, hD⟩ := hm
  have hmk := fun kl kc w => run_make_row' (P := Yba.prog) 29 4 (.bool false) 1 Yba.underlying29 Yba.info4 rfl kl kc ks.length (by omega) (by omega) w
  clear hD
  obtain ⟨u, rfl⟩ := h.lay
  clear h
  conv => arg 2; whnf
  go_wp2_with (first
    | (at_len; refine wpList_len_own _ rfl _ 66 rfl 9 3 Yba.underlying66 _ bm n D rfl hown ?_; rw [hDs])
    | go_in)
  exact hQ _ _ ⟨rfl, rfl, rfl, rfl, rfl, rfl, rfl, rfl, rfl, rfl, rfl, rfl, rfl, rfl, rfl, rfl, rfl, rfl, rfl, rfl, rfl, rfl, rfl, rfl⟩ rfl
set_option maxRecDepth 20000 in
set_option maxHeartbeats 4000000 in
theorem cq_13  (h : Fm v0 v1 v5 v6 v11 v12 v13 v18 v19 v22 v29 v30 v31 v57 v58 v59 v83 v84 v85 v115 v116 v117 a)  (hQ : ∀ w' a', Fm v0 v1 v5 v6 v11 (.slice none 0 0) (.slice none 0 0) v18 v19 v22 v29 v30 v31 v57 v58 v59 v83 v84 v85 v115 v116 v117 a' → w' = w → Q .normal a' w') : Code.wp Yba.prog (pc18 [1, 1, 1, 1, 1, 0]) Q a w := by
  obtain ⟨u, rfl⟩ := h.lay
  clear h
  conv => arg 2; whnf
  go_wp2
  exact hQ _ _ ⟨rfl, rfl, rfl, rfl, rfl, rfl, rfl, rfl, rfl, rfl, rfl, rfl, rfl, rfl, rfl, rfl, rfl, rfl, rfl, rfl, rfl, rfl, rfl, rfl⟩ rfl
set_option maxRecDepth 20000 in
set_option maxHeartbeats 4000000 in
theorem cq_14  (h : Fm v0 (.slice bo B.length cb) v5 v6 v11 v12 v13 v18 v19 v22 v29 v30 v31 v57 v58 v59 v83 v84 v85 v115 v116 v117 a)  (hQ : ∀ w' a', Fm v0 (.slice bo B.length cb) v5 v6 v11 v12 v13 v18 v19 v22 v29 v30 v31 (.slice bo B.length cb) (.int .i64 B.length) (.int .i64 0) v83 v84 v85 v115 v116 v117 a' → w' = w → Q .normal a' w') : Code.wp Yba.prog (pc18 [1, 1, 1, 1, 1, 1, 0, 0]) Q a w := by
  obtain ⟨u, rfl⟩ := h.lay
  clear h
  conv => arg 2; whnf
  go_wp2
  exact hQ _ _ ⟨rfl, rfl, rfl, rfl, rfl, rfl, rfl, rfl, rfl, rfl, rfl, rfl, rfl, rfl, rfl, rfl, rfl, rfl, rfl, rfl, rfl, rfl, rfl, rfl⟩ rfl
set_option maxRecDepth 20000 in
set_option maxHeartbeats 4000000 in
theorem cq_23  (h : Fm v0 v1 v5 v6 v11 v12 v13 v18 v19 v22 v29 v30 v31 v57 v58 v59 v83 v84 v85 v115 v116 v117 a)  (hQ : ∀ w' a', Fm v0 v1 v5 v6 v11 v12 v13 (.slice none 0 0) (.slice none 0 0) v22 v29 v30 v31 v57 v58 v59 v83 v84 v85 v115 v116 v117 a' → w' = w → Q .normal a' w') : Code.wp Yba.prog (pc18 [1, 1, 1, 1, 1, 1, 1, 0]) Q a w := by
  obtain ⟨u, rfl⟩ := h.lay
  clear h
  conv => arg 2; whnf
  go_wp2
  exact hQ _ _ ⟨rfl, rfl, rfl, rfl, rfl, rfl, rfl, rfl, rfl, rfl, rfl, rfl, rfl, rfl, rfl, rfl, rfl, rfl, rfl, rfl, rfl, rfl, rfl, rfl⟩ rfl
set_option maxRecDepth 20000 in
set_option maxHeartbeats 4000000 in
theorem cq_24  (h : Fm v0 v1 v5 (.slice (some ⟨gi, 0, none⟩) A.length A.length) v11 v12 v13 v18 v19 v22 v29 v30 v31 v57 v58 v59 v83 v84 v85 v115 v116 v117 a)  (hQ : ∀ w' a', Fm v0 v1 v5 (.slice (some ⟨gi, 0, none⟩) A.length A.length) v11 v12 v13 v18 v19 v22 v29 v30 v31 v57 v58 v59 (.slice (some ⟨gi, 0, none⟩) A.length A.length) (.int .i64 A.length) (.int .i64 0) v115 v116 v117 a' → w' = w → Q .normal a' w') : Code.wp Yba.prog (pc18 [1, 1, 1, 1, 1, 1, 1, 1, 0, 0]) Q a w := by
  obtain ⟨u, rfl⟩ := h.lay
  clear h
  conv => arg 2; whnf
  go_wp2
  exact hQ _ _ ⟨rfl, rfl, rfl, rfl, rfl, rfl, rfl, rfl, rfl, rfl, rfl, rfl, rfl, rfl, rfl, rfl, rfl, rfl, rfl, rfl, rfl, rfl, rfl, rfl⟩ rfl
set_option maxRecDepth 20000 in
set_option maxHeartbeats 4000000 in
theorem cq_31 {ka kb : Option Addr} {nA cA nB cB : Nat} (hA : nA ≤ 1000) (hB : nB ≤ 1000) {S' : Nat} (h : Fm v0 v1 v5 v6 v11 (.slice kb nB cB) v13 (.slice ka nA cA) v19 v22 v29 v30 v31 v57 v58 v59 v83 v84 v85 v115 v116 v117 a)  (hQ : ∀ (S GF GR : Nat) w' a', Fm v0 v1 v5 v6 v11 (.slice kb nB cB) v13 (.slice ka nA cA) v19 (.pointer (some ⟨S, 0, none⟩)) v29 v30 v31 v57 v58 v59 v83 v84 v85 v115 v116 v117 a' → NewIs w w' ka kb nA cA nB cB S GF GR → Q .normal a' w') : Code.wp Yba.prog (pc18 [1, 1, 1, 1, 1, 1, 1, 1, 1, 0]) Q a w := by
  have hc := ns_any ka kb nA cA nB cB w hA hB
  obtain ⟨u, rfl⟩ := h.lay
  clear h
  conv => arg 2; whnf
  go_wp2_with fail
  refine hc.mono ?_
  rintro _ w1 ⟨S, GF, GR, rfl, hn⟩
  go_wp2
  exact hQ S GF GR _ _ ⟨rfl, rfl, rfl, rfl, rfl, rfl, rfl, rfl, rfl, rfl, rfl, rfl, rfl, rfl, rfl, rfl, rfl, rfl, rfl, rfl, rfl, rfl, rfl, rfl⟩ hn
set_option maxRecDepth 20000 in
set_option maxHeartbeats 4000000 in
theorem cq_32 {ka kb : Option Addr} {S nA cA nB cB : Nat} {R : Ending → World → Prop} (h : Fm v0 v1 v5 v6 v11 (.slice kb nB cB) v13 (.slice ka nA cA) v19 (.pointer (some ⟨S, 0, none⟩)) v29 v30 v31 v57 v58 v59 v83 v84 v85 v115 v116 v117 a) (hc : Calls Yba.prog 21 #[.pointer (some ⟨S, 0, none⟩), .int .i64 ((0 : Nat) : Int), .int .i64 (nA : Int), .int .i64 ((0 : Nat) : Int), .int .i64 (nB : Int)] w R)
    (hQ : ∀ e w', R e w' → e = .returned (.tuple #[]) ∧ ∀ a', Fm v0 v1 v5 v6 v11 (.slice kb nB cB) v13 (.slice ka nA cA) v19 (.pointer (some ⟨S, 0, none⟩)) v29 v30 v31 v57 v58 v59 v83 v84 v85 v115 v116 v117 a' → Q .normal a' w') : Code.wp Yba.prog (pc18 [1, 1, 1, 1, 1, 1, 1, 1, 1, 1, 0]) Q a w := by
  obtain ⟨u, rfl⟩ := h.lay
  clear h
  conv => arg 2; whnf
  go_wp2_with fail
  refine hc.mono ?_
  intro e w1 hr
  obtain ⟨rfl, hQ1⟩ := hQ e w1 hr
  clear hQ hc hr
  go_wp2
  exact ⟨rfl, rfl, rfl, rfl, rfl, rfl, rfl, rfl, rfl, rfl, rfl, rfl, rfl, rfl, rfl, rfl, rfl, rfl, rfl, rfl, rfl, rfl, rfl, rfl⟩
set_option maxRecDepth 20000 in
set_option maxHeartbeats 4000000 in
theorem cq_33 {S nM fc : Nat} {fo : Option Addr} (h : Fm v0 v1 v5 v6 v11 v12 v13 v18 v19 (.pointer (some ⟨S, 0, none⟩)) v29 v30 v31 v57 v58 v59 v83 v84 v85 v115 v116 v117 a) (hb : w.cell? ⟨S, 2, none⟩ = some (.slice fo nM fc)) (hQ : ∀ a', Fm v0 v1 v5 v6 v11 v12 v13 v18 v19 (.pointer (some ⟨S, 0, none⟩)) v29 v30 v31 v57 v58 v59 v83 v84 v85 (.slice fo nM fc) (.int .i64 nM) (.int .i64 0) a' → Q .normal a' w) : Code.wp Yba.prog (pc18 [1, 1, 1, 1, 1, 1, 1, 1, 1, 1, 1, 0, 0]) Q a w := by
  obtain ⟨u, rfl⟩ := h.lay
  clear h
  conv => arg 2; whnf
  go_wp2
  exact ⟨rfl, rfl, rfl, rfl, rfl, rfl, rfl, rfl, rfl, rfl, rfl, rfl, rfl, rfl, rfl, rfl, rfl, rfl, rfl, rfl, rfl, rfl, rfl, rfl⟩
set_option maxRecDepth 20000 in
set_option maxHeartbeats 4000000 in
theorem cq_38 {S nM fc : Nat} {fo : Option Addr} (h : Fm v0 v1 v5 v6 v11 v12 v13 v18 v19 (.pointer (some ⟨S, 0, none⟩)) v29 v30 v31 v57 v58 v59 v83 v84 v85 v115 v116 v117 a) (hb : w.cell? ⟨S, 2, none⟩ = some (.slice fo nM fc)) (hQ : ∀ a', a'.defers = [] → a'.tmps.getD 4 undef = .slice fo nM fc → Q .ret a' w) : Code.wp Yba.prog (pc18 [1, 1, 1, 1, 1, 1, 1, 1, 1, 1, 1, 1]) Q a w := by
  obtain ⟨u, rfl⟩ := h.lay
  clear h
  conv => arg 2; whnf
  go_wp2
  exact hQ _ rfl rfl
end Go.Proofs.Ybulkacye
