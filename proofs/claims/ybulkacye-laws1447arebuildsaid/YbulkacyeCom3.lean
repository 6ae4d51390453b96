import Derived.Test.YbulkacyeCom1
import Derived.Test.YbulkacyeTwo
import Derived.Test.YbulkacyeCmp2
namespace Go.Proofs.Ybulkacye
open Go.RowKit Go.Maps Go.Proofs.Ybulkacye.Lcs
set_option linter.unusedVariables false
set_option linter.unusedSectionVars false
variable {v0 v1 v5 v6 v11 v12 v13 v18 v19 v22 v29 v30 v31 v57 v58 v59 v83 v84 v85 v115 v116 v117 : Value} {a : Act} {Q : Exit → Act → World → Prop} {w : World} {base bm gi gn : Nat} {ao bo : Option Addr} {ca cb : Nat} {A B ks : List ByteArray}

set_option maxRecDepth 20000 in
set_option maxHeartbeats 4000000 in
theorem co3 {base3 : Nat} {r : List Bool} (hl : A.length ≤ 1000) (hkl : ks.length ≤ 1000) (hks : ∀ s, s ∈ ks ↔ s ∈ A) (hb1 : gi < base3) (hb2 : gn < base3) (hbw : base3 ≤ w.heap.size)
    (h : Fm v0 v1 v5 v6 (.slice (some ⟨gn, 0, none⟩) ks.length ks.length) v12 v13 (.slice none 0 0) (.slice none 0 0) v22 v29 v30 v31 v57 v58 v59 (.slice (some ⟨gi, 0, none⟩) A.length A.length) (.int .i64 A.length) (.int .i64 0) v115 v116 v117 a) (hi : RowI w gi (A.map (idx ks))) (hr : RowB w gn r) (hrl : r.length = ks.length) (hrv : ∀ t ∈ ks, r[pos ks t]? = some (isIn B t))
    (hQ : ∀ kv fv v85 w' a', Fm v0 v1 v5 v6 (.slice (some ⟨gn, 0, none⟩) ks.length ks.length) v12 v13 kv fv v22 v29 v30 v31 v57 v58 v59 (.slice (some ⟨gi, 0, none⟩) A.length A.length) (.int .i64 A.length) v85 v115 v116 v117 a' → Two base3 w' kv fv (kept ks (isIn B) A) (fromI (isIn B) A) → Kp base3 [] w w' → Q .normal a' w') : Code.wp Yba.prog (pc18 [1, 1, 1, 1, 1, 1, 1, 1, 0, 1]) Q a w := by
  obtain ⟨i0, hi0, hz0, hz1, hz2⟩ := info_parts Yba.info3
  show Code.wp Yba.prog (Code.block 4 (Code.loop (pc18 [1, 1, 1, 1, 1, 1, 1, 1, 0, 1, 0, 0]))) Q a w
  refine wp_block (wp_loop (fun a' w' => ∃ (i : Nat) (kv fv : Value), Fm v0 v1 v5 v6 (.slice (some ⟨gn, 0, none⟩) ks.length ks.length) v12 v13 kv fv v22 v29 v30 v31 v57 v58 v59 (.slice (some ⟨gi, 0, none⟩) A.length A.length) (.int .i64 A.length) (.int .i64 i) v115 v116 v117 a' ∧ i ≤ A.length ∧ Two base3 w' kv fv (kept ks (isIn B) (A.take i)) (fromI (isIn B) (A.take i)) ∧ Kp base3 [] w w') (fun a' _ => (1000 - intOf (a'.tmps.getD 85 undef)).toNat) ⟨0, _, _, h, Nat.zero_le _, Two.nil _ _ hbw, Kp.refl _ _ _⟩ ?_)
  clear h
  rintro a2 w2 ⟨j, kv, fv, h, hj, h2, hK⟩
  have hμ : (1000 - intOf (a2.tmps.getD 85 undef)).toNat = (1000 - (j : Int)).toNat := by rw [h.e85]; rfl
  rw [hμ]
  clear hμ
  have hi2 : RowI w2 gi (A.map (idx ks)) := hi.congr (hK.block gi hb1 (by simp))
  have hr2 : RowB w2 gn r := hr.congr (hK.block gn hb2 (by simp))
  by_cases hlt : j < A.length
  · obtain ⟨s, hs⟩ : ∃ s, A[j]? = some s := ⟨A[j], by simp [hlt]⟩
    have htk : A.take (j + 1) = A.take j ++ [s] := take_succ' hs
    have htl : (A.take j).length = j := by simp; omega
    have hin : s ∈ ks := (hks s).2 (List.mem_of_getElem? hs)
    obtain ⟨q1, hq1⟩ : ∃ q : Nat, q = pos ks s := ⟨_, rfl⟩
    have hqlt : q1 < ks.length := by rw [hq1]; exact pos_lt hin
    have hcell : w2.cell? ⟨gi, j, none⟩ = some (.int .i64 (q1 : Int)) := (hi2.cell (i := j) (v := (q1 : Int)) (by rw [List.getElem?_map, hs, hq1]; rfl)).1
    have hcb := (hr2.cell (i := q1) (v := isIn B s) (by rw [hq1]; exact hrv s hin)).1
    obtain ⟨W2, hW2⟩ : ∃ W2, W2 = w2 := ⟨_, rfl⟩
    subst hW2
    have hsl2 := sel_len_le (isIn B) (A.take j)
    have hkL := kept_len ks (isIn B) (A.take j)
    have hfL := fromI_len (isIn B) (A.take j)
    by_cases hinb : isIn B s = true
    · rw [hinb] at hcb
      have HK : Hid (kept ks (isIn B) (A.take (j + 1)) = kept ks (isIn B) (A.take j) ++ [(q1 : Int)]) := by rw [htk, kept_pos ks hinb, hq1]; rfl
      have HF : Hid (fromI (isIn B) (A.take (j + 1)) = fromI (isIn B) (A.take j) ++ [(j : Int)]) := by rw [htk, fromI_pos hinb, htl]; rfl
      have n1 : (kept ks (isIn B) (A.take j)).length ≤ 1000 := by omega
      have n2 : (fromI (isIn B) (A.take j)).length ≤ 1000 := by omega
      have b1 : (kept ks (isIn B) (A.take j)).length + 1 ≤ maxLen := by unfold maxLen; omega
      have b2 : ((kept ks (isIn B) (A.take j)).length + 1) * 8 ≤ 140737488355328 := by omega
      have b3 : (fromI (isIn B) (A.take j)).length + 1 ≤ maxLen := by unfold maxLen; omega
      have b4 : ((fromI (isIn B) (A.take j)).length + 1) * 8 ≤ 140737488355328 := by omega
      generalize kept ks (isIn B) (A.take j) = KL at *
      generalize fromI (isIn B) (A.take j) = FL at *
      obtain ⟨ko, kc, rfl⟩ := own_slice2 h2.k
      obtain ⟨fo, fc, rfl⟩ := own_slice2 h2.f
      have hk0 := h2.k
      have hw2 := h2.bw
      obtain ⟨u, rfl⟩ := h.lay
      clear h hQ htk hin hr hs hrl hrv hq1 hinb htl hsl2 hkL hfL hi hi2 hr2
      conv => arg 2; whnf
      have TK : Hid True := trivial
      go_wp2_with (first
        | (clear TK; (at_builtin; refine wpList_append_any _ rfl (.tmp 94) (.tmp 96) 28 28 rfl base3 3 i0 _ 1 8 Yba.underlying28 hi0 hz0 hz1 hz2 rfl (.slice ko KL.length kc) KL.length (ints KL) rfl (hk0.alloc _) (.slice (some ⟨W2.heap.size, 0, none⟩) 1 1) 1 [.int .i64 (q1 : Int)] rfl (Src.ofSlice _ Yba.underlying28 ⟨W2.heap.size, 0, none⟩ 1 1 [.int .i64 (q1 : Int)] rfl (news_one _ _ _) (by simp [Value.oneCell'])) b1 b2 (by simp; omega) ?_; intro kv' w3 ho1 hg1 hat1 _; obtain ⟨ko', kc', rfl⟩ := own_slice2 ho1; have hf1 := h2.first (kv' := .slice none 0 0) hg1; have hs3 := hg1.size))
        | (at_builtin; refine wpList_append_any _ rfl (.tmp 98) (.tmp 100) 28 28 rfl base3 3 i0 _ 1 8 Yba.underlying28 hi0 hz0 hz1 hz2 rfl (.slice fo FL.length fc) FL.length (ints FL) rfl (hf1.alloc _) (.slice (some ⟨w3.heap.size, 0, none⟩) 1 1) 1 [.int .i64 (j : Int)] rfl (Src.ofSlice _ Yba.underlying28 ⟨w3.heap.size, 0, none⟩ 1 1 [.int .i64 (j : Int)] rfl (news_one _ _ _) (by simp [Value.oneCell'])) b3 b4 (by simp at hs3 ⊢; omega) ?_; intro fv' w4 ho2 hg2 hat2 _; obtain ⟨fo', fc', rfl⟩ := own_slice2 ho2; obtain ⟨tw, tall, tsz, tos, ttp, tou⟩ := h2.push ho1 hg1 hat1 ho2 hg2 hat2)
        | go_in)
      exact ⟨⟨j + 1, _, _, ⟨rfl, rfl, rfl, rfl, rfl, rfl, rfl, rfl, rfl, rfl, rfl, rfl, rfl, rfl, rfl, rfl, rfl, rfl, rfl, rfl, rfl, rfl, rfl, rfl⟩, by omega, by rw [HK.out, HF.out]; exact tw, hK.of_all tall tsz tos ttp tou⟩, by show (1000 - ((j : Int) + 1)).toNat < _; omega⟩
    · have hinb : isIn B s = false := by cases hx : isIn B s; rfl; exact absurd hx hinb
      rw [hinb] at hcb
      have HT : Hid (Two base3 W2 kv fv (kept ks (isIn B) (A.take (j + 1))) (fromI (isIn B) (A.take (j + 1)))) := by
        rw [htk, kept_neg ks hinb, fromI_neg hinb]; exact h2
      have HKp : Hid (Kp base3 [] w W2) := hK
      obtain ⟨u, rfl⟩ := h.lay
      clear h hQ htk hin hr hs hrl hrv hinb htl hsl2 hkL hfL h2 hK hi hi2 hr2 hq1
      conv => arg 2; whnf
      go_wp2
      exact ⟨⟨j + 1, _, _, ⟨rfl, rfl, rfl, rfl, rfl, rfl, rfl, rfl, rfl, rfl, rfl, rfl, rfl, rfl, rfl, rfl, rfl, rfl, rfl, rfl, rfl, rfl, rfl, rfl⟩, by omega, HT.out, HKp.out⟩, by show (1000 - ((j : Int) + 1)).toNat < _; omega⟩
  · have hje : j = A.length := by omega
    subst hje
    rw [List.take_length] at h2
    have hQ1 := fun v85 w' a' h1 h3 h5 => hQ kv fv v85 w' a' h1 h3 h5
    obtain ⟨u, rfl⟩ := h.lay
    clear h hQ hrv
    conv => arg 2; whnf
    go_wp2
    exact hQ1 _ _ _ ⟨rfl, rfl, rfl, rfl, rfl, rfl, rfl, rfl, rfl, rfl, rfl, rfl, rfl, rfl, rfl, rfl, rfl, rfl, rfl, rfl, rfl, rfl, rfl, rfl⟩ h2 hK

end Go.Proofs.Ybulkacye
