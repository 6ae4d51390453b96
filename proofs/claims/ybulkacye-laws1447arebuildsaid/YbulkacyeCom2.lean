import Derived.Test.YbulkacyeCom1
import Derived.Test.YbulkacyeTwo
import Derived.Test.YbulkacyeCmp2
namespace Go.Proofs.Ybulkacye
open Go.RowKit Go.Maps Go.Proofs.Ybulkacye.Lcs
set_option linter.unusedVariables false
set_option linter.unusedSectionVars false
variable {v0 v1 v5 v6 v11 v12 v13 v18 v19 v22 v29 v30 v31 v57 v58 v59 v83 v84 v85 v115 v116 v117 : Value} {a : Act} {Q : Exit → Act → World → Prop} {w : World} {base bm gi gn : Nat} {ao bo : Option Addr} {ca cb : Nat} {A B ks : List ByteArray}

set_option maxRecDepth 20000 in
set_option maxHeartbeats 4000000 in
theorem co2 {n base2 : Nat} (hl : B.length ≤ 1000) (hsz : ∀ s ∈ B, s.size ≤ 1000) (hkl : ks.length ≤ 1000) (hst : Strs base w bo B) (hbb : base ≤ base2) (hb1 : bm < base2) (hb2 : gn < base2) (hb3 : base ≤ gn) (hne : bm ≠ gn) (hbw : base2 ≤ w.heap.size)
    (h : Fm v0 v1 (.map (some bm)) v6 (.slice (some ⟨gn, 0, none⟩) ks.length ks.length) (.slice none 0 0) (.slice none 0 0) v18 v19 v22 v29 v30 v31 (.slice bo B.length cb) (.int .i64 B.length) (.int .i64 0) v83 v84 v85 v115 v116 v117 a) (hm : MapIs w bm n ks) (hr : RowB w gn (List.replicate ks.length false))
    (hQ : ∀ kv fv r v59 w' a', Fm v0 v1 (.map (some bm)) v6 (.slice (some ⟨gn, 0, none⟩) ks.length ks.length) kv fv v18 v19 v22 v29 v30 v31 (.slice bo B.length cb) (.int .i64 B.length) v59 v83 v84 v85 v115 v116 v117 a' → Two base2 w' kv fv (kept ks (isIn ks) B) (fromI (isIn ks) B) → RowB w' gn r → (∀ t ∈ ks, r[pos ks t]? = some (isIn B t)) → r.length = ks.length → Kp base2 [gn] w w' → Q .normal a' w') : Code.wp Yba.prog (pc18 [1, 1, 1, 1, 1, 1, 0, 1]) Q a w := by
  obtain ⟨i0, hi0, hz0, hz1, hz2⟩ := info_parts Yba.info3
  show Code.wp Yba.prog (Code.block 2 (Code.loop (pc18 [1, 1, 1, 1, 1, 1, 0, 1, 0, 0]))) Q a w
  refine wp_block (wp_loop (fun a' w' => ∃ (j : Nat) (kv fv : Value) (r : List Bool), Fm v0 v1 (.map (some bm)) v6 (.slice (some ⟨gn, 0, none⟩) ks.length ks.length) kv fv v18 v19 v22 v29 v30 v31 (.slice bo B.length cb) (.int .i64 B.length) (.int .i64 j) v83 v84 v85 v115 v116 v117 a' ∧ j ≤ B.length ∧ Two base2 w' kv fv (kept ks (isIn ks) (B.take j)) (fromI (isIn ks) (B.take j)) ∧ RowB w' gn r ∧ r.length = ks.length ∧ (∀ t ∈ ks, r[pos ks t]? = some (isIn (B.take j) t)) ∧ Kp base2 [gn] w w') (fun a' _ => (1000 - intOf (a'.tmps.getD 59 undef)).toNat) ⟨0, _, _, _, h, Nat.zero_le _, Two.nil _ _ hbw, hr, by simp, fun t ht => by rw [List.getElem?_replicate, if_pos (pos_lt ht)]; rfl, Kp.refl _ _ _⟩ ?_)
  clear h hr
  rintro a2 w2 ⟨j, kv, fv, r, h, hj, h2, hr, hrl, hrv, hK⟩
  have hμ : (1000 - intOf (a2.tmps.getD 59 undef)).toNat = (1000 - (j : Int)).toNat := by rw [h.e59]; rfl
  rw [hμ]
  clear hμ
  have hst2 := hst.kp hK hbb (by simp; omega)
  have hm2 : MapIs w2 bm n ks := hm.congr (hK.block bm hb1 (by simp; exact hne))
  by_cases hlt : j < B.length
  · obtain ⟨s, hs⟩ : ∃ s, B[j]? = some s := ⟨B[j], by simp [hlt]⟩
    obtain ⟨g, rfl, hg, hcell⟩ := hst2 j s hs
    have hsl := hsz s (List.mem_of_getElem? hs)
    have hkey : keyOf Yba.prog 9 (.string s) = some (key s) := Go.WideMaps.keyOf_string_mk Yba.underlying9 (by unfold maxLen; omega)
    have htk : B.take (j + 1) = B.take j ++ [s] := take_succ' hs
    have htl : (B.take j).length = j := by simp; omega
    obtain ⟨D, hown, hDs, hD⟩ := hm2
    obtain ⟨hh1, hh2⟩ := hD s
    obtain ⟨W2, hW2⟩ : ∃ W2, W2 = w2 := ⟨_, rfl⟩
    subst hW2
    have hsl2 := sel_len_le (isIn ks) (B.take j)
    have hkL := kept_len ks (isIn ks) (B.take j)
    have hfL := fromI_len (isIn ks) (B.take j)
    by_cases hin : s ∈ ks
    · have hinb := isIn_iff.2 hin
      obtain ⟨q1, hq1⟩ : ∃ q : Nat, q = pos ks s := ⟨_, rfl⟩
      have hqlt : q1 < ks.length := by rw [hq1]; exact pos_lt hin
      have hat0 : D.atKey (key s) (.lit (.int .i64 0)) = .lit (.int .i64 (q1 : Int)) := by rw [hh2 hin, hq1]
      have hhas : Maps.has D (key s) = true := by rw [hh1, hinb]
      have HK : Hid (kept ks (isIn ks) (B.take (j + 1)) = kept ks (isIn ks) (B.take j) ++ [(q1 : Int)]) := by rw [htk, kept_pos ks hinb, hq1]; rfl
      have HF : Hid (fromI (isIn ks) (B.take (j + 1)) = fromI (isIn ks) (B.take j) ++ [(j : Int)]) := by rw [htk, fromI_pos hinb, htl]; rfl
      have HV : Hid (∀ t ∈ ks, (r.set q1 true)[pos ks t]? = some (isIn (B.take (j + 1)) t)) := by
        intro t ht
        rw [htk, isIn_snoc, List.getElem?_set]
        by_cases e : s = t
        · subst e; rw [if_pos hq1, if_pos (by omega)]; simp
        · rw [if_neg (fun g => e (idx_inj hin ht (by unfold idx; omega))), hrv t ht]; simp [e]
      obtain ⟨u0, hu0⟩ : ∃ u0, r[q1]? = some u0 := ⟨_, List.getElem?_eq_getElem (by omega)⟩
      have HRC : Hid (∀ w1 : World, w1.heap[gn]? = W2.heap[gn]? → w1.cell? ⟨gn, q1, none⟩ = some (.bool u0) ∧ w1.frozen? ⟨gn, q1, none⟩ = false ∧ RowB (w1.setCell ⟨gn, q1, none⟩ (.bool true)) gn (r.set q1 true)) := by
        intro w1 e
        have := (hr.congr e).cell hu0
        exact ⟨this.1, this.2, (hr.congr e).set q1 true⟩
      have HRL : Hid ((r.set q1 true).length = ks.length) := by show _ = _; rw [List.length_set]; exact hrl
      have n1 : (kept ks (isIn ks) (B.take j)).length ≤ 1000 := by omega
      have n2 : (fromI (isIn ks) (B.take j)).length ≤ 1000 := by omega
      have b1 : (kept ks (isIn ks) (B.take j)).length + 1 ≤ maxLen := by unfold maxLen; omega
      have b2 : ((kept ks (isIn ks) (B.take j)).length + 1) * 8 ≤ 140737488355328 := by omega
      have b3 : (fromI (isIn ks) (B.take j)).length + 1 ≤ maxLen := by unfold maxLen; omega
      have b4 : ((fromI (isIn ks) (B.take j)).length + 1) * 8 ≤ 140737488355328 := by omega
      generalize kept ks (isIn ks) (B.take j) = KL at *
      generalize fromI (isIn ks) (B.take j) = FL at *
      obtain ⟨ko, kc, rfl⟩ := own_slice2 h2.k
      obtain ⟨fo, fc, rfl⟩ := own_slice2 h2.f
      have hk0 := h2.k
      have hw2 := h2.bw
      obtain ⟨u, rfl⟩ := h.lay
      clear h hQ htk hD hh1 hh2 hin hr hu0 hst2 hst hs hrl hrv hq1 hinb htl hsl2 hkL hfL hm
      conv => arg 2; whnf
      have TK : Hid True := trivial
      go_wp2_with (first
        | (at_lookup; refine wpList_lookup_own_ok_int _ rfl _ _ 66 rfl 9 3 .i64 law9 Yba.underlying66 Yba.underlying3 (zero3 _) bm n D rfl hown _ _ rfl hkey ?_; intro c hat hwc; obtain rfl : c = (q1 : Int) := (by rw [hat0] at hat; injection hat with hat; injection hat with _ hat; exact hat.symm); rw [hhas])
        | (clear TK; (at_builtin; refine wpList_append_any _ rfl (.tmp 71) (.tmp 73) 28 28 rfl base2 3 i0 _ 1 8 Yba.underlying28 hi0 hz0 hz1 hz2 rfl (.slice ko KL.length kc) KL.length (ints KL) rfl (hk0.alloc _) (.slice (some ⟨W2.heap.size, 0, none⟩) 1 1) 1 [.int .i64 (q1 : Int)] rfl (Src.ofSlice _ Yba.underlying28 ⟨W2.heap.size, 0, none⟩ 1 1 [.int .i64 (q1 : Int)] rfl (news_one _ _ _) (by simp [Value.oneCell'])) b1 b2 (by simp; omega) ?_; intro kv' w3 ho1 hg1 hat1 _; obtain ⟨ko', kc', rfl⟩ := own_slice2 ho1; have hf1 := h2.first (kv' := .slice none 0 0) hg1; have hs3 := hg1.size))
        | (at_builtin; refine wpList_append_any _ rfl (.tmp 75) (.tmp 77) 28 28 rfl base2 3 i0 _ 1 8 Yba.underlying28 hi0 hz0 hz1 hz2 rfl (.slice fo FL.length fc) FL.length (ints FL) rfl (hf1.alloc _) (.slice (some ⟨w3.heap.size, 0, none⟩) 1 1) 1 [.int .i64 (j : Int)] rfl (Src.ofSlice _ Yba.underlying28 ⟨w3.heap.size, 0, none⟩ 1 1 [.int .i64 (j : Int)] rfl (news_one _ _ _) (by simp [Value.oneCell'])) b3 b4 (by simp at hs3 ⊢; omega) ?_; intro fv' w4 ho2 hg2 hat2 _; obtain ⟨fo', fc', rfl⟩ := own_slice2 ho2; obtain ⟨tw, tall, tsz, tos, ttp, tou⟩ := h2.push ho1 hg1 hat1 ho2 hg2 hat2; obtain ⟨rc1, rc2, rc3⟩ := HRC.out w4 (tall gn hb2))
        | go_in)
      exact ⟨⟨j + 1, _, _, r.set q1 true, ⟨rfl, rfl, rfl, rfl, rfl, rfl, rfl, rfl, rfl, rfl, rfl, rfl, rfl, rfl, rfl, rfl, rfl, rfl, rfl, rfl, rfl, rfl, rfl, rfl⟩, by omega, by rw [HK.out, HF.out]; exact tw.low hb2 _, rc3, HRL.out, HV.out, (hK.of_all tall tsz tos ttp tou).setCell _ _ (.inl (by simp))⟩, by show (1000 - ((j : Int) + 1)).toNat < _; omega⟩
    · have hinb := isIn_false.2 hin
      have hhas : Maps.has D (key s) = false := by rw [hh1, hinb]
      have HT : Hid (Two base2 W2 kv fv (kept ks (isIn ks) (B.take (j + 1))) (fromI (isIn ks) (B.take (j + 1)))) := by
        rw [htk, kept_neg ks hinb, fromI_neg hinb]; exact h2
      have HV : Hid (∀ t ∈ ks, r[pos ks t]? = some (isIn (B.take (j + 1)) t)) := by
        intro t ht
        rw [htk, isIn_snoc, hrv t ht]
        have : s ≠ t := fun e => hin (by rw [e]; exact ht)
        simp [this]
      have HR : Hid (RowB W2 gn r) := hr
      have HRL : Hid (r.length = ks.length) := hrl
      have HKp : Hid (Kp base2 [gn] w W2) := hK
      obtain ⟨u, rfl⟩ := h.lay
      clear h hQ htk hD hh1 hh2 hin hr hst2 hst hs hrl hrv hinb htl hsl2 hkL hfL hm h2 hK
      conv => arg 2; whnf
      go_wp2_with (first
        | (at_lookup; refine wpList_lookup_own_ok_int _ rfl _ _ 66 rfl 9 3 .i64 law9 Yba.underlying66 Yba.underlying3 (zero3 _) bm n D rfl hown _ _ rfl hkey ?_; intro c hat hwc; rw [hhas])
        | go_in)
      exact ⟨⟨j + 1, _, _, r, ⟨rfl, rfl, rfl, rfl, rfl, rfl, rfl, rfl, rfl, rfl, rfl, rfl, rfl, rfl, rfl, rfl, rfl, rfl, rfl, rfl, rfl, rfl, rfl, rfl⟩, by omega, HT.out, HR.out, HRL.out, HV.out, HKp.out⟩, by show (1000 - ((j : Int) + 1)).toNat < _; omega⟩
  · have hje : j = B.length := by omega
    subst hje
    rw [List.take_length] at h2 hrv
    have hQ1 := fun v59 w' a' h1 h3 h4 h5 => hQ kv fv r v59 w' a' h1 h3 h4 hrv hrl h5
    obtain ⟨u, rfl⟩ := h.lay
    clear h hQ hrv
    conv => arg 2; whnf
    go_wp2
    exact hQ1 _ _ _ ⟨rfl, rfl, rfl, rfl, rfl, rfl, rfl, rfl, rfl, rfl, rfl, rfl, rfl, rfl, rfl, rfl, rfl, rfl, rfl, rfl, rfl, rfl, rfl, rfl⟩ h2 hr hK

end Go.Proofs.Ybulkacye
