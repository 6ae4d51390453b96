import Derived.Test.YbulkacyeReb3
namespace Go.Proofs.Ybulkacye
open Go.RowKit Go.Proofs.Ybulkacye.Lcs
set_option linter.unusedVariables false
set_option linter.unusedSectionVars false
variable {v0 v1 v5 v6 v7 v8 v9 v12 v13 v15 v16 v17 v18 v19 v65 v66 v67 v82 v83 v84 v192 v193 : Value} {a : Act} {Q : Exit → Act → World → Prop} {w : World} {Wb gl gd gi go : Nat} {c : Nat} {bv ev vv iv oldv : Value} {MM M : List (Nat × Nat)} {A B : List ByteArray} {ao bo : Option Addr} {ca cb : Nat} {bs ns : List UInt8} {oo : Option Addr} {oc : Nat}

set_option maxRecDepth 20000 in
theorem kl3 (hM : Mms MM M A B) (hn : A.length ≤ 300) (hm : B.length ≤ 300) (hR : RbIs w Wb gd gl bv ev vv iv oldv (stt MM).2.2 (delF MM) A B) (h : Fh v0 v1 (.pointer (some ⟨Wb, 0, none⟩)) oldv v7 v8 v9 v12 v13 v15 (.slice none 0 0) (.int .i64 ((0 : Nat) : Int)) (.int .i64 ((0 : Nat) : Int)) v19 v65 v66 v67 v82 v83 v84 v192 v193 a)
    (hQ : ∀ outv v18 w' a', Fh v0 v1 (.pointer (some ⟨Wb, 0, none⟩)) oldv v7 v8 v9 v12 v13 v15 outv (.int .i64 (stt MM).2.2.length) v18 v19 v65 v66 v67 v82 v83 v84 v192 v193 a' → w'.ownsRow w.heap.size 9 1 outv B.length (strs B) → Below w.heap.size w w' → Q .normal a' w') : Code.wp Yba.prog (pc3 [1, 1, 1, 1, 1, 1, 1, 1, 1, 1, 1, 1, 1, 1, 0, 1]) Q a w := by
  have hil := ins_len MM
  have hml := hM.len
  have hsh := hM.short
  show Code.wp Yba.prog (Code.block 4 (Code.loop (pc3 [1, 1, 1, 1, 1, 1, 1, 1, 1, 1, 1, 1, 1, 1, 0, 1, 0, 0]))) Q a w
  refine wp_block (wp_loop (fun a' w' => ∃ (j t : Nat) (outv : Value), Fh v0 v1 (.pointer (some ⟨Wb, 0, none⟩)) oldv v7 v8 v9 v12 v13 v15 outv (.int .i64 (stt (MM.take t)).2.2.length) (.int .i64 j) v19 v65 v66 v67 v82 v83 v84 v192 v193 a' ∧ j ≤ A.length + 1 ∧ At MM j t ∧ w'.ownsRow w.heap.size 9 1 outv (B.take (stt (MM.take t)).2.1).length (strs (B.take (stt (MM.take t)).2.1)) ∧ Below w.heap.size w w') (fun a' _ => (1000 - intOf (a'.tmps.getD 18 undef)).toNat) ⟨0, 0, _, h, Nat.zero_le _, At.zero MM, World.ownsRow_nil _ _ _ _, Below.refl _ _⟩ ?_)
  clear h
  rintro a2 w2 ⟨j, t, outv, h, hj, hat, hown, hB⟩
  have hμ : (1000 - intOf (a2.tmps.getD 18 undef)).toNat = (1000 - (j : Int)).toNat := by rw [h.e18]; rfl
  rw [hμ]
  clear hμ
  obtain ⟨oo, oc, hov⟩ := own_slice2 hR.old
  have hR2 := hR.below hB (Nat.le_refl _)
  have h' := h
  rw [hov] at h'
  refine sq (x := pc3 [1, 1, 1, 1, 1, 1, 1, 1, 1, 1, 1, 1, 1, 1, 0, 1, 0, 0, 0]) (y := Code.seq (Code.block 5 (Code.seq (pc3 [1, 1, 1, 1, 1, 1, 1, 1, 1, 1, 1, 1, 1, 1, 0, 1, 0, 0, 1, 0, 0, 0]) (pc3 [1, 1, 1, 1, 1, 1, 1, 1, 1, 1, 1, 1, 1, 1, 0, 1, 0, 0, 1, 0, 0, 1]))) (pc3 [1, 1, 1, 1, 1, 1, 1, 1, 1, 1, 1, 1, 1, 1, 0, 1, 0, 0, 1, 1])) rfl (kh31 h' (fun hlt a3 h3 => ?_) (fun hlt a3 h3 => ?_))
  · show Exit.inBlock 4 Q (.exit 4) a3 w2
    refine inB ?_
    have hd : MM.drop t = [] := by
      cases hx : MM.drop t with
      | nil => rfl
      | cons q l =>
        have hq : q ∈ MM.drop t := by rw [hx]; exact List.mem_cons_self
        have h1 := hat.hi q hq
        have h2 := (hM.le q (List.mem_of_mem_drop hq)).1
        omega
    have htk : MM.take t = MM := by have := List.take_append_drop t MM; rw [hd, List.append_nil] at this; exact this
    rw [htk, hM.last] at hown
    simp only at hown
    rw [List.take_of_length_le (by omega)] at hown
    rw [htk] at h3
    rw [← hov] at h3
    exact hQ outv _ w2 a3 h3 hown hB
  rw [← hov] at h3
  have hsp := stt_split (MM.take t) (MM.drop t)
  rw [List.take_append_drop] at hsp
  have hble := (nx_le (P := MM.take t) (x := A.length + 1) (y := B.length + 1) (fun q hq => by have := hM.le q (List.mem_of_mem_take hq); omega)).2
  have hkl : (stt (MM.take t)).2.2.length ≤ 301 := by have := ins_len (MM.take t); simp at this; omega
  generalize hS : stt (MM.take t) = st at *
  obtain ⟨a0, b0, ins⟩ := st
  simp only at hsp hown hble hkl h3
  -- behind the inner loop
  have rest : ∀ (bz kz t' : Nat) (ov : Value) (w4 : World) (a4 : Act), Fh v0 v1 (.pointer (some ⟨Wb, 0, none⟩)) oldv v7 v8 v9 v12 v13 v15 ov (.int .i64 kz) (.int .i64 j) v19 v65 v66 v67 v82 v83 v84 v192 v193 a4 → w4.ownsRow w.heap.size 9 1 ov (B.take bz).length (strs (B.take bz)) → Below w.heap.size w w4 → At MM (j + 1) t' → kz = (stt (MM.take t')).2.2.length → bz ≤ B.length + 1 →
      ((j < A.length ∧ delF MM j = false ∧ ∃ v, A[j]? = some v ∧ B[bz]? = some v ∧ (stt (MM.take t')).2.1 = bz + 1) ∨ (j < A.length ∧ delF MM j = true ∧ (stt (MM.take t')).2.1 = bz) ∨ (j = A.length ∧ B.take (stt (MM.take t')).2.1 = B.take bz)) →
      Code.wp Yba.prog (pc3 [1, 1, 1, 1, 1, 1, 1, 1, 1, 1, 1, 1, 1, 1, 0, 1, 0, 0, 1, 0, 0, 1]) (Exit.inBlock 5 (Exit.then (Code.wp Yba.prog (pc3 [1, 1, 1, 1, 1, 1, 1, 1, 1, 1, 1, 1, 1, 1, 0, 1, 0, 0, 1, 1]) (Exit.then (fun a' w' => (∃ (j t : Nat) (outv : Value), Fh v0 v1 (.pointer (some ⟨Wb, 0, none⟩)) oldv v7 v8 v9 v12 v13 v15 outv (.int .i64 (stt (MM.take t)).2.2.length) (.int .i64 j) v19 v65 v66 v67 v82 v83 v84 v192 v193 a' ∧ j ≤ A.length + 1 ∧ At MM j t ∧ w'.ownsRow w.heap.size 9 1 outv (B.take (stt (MM.take t)).2.1).length (strs (B.take (stt (MM.take t)).2.1)) ∧ Below w.heap.size w w') ∧ (1000 - intOf (a'.tmps.getD 18 undef)).toNat < (1000 - (j : Int)).toNat) (Exit.inBlock 4 Q))) (Exit.then (fun a' w' => (∃ (j t : Nat) (outv : Value), Fh v0 v1 (.pointer (some ⟨Wb, 0, none⟩)) oldv v7 v8 v9 v12 v13 v15 outv (.int .i64 (stt (MM.take t)).2.2.length) (.int .i64 j) v19 v65 v66 v67 v82 v83 v84 v192 v193 a' ∧ j ≤ A.length + 1 ∧ At MM j t ∧ w'.ownsRow w.heap.size 9 1 outv (B.take (stt (MM.take t)).2.1).length (strs (B.take (stt (MM.take t)).2.1)) ∧ Below w.heap.size w w') ∧ (1000 - intOf (a'.tmps.getD 18 undef)).toNat < (1000 - (j : Int)).toNat) (Exit.inBlock 4 Q)))) a4 w4 := by
    intro bz kz t' ov w4 a4 h4 o4 B4 ha' hkz hbz hcase
    have hR4 := hR.below B4 (Nat.le_refl _)
    have fin : ∀ (ov5 : Value) (w5 : World) (a5 : Act), Fh v0 v1 (.pointer (some ⟨Wb, 0, none⟩)) oldv v7 v8 v9 v12 v13 v15 ov5 (.int .i64 kz) (.int .i64 j) v19 v65 v66 v67 v82 v83 v84 v192 v193 a5 → w5.ownsRow w.heap.size 9 1 ov5 (B.take (stt (MM.take t')).2.1).length (strs (B.take (stt (MM.take t')).2.1)) → Below w.heap.size w w5 → Code.wp Yba.prog (pc3 [1, 1, 1, 1, 1, 1, 1, 1, 1, 1, 1, 1, 1, 1, 0, 1, 0, 0, 1, 1]) (Exit.then (fun a' w' => (∃ (j t : Nat) (outv : Value), Fh v0 v1 (.pointer (some ⟨Wb, 0, none⟩)) oldv v7 v8 v9 v12 v13 v15 outv (.int .i64 (stt (MM.take t)).2.2.length) (.int .i64 j) v19 v65 v66 v67 v82 v83 v84 v192 v193 a' ∧ j ≤ A.length + 1 ∧ At MM j t ∧ w'.ownsRow w.heap.size 9 1 outv (B.take (stt (MM.take t)).2.1).length (strs (B.take (stt (MM.take t)).2.1)) ∧ Below w.heap.size w w') ∧ (1000 - intOf (a'.tmps.getD 18 undef)).toNat < (1000 - (j : Int)).toNat) (Exit.inBlock 4 Q)) a5 w5 := by
      intro ov5 w5 a5 h5 o5 B5
      refine ki32 h5 (by omega) (fun a6 h6 => ?_)
      rw [hkz] at h6
      refine ⟨⟨j + 1, t', ov5, h6, by omega, ha', o5, B5⟩, ?_⟩
      rw [h6.e18]
      show (1000 - ((j + 1 : Nat) : Int)).toNat < _
      omega
    have hbox := blk_cell hR4.box 4 rfl
    have h4' := h4
    rw [hov] at h4'
    rcases hcase with ⟨hja, hdl, v, hv1, hv2, hnx⟩ | ⟨hja, hdl, hnx⟩ | ⟨hja, hnx⟩
    · have hc := (hR4.del.cell (bl_get A.length (delF MM) j hja)).1
      refine sq (x := pc3 [1, 1, 1, 1, 1, 1, 1, 1, 1, 1, 1, 1, 1, 1, 0, 1, 0, 0, 1, 0, 0, 1, 0]) (y := Code.cond (.tmp 169) (pc3 [1, 1, 1, 1, 1, 1, 1, 1, 1, 1, 1, 1, 1, 1, 0, 1, 0, 0, 1, 0, 0, 1, 1, 0]) .skip) rfl (k36 hbox hja (by omega) hc h4' (fun a5 h5 hb5 => ?_))
      rw [hdl] at hb5
      obtain ⟨go, oc', hgo, _, _⟩ := hR4.old.form (by omega)
      have e : (Value.slice oo A.length oc) = .slice (some ⟨go, 0, none⟩) A.length oc' := by rw [← hov]; exact hgo
      rw [e] at h5
      have c1 : w4.cell? ⟨go, j, none⟩ = some (.string v) := by
        have := hR4.old
        rw [hgo] at this
        rw [this.cellAt j (by omega)]
        simp [strs, hv1]
      refine wp_cond_true hb5 (k37 (go := go) hja (by omega) c1 (by simp; omega) (by have := B4.size; omega) o4 h5 (fun ov6 w6 a6 h6 o6 g6 => ?_))
      obtain ⟨ob, g6⟩ := g6
      rw [← e, ← hov] at h6
      refine fin ov6 w6 a6 h6 ?_ ((B4.alloc (by have := B4.size; omega) ob).grown g6 (by have := B4.size; simp; omega) (fun x hx => (o4.lt x hx).1))
      rw [hnx, take_succ' hv2]
      exact o6
    · have hc := (hR4.del.cell (bl_get A.length (delF MM) j hja)).1
      refine sq (x := pc3 [1, 1, 1, 1, 1, 1, 1, 1, 1, 1, 1, 1, 1, 1, 0, 1, 0, 0, 1, 0, 0, 1, 0]) (y := Code.cond (.tmp 169) (pc3 [1, 1, 1, 1, 1, 1, 1, 1, 1, 1, 1, 1, 1, 1, 0, 1, 0, 0, 1, 0, 0, 1, 1, 0]) .skip) rfl (k36 hbox hja (by omega) hc h4' (fun a5 h5 hb5 => ?_))
      rw [hdl] at hb5
      rw [← hov] at h5
      refine wp_cond_false hb5 (wp_skip (fin ov w4 a5 h5 ?_ B4))
      rw [hnx]; exact o4
    · refine sq (x := pc3 [1, 1, 1, 1, 1, 1, 1, 1, 1, 1, 1, 1, 1, 1, 0, 1, 0, 0, 1, 0, 0, 1, 0]) (y := Code.cond (.tmp 169) (pc3 [1, 1, 1, 1, 1, 1, 1, 1, 1, 1, 1, 1, 1, 1, 0, 1, 0, 0, 1, 0, 0, 1, 1, 0]) .skip) rfl (k36N (by omega) h4' (fun a5 h5 hb5 => ?_))
      rw [← hov] at h5
      refine wp_cond_false hb5 (wp_skip (fin ov w4 a5 h5 ?_ B4))
      rw [hnx]; exact o4
  refine wp_seq (wp_block (wp_seq ?_))
  rcases hat.cases hM.inc with ⟨mb, hq, ha, hgt⟩ | ⟨ha, hno⟩
  · have hqm := List.mem_of_getElem? hq
    have hql := hM.le _ hqm
    simp only at hql
    have htk : MM.take (t + 1) = MM.take t ++ [(j, mb)] := take_succ' hq
    have hstt := stt_snoc (MM.take t) (j, mb)
    rw [← htk, hS] at hstt
    have hd : MM.drop t = (j, mb) :: MM.drop (t + 1) := by
      obtain ⟨ht, e⟩ := List.getElem?_eq_some_iff.1 hq
      rw [← e]; exact List.drop_eq_getElem_cons ht
    have hbm : b0 ≤ mb := by
      have hp : (MM.take t ++ [(j, mb)]).Pairwise fun p q => p.1 < q.1 ∧ p.2 < q.2 := by rw [← htk]; exact hM.inc.sublist (List.take_sublist _ _)
      have := (nx_le (P := MM.take t) (x := j) (y := mb) (fun r hr => (List.pairwise_append.1 hp).2.2 r hr (j, mb) (by simp))).2
      rw [hS] at this
      exact this
    rw [hd] at hsp
    have hsp2 : (stt MM).2.2 = ins ++ ((if b0 < mb then [(j, b0, mb)] else []) ++ insFrom (mb + 1) (MM.drop (t + 1))) := hsp
    have hnext : ∀ x : Nat × Nat × Nat, x ∈ insFrom (mb + 1) (MM.drop (t + 1)) → x.1 ≠ j := fun x hx => by
      obtain ⟨q, hq', e1, _⟩ := insFrom_mem _ _ x hx
      have := hgt q hq'
      omega
    have hcase : ((j < A.length ∧ delF MM j = false ∧ ∃ v, A[j]? = some v ∧ B[mb]? = some v ∧ (stt (MM.take (t + 1))).2.1 = mb + 1) ∨ (j < A.length ∧ delF MM j = true ∧ (stt (MM.take (t + 1))).2.1 = mb) ∨ (j = A.length ∧ B.take (stt (MM.take (t + 1))).2.1 = B.take mb)) := by
      have hnx : (stt (MM.take (t + 1))).2.1 = mb + 1 := by rw [hstt]; rfl
      have hmem := hqm
      rw [hM.eq] at hmem
      rcases List.mem_append.1 hmem with g | g
      · obtain ⟨q1, q2, v, q3, q4⟩ := hM.rng _ g
        refine .inl ⟨q1, ?_, v, q3, q4, hnx⟩
        rw [hM.del q1]
        have : (MM.any fun q => q.1 == j) = true := List.any_eq_true.2 ⟨_, hqm, by simp⟩
        rw [this]; rfl
      · simp at g
        obtain ⟨g1, g2⟩ := g
        refine .inr (.inr ⟨g1, ?_⟩)
        rw [hnx, List.take_of_length_le (by omega), List.take_of_length_le (by omega)]
    by_cases hc : b0 < mb
    · rw [if_pos hc] at hsp2
      have hi2 : (stt (MM.take (t + 1))).2.2.length = ins.length + 1 := by
        rw [hstt]
        show (ins ++ (if b0 < mb then [(j, b0, mb)] else [])).length = _
        rw [if_pos hc]; simp
      refine kl6 (ka := ins.length) (kz := ins.length + 1) (ba := b0) (bz := mb) hm (by omega) hR hB (fun x hx => ?_) (by omega) hble (.inr ⟨?_, rfl, hc, hql.2⟩) hown h3 (fun ov w4 a4 h4 o4 B4 => ?_)
      · rw [hsp2, List.getElem?_append_right (by omega)] at hx
        have e : ins.length + 1 - ins.length = 0 + 1 := by omega
        rw [e, List.singleton_append, List.getElem?_cons_succ] at hx
        exact hnext x (List.mem_of_getElem? hx)
      · rw [hsp2, List.getElem?_append_right (Nat.le_refl _), Nat.sub_self]; rfl
      · exact rest mb (ins.length + 1) (t + 1) ov w4 a4 h4 o4 B4 ha hi2.symm (by omega) hcase
    · rw [if_neg hc, List.nil_append] at hsp2
      have hbe : b0 = mb := by omega
      subst hbe
      have hi2 : (stt (MM.take (t + 1))).2.2.length = ins.length := by
        rw [hstt]
        show (ins ++ (if b0 < b0 then [(j, b0, b0)] else [])).length = _
        rw [if_neg hc]; simp
      refine kl6 (ka := ins.length) (kz := ins.length) (ba := b0) (bz := b0) hm (by omega) hR hB (fun x hx => ?_) (by omega) hble (.inl ⟨rfl, rfl⟩) hown h3 (fun ov w4 a4 h4 o4 B4 => ?_)
      · rw [hsp2, List.getElem?_append_right (Nat.le_refl _)] at hx
        exact hnext x (List.mem_of_getElem? hx)
      · exact rest b0 ins.length (t + 1) ov w4 a4 h4 o4 B4 ha hi2.symm (by omega) hcase
  · have hja : j < A.length := by
      rcases (by omega : j < A.length ∨ j = A.length) with g | g
      · exact g
      · exfalso
        exact hno (A.length, B.length) (by rw [hM.eq]; simp) g.symm
    have hdl : delF MM j = true := by
      rw [hM.del hja]
      have : (MM.any fun q => q.1 == j) = false := by
        rw [List.any_eq_false]; intro q hq; simp; exact hno q hq
      rw [this]; rfl
    refine kl6 (ka := ins.length) (kz := ins.length) (ba := b0) (bz := b0) hm (by omega) hR hB (fun x hx => ?_) (by omega) hble (.inl ⟨rfl, rfl⟩) hown h3 (fun ov w4 a4 h4 o4 B4 => ?_)
    · rw [hsp, List.getElem?_append_right (Nat.le_refl _)] at hx
      obtain ⟨q, hq', e1, _⟩ := insFrom_mem _ _ x (List.mem_of_getElem? hx)
      rw [e1]
      exact hno q (List.mem_of_mem_drop hq')
    · exact rest b0 ins.length t ov w4 a4 h4 o4 B4 ha (by rw [hS]) hble (.inr (.inl ⟨hja, hdl, by rw [hS]⟩))

set_option maxRecDepth 20000 in
theorem kl5 {base : Nat} {outv : Value} (hm : B.length ≤ 300) (hl : RowS w gl B) (hown : w.ownsRow base 9 1 outv B.length (strs B)) (h : Fh v0 v1 v5 v6 (.slice (some ⟨gl, 0, none⟩) B.length B.length) v8 v9 v12 v13 v15 outv v17 v18 v19 v65 v66 v67 v82 v83 v84 (.int .i64 B.length) (.int .i64 ((0 : Nat) : Int)) a) (hQ : ∀ v19 v193 w' a', Fh v0 v1 v5 v6 (.slice (some ⟨gl, 0, none⟩) B.length B.length) v8 v9 v12 v13 v15 outv v17 v18 v19 v65 v66 v67 v82 v83 v84 (.int .i64 B.length) v193 a' → Only w w' [] → Q .normal a' w') : Code.wp Yba.prog (pc3 [1, 1, 1, 1, 1, 1, 1, 1, 1, 1, 1, 1, 1, 1, 1, 1, 0, 1]) Q a w := by
  show Code.wp Yba.prog (Code.block 8 (Code.loop (pc3 [1, 1, 1, 1, 1, 1, 1, 1, 1, 1, 1, 1, 1, 1, 1, 1, 0, 1, 0, 0]))) Q a w
  refine wp_block (wp_loop (fun a' w' => ∃ (i : Nat) (v19 : Value), Fh v0 v1 v5 v6 (.slice (some ⟨gl, 0, none⟩) B.length B.length) v8 v9 v12 v13 v15 outv v17 v18 v19 v65 v66 v67 v82 v83 v84 (.int .i64 B.length) (.int .i64 i) a' ∧ i ≤ B.length ∧ Only w w' []) (fun a' _ => (1000 - intOf (a'.tmps.getD 193 undef)).toNat) ⟨0, _, h, Nat.zero_le _, Only.refl _ _⟩ ?_)
  clear h
  rintro a2 w2 ⟨i, v19, h, hi, hO⟩
  have hμ : (1000 - intOf (a2.tmps.getD 193 undef)).toNat = (1000 - (i : Int)).toNat := by rw [h.e193]; rfl
  rw [hμ]
  clear hμ
  refine sq (x := pc3 [1, 1, 1, 1, 1, 1, 1, 1, 1, 1, 1, 1, 1, 1, 1, 1, 0, 1, 0, 0, 0]) (y := Code.seq (Code.cond (.tmp 194) .skip (.exit 8)) (Code.seq (Code.block 9 (Code.seq (pc3 [1, 1, 1, 1, 1, 1, 1, 1, 1, 1, 1, 1, 1, 1, 1, 1, 0, 1, 0, 0, 1, 1, 0, 0, 0]) (Code.seq (pc3 [1, 1, 1, 1, 1, 1, 1, 1, 1, 1, 1, 1, 1, 1, 1, 1, 0, 1, 0, 0, 1, 1, 0, 0, 1, 0]) (pc3 [1, 1, 1, 1, 1, 1, 1, 1, 1, 1, 1, 1, 1, 1, 1, 1, 0, 1, 0, 0, 1, 1, 0, 0, 1, 1])))) (pc3 [1, 1, 1, 1, 1, 1, 1, 1, 1, 1, 1, 1, 1, 1, 1, 1, 0, 1, 0, 0, 1, 1, 1]))) rfl (kh41 h (fun a3 h3 hb3 => ?_))
  by_cases hlt : i < B.length
  · rw [decide_eq_true hlt] at hb3
    refine wp_seq (wp_cond_true hb3 (wp_skip ?_))
    obtain ⟨s, hs⟩ : ∃ s, B[i]? = some s := ⟨B[i], by simp [hlt]⟩
    obtain ⟨go, oc, rfl, _, hgo⟩ := hown.form (by omega)
    have c1 : w2.cell? ⟨go, i, none⟩ = some (.string s) := by
      rw [World.cell?_of_block (a := ⟨go, i, none⟩) (hO.block go hgo (by simp)), hown.cellAt i (by omega)]
      simp [strs, hs]
    have c2 : w2.cell? ⟨gl, i, none⟩ = some (.string s) := by
      rw [World.cell?_of_block (a := ⟨gl, i, none⟩) (hO.block gl hl.lt (by simp))]
      exact (hl.cell hs).1
    refine wp_seq (wp_block (wp_seq (k42 h3 (fun a4 h4 => ?_))))
    refine wp_seq (k43 (go := go) hlt (by omega) c1 c2 h4 (fun nq a5 h5 hb5 => ?_))
    refine wp_cond_false hb5 (wp_skip ?_)
    refine ki45 h5 (by omega) (fun a6 h6 => ?_)
    refine ⟨⟨i + 1, _, h6, by omega, hO.drewN nq⟩, ?_⟩
    rw [h6.e193]
    show (1000 - ((i + 1 : Nat) : Int)).toNat < _
    omega
  · rw [decide_eq_false hlt] at hb3
    refine wp_seq (wp_cond_false hb3 (wp_exit ?_))
    show Exit.inBlock 8 Q (.exit 8) a3 w2
    exact inB (hQ _ _ w2 a3 h3 hO)

end Go.Proofs.Ybulkacye
