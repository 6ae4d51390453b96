import Derived.Test.YbulkacyeRebP
namespace Go.Proofs.Ybulkacye
open Go.RowKit Go.Proofs.Ybulkacye.Lcs
set_option linter.unusedVariables false
set_option linter.unusedSectionVars false
variable {v0 v1 v5 v6 v7 v8 v9 v12 v13 v15 v16 v17 v18 v19 v65 v66 v67 v82 v83 v84 v192 v193 : Value} {a : Act} {Q : Exit → Act → World → Prop} {w : World} {Wb gl gd gi go : Nat} {c : Nat} {bv ev vv iv oldv : Value} {MM M : List (Nat × Nat)} {A B : List ByteArray} {ao bo : Option Addr} {ca cb : Nat} {bs ns : List UInt8} {oo : Option Addr} {oc : Nat}

set_option maxRecDepth 20000 in
theorem kl1 (hM : Mms MM M A B) (hn : A.length ≤ 300) (hR : RbIs w Wb gd gl bv ev vv iv oldv (stt MM).2.2 (delF MM) A B) (h : Fh v0 v1 v5 v6 v7 v8 (.int .i64 ((0 : Nat) : Int)) v12 v13 v15 v16 v17 v18 v19 (.slice (some ⟨gd, 0, none⟩) A.length A.length) (.int .i64 A.length) (.int .i64 ((0 : Nat) : Int)) v82 v83 v84 v192 v193 a) (hQ : ∀ v67 a', Fh v0 v1 v5 v6 v7 v8 (.int .i64 M.length) v12 v13 v15 v16 v17 v18 v19 (.slice (some ⟨gd, 0, none⟩) A.length A.length) (.int .i64 A.length) v67 v82 v83 v84 v192 v193 a' → Q .normal a' w) : Code.wp Yba.prog (pc3 [1, 1, 1, 1, 1, 1, 0, 1]) Q a w := by
  have hml := hM.len
  have hsh := hM.short
  show Code.wp Yba.prog (Code.block 0 (Code.loop (pc3 [1, 1, 1, 1, 1, 1, 0, 1, 0, 0]))) Q a w
  refine wp_block (wp_loop (fun a' w' => ∃ (j t : Nat), Fh v0 v1 v5 v6 v7 v8 (.int .i64 t) v12 v13 v15 v16 v17 v18 v19 (.slice (some ⟨gd, 0, none⟩) A.length A.length) (.int .i64 A.length) (.int .i64 j) v82 v83 v84 v192 v193 a' ∧ j ≤ A.length ∧ At MM j t ∧ w' = w) (fun a' _ => (1000 - intOf (a'.tmps.getD 67 undef)).toNat) ⟨0, 0, h, Nat.zero_le _, At.zero MM, rfl⟩ ?_)
  clear h
  rintro a2 w2 ⟨j, t, h, hj, hat, rfl⟩
  have hμ : (1000 - intOf (a2.tmps.getD 67 undef)).toNat = (1000 - (j : Int)).toNat := by rw [h.e67]; rfl
  rw [hμ]
  clear hμ
  have htl := hat.le
  refine sq (x := pc3 [1, 1, 1, 1, 1, 1, 0, 1, 0, 0, 0]) (y := Code.seq (Code.cond (.tmp 68) .skip (.exit 0)) (Code.seq (Code.block 1 (pc3 [1, 1, 1, 1, 1, 1, 0, 1, 0, 0, 1, 1, 0, 0])) (pc3 [1, 1, 1, 1, 1, 1, 0, 1, 0, 0, 1, 1, 1]))) rfl (kh9 h (fun a3 h3 hb3 => ?_))
  by_cases hlt : j < A.length
  · rw [decide_eq_true hlt] at hb3
    refine wp_seq (wp_cond_true hb3 (wp_skip ?_))
    have hc := (hR.del.cell (bl_get A.length (delF MM) j hlt)).1
    refine wp_seq (wp_block (k1011 (cn := t) hlt (by omega) (by omega) hc h3 (fun a4 h4 => ?_)))
    refine ki13 h4 (by omega) (fun a5 h5 => ?_)
    have hd := hM.del hlt
    have fin : ∀ t', At MM (j + 1) t' → t' = (if delF MM j = true then t else t + 1) → (∃ (j t : Nat), Fh v0 v1 v5 v6 v7 v8 (.int .i64 t) v12 v13 v15 v16 v17 v18 v19 (.slice (some ⟨gd, 0, none⟩) A.length A.length) (.int .i64 A.length) (.int .i64 j) v82 v83 v84 v192 v193 a5 ∧ j ≤ A.length ∧ At MM j t ∧ w2 = w2) ∧ (1000 - intOf (a5.tmps.getD 67 undef)).toNat < (1000 - (j : Int)).toNat := by
      intro t' ha e
      refine ⟨⟨j + 1, t', by rw [e]; exact h5, by omega, ha, rfl⟩, ?_⟩
      rw [h5.e67]
      show (1000 - ((j + 1 : Nat) : Int)).toNat < _
      omega
    rcases hat.cases hM.inc with ⟨mb, hq, ha, _⟩ | ⟨ha, hno⟩
    · refine fin (t + 1) ha ?_
      have : (MM.any fun q => q.1 == j) = true := List.any_eq_true.2 ⟨_, List.mem_of_getElem? hq, by simp⟩
      rw [hd, this]; rfl
    · refine fin t ha ?_
      have : (MM.any fun q => q.1 == j) = false := by
        rw [List.any_eq_false]; intro q hq; simp; exact hno q hq
      rw [hd, this]; rfl
  · rw [decide_eq_false hlt] at hb3
    refine wp_seq (wp_cond_false hb3 (wp_exit ?_))
    show Exit.inBlock 0 Q (.exit 0) a3 w2
    refine inB ?_
    have e : j = A.length := by omega
    subst e
    have e2 := hM.atEnd hat
    subst e2
    exact hQ _ a3 h3

set_option maxRecDepth 20000 in
theorem kl2 (hM : Mms MM M A B) (hn : A.length ≤ 300) (hm : B.length ≤ 300) (hR : RbIs w Wb gd gl bv ev vv iv oldv (stt MM).2.2 (delF MM) A B) (h : Fh v0 v1 v5 oldv v7 v8 v9 (.int .i64 ((0 : Nat) : Int)) (.int .i64 ((0 : Nat) : Int)) v15 v16 v17 v18 v19 v65 v66 v67 iv (.int .i64 (stt MM).2.2.length) (.int .i64 ((0 : Nat) : Int)) v192 v193 a) (hQ : ∀ v13 v15 v84 w' a', Fh v0 v1 v5 oldv v7 v8 v9 (.int .i64 ((B.length - M.length : Nat) : Int)) v13 v15 v16 v17 v18 v19 v65 v66 v67 iv (.int .i64 (stt MM).2.2.length) v84 v192 v193 a' → Below w.heap.size w w' → Q .normal a' w') : Code.wp Yba.prog (pc3 [1, 1, 1, 1, 1, 1, 1, 1, 1, 1, 0, 1]) Q a w := by
  have htot := hM.tot
  have hins : (stt MM).2.2 = insFrom 0 MM := by have := stt_split [] MM; simpa [stt_nil] using this
  have hinc := insFrom_inc MM 0 hM.inc
  rw [← hins] at hinc
  have hil := ins_len MM
  have hml := hM.len
  have hsh := hM.short
  have hmem : ∀ t ∈ (stt MM).2.2, t.1 ≤ A.length ∧ t.2.2 ≤ B.length ∧ t.2.1 < t.2.2 := fun t ht => by
    rw [hins] at ht
    obtain ⟨q, hq, e1, e2, e3⟩ := insFrom_mem MM 0 t ht
    have := hM.le q hq
    omega
  show Code.wp Yba.prog (Code.block 2 (Code.loop (pc3 [1, 1, 1, 1, 1, 1, 1, 1, 1, 1, 0, 1, 0, 0]))) Q a w
  refine wp_block (wp_loop (fun a' w' => ∃ (k s pv : Nat) (v15 : Value), Fh v0 v1 v5 oldv v7 v8 v9 (.int .i64 s) (.int .i64 pv) v15 v16 v17 v18 v19 v65 v66 v67 iv (.int .i64 (stt MM).2.2.length) (.int .i64 k) v192 v193 a' ∧ k ≤ (stt MM).2.2.length ∧ s = tot ((stt MM).2.2.take k) ∧ (∀ t ∈ (stt MM).2.2.drop k, pv ≤ t.1) ∧ Below w.heap.size w w') (fun a' _ => (1000 - intOf (a'.tmps.getD 84 undef)).toNat) ⟨0, 0, 0, _, h, Nat.zero_le _, rfl, fun t ht => Nat.zero_le _, Below.refl _ _⟩ ?_)
  clear h
  rintro a2 w2 ⟨k, s, pv, v15, h, hk, hs, hpv, hB⟩
  have hμ : (1000 - intOf (a2.tmps.getD 84 undef)).toNat = (1000 - (k : Int)).toNat := by rw [h.e84]; rfl
  rw [hμ]
  clear hμ
  have hR2 := hR.below hB (Nat.le_refl _)
  refine sq (x := pc3 [1, 1, 1, 1, 1, 1, 1, 1, 1, 1, 0, 1, 0, 0, 0]) (y := Code.seq (Code.cond (.tmp 85) .skip (.exit 2)) (Code.seq (Code.block 3 (pc3 [1, 1, 1, 1, 1, 1, 1, 1, 1, 1, 0, 1, 0, 0, 1, 1, 0, 0])) (pc3 [1, 1, 1, 1, 1, 1, 1, 1, 1, 1, 0, 1, 0, 0, 1, 1, 1]))) rfl (kh19 h (fun a3 h3 hb3 => ?_))
  by_cases hlt : k < (stt MM).2.2.length
  · rw [decide_eq_true hlt] at hb3
    refine wp_seq (wp_cond_true hb3 (wp_skip ?_))
    obtain ⟨t, ht⟩ : ∃ t, (stt MM).2.2[k]? = some t := ⟨(stt MM).2.2[k], by simp [hlt]⟩
    obtain ⟨gi, ic, hiv, c1, c2⟩ := hR2.insAt ht
    have hd : (stt MM).2.2.drop k = t :: (stt MM).2.2.drop (k + 1) := by
      obtain ⟨_, rfl⟩ := List.getElem?_eq_some_iff.1 ht
      exact List.drop_eq_getElem_cons hlt
    have hp := hpv t (by rw [hd]; exact List.mem_cons_self)
    obtain ⟨q1, q2, q3⟩ := hmem t (List.mem_of_getElem? ht)
    have htk : tot ((stt MM).2.2.take (k + 1)) = s + (t.2.2 - t.2.1) := by rw [take_succ' ht, tot_app, hs]; simp [tot]
    have hle : tot ((stt MM).2.2.take k) ≤ tot (stt MM).2.2 := by
      have := tot_app ((stt MM).2.2.take k) ((stt MM).2.2.drop k)
      rw [List.take_append_drop] at this
      omega
    obtain ⟨oo, oc, hov⟩ := own_slice2 hR2.old
    rw [hiv, hov] at h3
    refine wp_seq (wp_block (k20 hlt (by omega) (by omega) (by omega) (by omega) hp q1 (by omega) c1 c2 h3 (fun a4 h4 => ?_)))
    refine ki25 h4 (by omega) (fun a5 h5 => ?_)
    rw [← hiv, ← hov] at h5
    refine ⟨⟨k + 1, s + (t.2.2 - t.2.1), t.1, _, h5, by omega, htk.symm, fun t' ht' => ?_, hB.alloc hB.size _⟩, ?_⟩
    · have hpd : ((stt MM).2.2.drop k).Pairwise fun t t' => t.1 < t'.1 := hinc.sublist (List.drop_sublist _ _)
      rw [hd] at hpd
      exact Nat.le_of_lt ((List.pairwise_cons.1 hpd).1 t' ht')
    · rw [h5.e84]
      show (1000 - ((k + 1 : Nat) : Int)).toNat < _
      omega
  · rw [decide_eq_false hlt] at hb3
    refine wp_seq (wp_cond_false hb3 (wp_exit ?_))
    show Exit.inBlock 2 Q (.exit 2) a3 w2
    refine inB ?_
    have e : k = (stt MM).2.2.length := by omega
    subst e
    rw [List.take_length] at hs
    have e2 : s = B.length - M.length := by omega
    subst e2
    exact hQ _ _ _ w2 a3 h3 hB

set_option maxRecDepth 20000 in
theorem kl6 {w0 : World} {j ka kz ba bz : Nat} {outv : Value} (hm : B.length ≤ 300) (hil : (stt MM).2.2.length ≤ 301) (hR : RbIs w Wb gd gl bv ev vv iv oldv (stt MM).2.2 (delF MM) A B) (hB0 : Below w.heap.size w w0) (hend : ∀ t, (stt MM).2.2[kz]? = some t → t.1 ≠ j) (hkz : kz ≤ 1000) (hba : ba ≤ B.length + 1) (hst : (ka = kz ∧ ba = bz) ∨ ((stt MM).2.2[ka]? = some (j, ba, bz) ∧ kz = ka + 1 ∧ ba < bz ∧ bz ≤ B.length))
    (hown : w0.ownsRow w.heap.size 9 1 outv (B.take ba).length (strs (B.take ba))) (h : Fh v0 v1 (.pointer (some ⟨Wb, 0, none⟩)) v6 v7 v8 v9 v12 v13 v15 outv (.int .i64 ka) (.int .i64 j) v19 v65 v66 v67 v82 v83 v84 v192 v193 a)
    (hQ : ∀ outv w' a', Fh v0 v1 (.pointer (some ⟨Wb, 0, none⟩)) v6 v7 v8 v9 v12 v13 v15 outv (.int .i64 kz) (.int .i64 j) v19 v65 v66 v67 v82 v83 v84 v192 v193 a' → w'.ownsRow w.heap.size 9 1 outv (B.take bz).length (strs (B.take bz)) → Below w.heap.size w w' → Q .normal a' w') : Code.wp Yba.prog (pc3 [1, 1, 1, 1, 1, 1, 1, 1, 1, 1, 1, 1, 1, 1, 0, 1, 0, 0, 1, 0, 0, 0]) Q a w0 := by
  show Code.wp Yba.prog (Code.block 6 (Code.loop (pc3 [1, 1, 1, 1, 1, 1, 1, 1, 1, 1, 1, 1, 1, 1, 0, 1, 0, 0, 1, 0, 0, 0, 0, 0]))) Q a w0
  refine wp_block (wp_loop (fun a' w' => ∃ (k : Nat) (outv : Value) (b : Nat), Fh v0 v1 (.pointer (some ⟨Wb, 0, none⟩)) v6 v7 v8 v9 v12 v13 v15 outv (.int .i64 k) (.int .i64 j) v19 v65 v66 v67 v82 v83 v84 v192 v193 a' ∧ w'.ownsRow w.heap.size 9 1 outv (B.take b).length (strs (B.take b)) ∧ Below w.heap.size w w' ∧ b ≤ B.length + 1 ∧ ((k = kz ∧ b = bz) ∨ (k = ka ∧ b = ba ∧ (stt MM).2.2[ka]? = some (j, ba, bz) ∧ kz = ka + 1 ∧ ba < bz ∧ bz ≤ B.length))) (fun a' _ => (1001 - intOf (a'.tmps.getD 17 undef)).toNat) ⟨ka, outv, ba, h, hown, hB0, hba, ?_⟩ ?_)
  · rcases hst with ⟨e1, e2⟩ | ⟨e1, e2, e3, e4⟩
    · exact .inl ⟨e1, e2⟩
    · exact .inr ⟨rfl, rfl, e1, e2, e3, e4⟩
  clear h hown hst hB0
  rintro a2 w2 ⟨k, outv, b, h, hown, hB, hbl, hst⟩
  have hμ : (1001 - intOf (a2.tmps.getD 17 undef)).toNat = (1001 - (k : Int)).toNat := by rw [h.e17]; rfl
  rw [hμ]
  clear hμ
  have hR2 := hR.below hB (Nat.le_refl _)
  rcases hst with ⟨rfl, rfl⟩ | ⟨rfl, rfl, hat, e2, e3, e4⟩
  · by_cases hlt : k < (stt MM).2.2.length
    · obtain ⟨t, ht⟩ : ∃ t, (stt MM).2.2[k]? = some t := ⟨(stt MM).2.2[k], by simp [hlt]⟩
      obtain ⟨gi, ic, hiv, c1, c2⟩ := hR2.insAt ht
      have c5 := blk_cell hR2.box 5 rfl
      rw [hiv] at c5
      exact sq (x := pc3 [1, 1, 1, 1, 1, 1, 1, 1, 1, 1, 1, 1, 1, 1, 0, 1, 0, 0, 1, 0, 0, 0, 0, 0, 0]) (y := Code.block 7 (pc3 [1, 1, 1, 1, 1, 1, 1, 1, 1, 1, 1, 1, 1, 1, 0, 1, 0, 0, 1, 0, 0, 0, 0, 0, 1, 0])) rfl (k33F (gi := gi) c5 hlt (by omega) (hend t ht) c1 h (fun a3 h3 => by show Exit.inBlock 6 Q (.exit 6) a3 w2; exact inB (hQ outv w2 a3 h3 hown hB)))
    · obtain ⟨io, ic, hiv⟩ := own_slice2 hR2.ins
      have c5 := blk_cell hR2.box 5 rfl
      rw [hiv] at c5
      exact sq (x := pc3 [1, 1, 1, 1, 1, 1, 1, 1, 1, 1, 1, 1, 1, 1, 0, 1, 0, 0, 1, 0, 0, 0, 0, 0, 0]) (y := Code.block 7 (pc3 [1, 1, 1, 1, 1, 1, 1, 1, 1, 1, 1, 1, 1, 1, 0, 1, 0, 0, 1, 0, 0, 0, 0, 0, 1, 0])) rfl (k33N c5 hlt h (fun a3 h3 => by show Exit.inBlock 6 Q (.exit 6) a3 w2; exact inB (hQ outv w2 a3 h3 hown hB)))
  · obtain ⟨gi, ic, hiv, c1, c2⟩ := hR2.insAt hat
    simp only at c1 c2
    have hlt := (List.getElem?_eq_some_iff.1 hat).1
    have c5 := blk_cell hR2.box 5 rfl
    rw [hiv] at c5
    refine sq (x := pc3 [1, 1, 1, 1, 1, 1, 1, 1, 1, 1, 1, 1, 1, 1, 0, 1, 0, 0, 1, 0, 0, 0, 0, 0, 0]) (y := Code.block 7 (Code.seq (pc3 [1, 1, 1, 1, 1, 1, 1, 1, 1, 1, 1, 1, 1, 1, 0, 1, 0, 0, 1, 0, 0, 0, 0, 0, 1, 0, 0]) (pc3 [1, 1, 1, 1, 1, 1, 1, 1, 1, 1, 1, 1, 1, 1, 0, 1, 0, 0, 1, 0, 0, 0, 0, 0, 1, 0, 1]))) rfl (k33T (gi := gi) c5 hlt (by omega) c1 h (fun a3 h3 => ?_))
    have hseg : ∀ x s, ((B.drop b).take (bz - b))[x]? = some s → w2.cell? ⟨gl, b + x, none⟩ = some (.string s) := fun x s hs => by
      have hx := (List.getElem?_eq_some_iff.1 hs).1
      rw [List.getElem?_take, if_pos (by simp at hx; omega), List.getElem?_drop] at hs
      exact (hR2.row.cell hs).1
    have hbz := hB.size
    have hcat : B.take b ++ (B.drop b).take (bz - b) = B.take bz := by
      rw [← List.take_add]; congr 1; omega
    refine wp_block (wp_seq (k34 (gi := gi) (gl := gl) c5 hlt (by omega) c2 (by simp; omega) hseg (by simp; omega) (by omega) (by omega) hown h3 (fun ov' w4 a4 h4 o4 g4 => ?_)))
    rw [hcat] at o4
    refine ki35 h4 (by omega) (fun a5 h5 => ?_)
    refine ⟨⟨k + 1, ov', bz, h5, o4, hB.grown g4 (by omega) (fun x hx => (hown.lt x hx).1), by omega, .inl ⟨e2.symm, rfl⟩⟩, ?_⟩
    rw [h5.e17]
    show (1001 - ((k + 1 : Nat) : Int)).toNat < _
    omega

end Go.Proofs.Ybulkacye
