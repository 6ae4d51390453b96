import Derived.Test.YbulkacyeDif3
namespace Go.Proofs.Ybulkacye
open Go.RowKit Go.Proofs.Ybulkacye.Lcs
set_option linter.unusedVariables false
set_option linter.unusedSectionVars false
variable {v0 v1 v5 v8 v9 v11 v12 v22 v23 v24 v54 v55 v56 : Value} {a : Act} {Q : Exit → Act → World → Prop} {w : World} {base Wb gl gd gp gm : Nat} {n m k : Nat} {R : Act → World → Prop}

/-- Where diff stands behind the matches P: the next places of both, and the inserts. -/
def stp (s : Nat × Nat × List (Nat × Nat × Nat)) (q : Nat × Nat) : Nat × Nat × List (Nat × Nat × Nat) := (q.1 + 1, q.2 + 1, s.2.2 ++ (if s.2.1 < q.2 then [(q.1, s.2.1, q.2)] else []))
def stt (P : List (Nat × Nat)) : Nat × Nat × List (Nat × Nat × Nat) := P.foldl stp (0, 0, [])
theorem stt_nil : stt [] = (0, 0, []) := rfl
theorem stt_snoc (P : List (Nat × Nat)) (q : Nat × Nat) : stt (P ++ [q]) = stp (stt P) q := by unfold stt; rw [List.foldl_append]; rfl
def delF (P : List (Nat × Nat)) (j : Nat) : Bool := decide (j < (stt P).1) && !(P.any fun q => q.1 == j)
def icells (gl m : Nat) (l : List (Nat × Nat × Nat)) : List Value := l.flatMap fun t => [.int .i64 (t.1 : Int), .slice (some ⟨gl, t.2.1, none⟩) (t.2.2 - t.2.1) (m - t.2.1)]
theorem icells_snoc (gl m : Nat) (l : List (Nat × Nat × Nat)) (t : Nat × Nat × Nat) : icells gl m (l ++ [t]) = icells gl m l ++ [.int .i64 (t.1 : Int), .slice (some ⟨gl, t.2.1, none⟩) (t.2.2 - t.2.1) (m - t.2.1)] := by simp [icells]
theorem concat_cases {α : Type} (P : List α) : P = [] ∨ ∃ P' q, P = P' ++ [q] := by
  rcases List.eq_nil_or_concat P with h | ⟨P', q, h⟩
  · exact .inl h
  · exact .inr ⟨P', q, by simpa using h⟩
theorem nx_le {P : List (Nat × Nat)} {x y : Nat} (h : ∀ q ∈ P, q.1 < x ∧ q.2 < y) : (stt P).1 ≤ x ∧ (stt P).2.1 ≤ y := by
  rcases concat_cases P with rfl | ⟨P', q, rfl⟩
  · simp [stt_nil]
  · rw [stt_snoc]
    have := h q (by simp)
    exact ⟨by show q.1 + 1 ≤ x; omega, by show q.2 + 1 ≤ y; omega⟩
theorem nx_gt {P : List (Nat × Nat)} (h : P.Pairwise fun p q => p.1 < q.1 ∧ p.2 < q.2) : ∀ q ∈ P, q.1 < (stt P).1 := by
  rcases concat_cases P with rfl | ⟨P', r, rfl⟩
  · intro q hq; cases hq
  · intro q hq
    rw [stt_snoc]
    show q.1 < r.1 + 1
    rcases List.mem_append.1 hq with g | g
    · have := (List.pairwise_append.1 h).2.2 q g r (by simp)
      omega
    · simp at g; subst g; omega
theorem ins_len (P : List (Nat × Nat)) : (stt P).2.2.length ≤ P.length := by
  have key : ∀ (P : List (Nat × Nat)) s, (P.foldl stp s).2.2.length ≤ s.2.2.length + P.length := by
    intro P
    induction P with
    | nil => intro s; simp
    | cons q P ih =>
      intro s
      rw [List.foldl_cons]
      have := ih (stp s q)
      have e : (stp s q).2.2.length ≤ s.2.2.length + 1 := by
        unfold stp; simp only [List.length_append]; split <;> simp
      simp only [List.length_cons]
      omega
  have := key P (0, 0, [])
  simpa [stt] using this
theorem del_step {P : List (Nat × Nat)} {q : Nat × Nat} (h : (P ++ [q]).Pairwise fun p q => p.1 < q.1 ∧ p.2 < q.2) (j : Nat) : (delF P j || (decide ((stt P).1 ≤ j) && decide (j < q.1))) = delF (P ++ [q]) j := by
  obtain ⟨hp, _, hx⟩ := List.pairwise_append.1 h
  have hgt := nx_gt hp
  have hle := (nx_le (P := P) (x := q.1) (y := q.2) (fun r hr => hx r hr q (by simp))).1
  unfold delF
  rw [stt_snoc]
  have e1 : (stp (stt P) q).1 = q.1 + 1 := rfl
  rw [e1, List.any_append]
  simp only [List.any_cons, List.any_nil, Bool.or_false]
  by_cases c1 : j < (stt P).1
  · have c2 : ¬ (stt P).1 ≤ j := by omega
    have c3 : j < q.1 + 1 := by omega
    have c4 : (q.1 == j) = false := by simp; omega
    simp [c1, c2, c3, c4]
  · have c2 : (stt P).1 ≤ j := by omega
    have c5 : P.any (fun q => q.1 == j) = false := by
      rw [List.any_eq_false]
      intro r hr
      have := hgt r hr
      simp; omega
    rw [c5]
    by_cases c3 : j < q.1
    · have c4 : (q.1 == j) = false := by simp; omega
      simp [c1, c2, c3, c4]; omega
    · by_cases c4 : j = q.1
      · subst c4; simp [c1]
      · have : ¬ j < q.1 + 1 := by omega
        simp [c1, c3, this]

set_option maxRecDepth 20000 in
theorem dl2 {gf cf : Nat} {bv ev vv : Value} {MM : List (Nat × Nat)} (hn : n ≤ 300) (hm : m ≤ 300) (hM : MM.length ≤ 301) (hinc : MM.Pairwise fun p q => p.1 < q.1 ∧ p.2 < q.2) (hin : ∀ q ∈ MM, q.1 ≤ n ∧ q.2 ≤ m)
    (lW : Wb < base) (ld : gd < base) (lp : gp < base) (lf : gf < base) (nWd : Wb ≠ gd) (nWp : Wb ≠ gp) (ndp : gd ≠ gp) (nfW : gf ≠ Wb) (nfd : gf ≠ gd) (nfp : gf ≠ gp) (hbw : base ≤ w.heap.size)
    (hbox : w.heap[Wb]? = some (.cells #[.int .i64 1, bv, ev, vv, .slice (some ⟨gd, 0, none⟩) n n, .slice none 0 0] 32 (0, 0))) (hr : RowB w gd (bl n fun _ => false)) (hp : w.heap[gp]? = some (.cells #[.int .i64 (-1), .int .i64 (-1)] 57 (0, 0)))
    (hf : ∀ (k : Nat) (q : Nat × Nat), MM[k]? = some q → w.cell? ⟨gf, k * 2, none⟩ = some (.int .i64 (q.1 : Int)) ∧ w.cell? ⟨gf, k * 2 + 1, none⟩ = some (.int .i64 (q.2 : Int)))
    (h : Ff (.pointer (some ⟨Wb, 0, none⟩)) (.slice (some ⟨gl, 0, none⟩) m m) v5 v8 (.pointer (some ⟨gp, 0, none⟩)) v11 v12 v22 v23 v24 (.slice (some ⟨gf, 0, none⟩) MM.length cf) (.int .i64 MM.length) (.int .i64 ((0 : Nat) : Int)) a)
    (hQ : ∀ iv v11 v12 v56 w' a', Ff (.pointer (some ⟨Wb, 0, none⟩)) (.slice (some ⟨gl, 0, none⟩) m m) v5 v8 (.pointer (some ⟨gp, 0, none⟩)) v11 v12 v22 v23 v24 (.slice (some ⟨gf, 0, none⟩) MM.length cf) (.int .i64 MM.length) v56 a' → w'.heap[Wb]? = some (.cells #[.int .i64 1, bv, ev, vv, .slice (some ⟨gd, 0, none⟩) n n, iv] 32 (0, 0)) → w'.ownsRow base 34 2 iv (stt MM).2.2.length (icells gl m (stt MM).2.2) → RowB w' gd (bl n (delF MM)) → Kp base [Wb, gd, gp] w w' → Q .normal a' w') : Code.wp Yba.prog (pc8 [1, 1, 1, 1, 1, 1, 0, 1]) Q a w := by
  show Code.wp Yba.prog (Code.block 2 (Code.loop (pc8 [1, 1, 1, 1, 1, 1, 0, 1, 0, 0]))) Q a w
  refine wp_block (wp_loop (fun a' w' => ∃ (k : Nat) (iv v11 v12 : Value), Ff (.pointer (some ⟨Wb, 0, none⟩)) (.slice (some ⟨gl, 0, none⟩) m m) v5 v8 (.pointer (some ⟨gp, 0, none⟩)) v11 v12 v22 v23 v24 (.slice (some ⟨gf, 0, none⟩) MM.length cf) (.int .i64 MM.length) (.int .i64 k) a' ∧ k ≤ MM.length ∧ w'.heap[Wb]? = some (.cells #[.int .i64 1, bv, ev, vv, .slice (some ⟨gd, 0, none⟩) n n, iv] 32 (0, 0)) ∧ w'.ownsRow base 34 2 iv (stt (MM.take k)).2.2.length (icells gl m (stt (MM.take k)).2.2) ∧ RowB w' gd (bl n (delF (MM.take k))) ∧ w'.heap[gp]? = some (.cells #[.int .i64 (((stt (MM.take k)).1 : Int) - 1), .int .i64 (((stt (MM.take k)).2.1 : Int) - 1)] 57 (0, 0)) ∧ Kp base [Wb, gd, gp] w w' ∧ base ≤ w'.heap.size) (fun a' _ => (1000 - intOf (a'.tmps.getD 56 undef)).toNat) ⟨0, _, _, _, h, Nat.zero_le _, hbox, World.ownsRow_nil _ _ _ _, hr, hp, Kp.refl _ _ _, hbw⟩ ?_)
  clear h hbox hr hp
  rintro a2 w2 ⟨k, iv, v11, v12, h, hk, hbox, hown, hr, hp, hK, hbz⟩
  have hμ : (1000 - intOf (a2.tmps.getD 56 undef)).toNat = (1000 - (k : Int)).toNat := by rw [h.e56]; rfl
  rw [hμ]
  clear hμ
  refine sq (x := pc8 [1, 1, 1, 1, 1, 1, 0, 1, 0, 0, 0]) (y := Code.seq (Code.cond (.tmp 57) .skip (.exit 2)) (Code.seq (Code.block 3 (pc8 [1, 1, 1, 1, 1, 1, 0, 1, 0, 0, 1, 1, 0, 0])) (pc8 [1, 1, 1, 1, 1, 1, 0, 1, 0, 0, 1, 1, 1]))) rfl (dh11 h (fun a3 h3 hb3 => ?_))
  by_cases hlt : k < MM.length
  · rw [decide_eq_true hlt] at hb3
    refine wp_seq (wp_cond_true hb3 (wp_skip ?_))
    obtain ⟨⟨ma, mb⟩, hq⟩ : ∃ q, MM[k]? = some q := ⟨MM[k], by simp [hlt]⟩
    have htk : MM.take (k + 1) = MM.take k ++ [(ma, mb)] := take_succ' hq
    obtain ⟨ha, hb⟩ := hin _ (List.mem_of_getElem? hq)
    simp only at ha hb
    have hinc2 : (MM.take k ++ [(ma, mb)]).Pairwise fun p q => p.1 < q.1 ∧ p.2 < q.2 := by rw [← htk]; exact hinc.sublist (List.take_sublist _ _)
    have hle := nx_le (P := MM.take k) (x := ma) (y := mb) (fun r hr => (List.pairwise_append.1 hinc2).2.2 r hr (ma, mb) (by simp))
    have hil := ins_len (MM.take k)
    have htl : (MM.take k).length = k := by simp; omega
    have hstt := stt_snoc (MM.take k) (ma, mb)
    have hds := del_step hinc2
    rw [← htk] at hstt hds
    obtain ⟨f1, f2⟩ := hf k _ hq
    have f1' : w2.cell? ⟨gf, k * 2, none⟩ = some (.int .i64 (ma : Int)) := by rw [World.cell?_of_block (a := ⟨gf, k * 2, none⟩) (hK.block gf lf (by simp; exact ⟨nfW, nfd, nfp⟩))]; exact f1
    have f2' : w2.cell? ⟨gf, k * 2 + 1, none⟩ = some (.int .i64 (mb : Int)) := by rw [World.cell?_of_block (a := ⟨gf, k * 2 + 1, none⟩) (hK.block gf lf (by simp; exact ⟨nfW, nfd, nfp⟩))]; exact f2
    generalize hS : stt (MM.take k) = st at *
    obtain ⟨a0, b0, ins⟩ := st
    simp only at hle hil hown hp
    refine wp_seq (wp_block ?_)
    refine sq (x := pc8 [1, 1, 1, 1, 1, 1, 0, 1, 0, 0, 1, 1, 0, 0, 0]) (y := pc8 [1, 1, 1, 1, 1, 1, 0, 1, 0, 0, 1, 1, 0, 0, 1]) rfl (d12 hlt (by omega) f1' f2' h3 (fun a4 h4 => ?_))
    -- the local m
    obtain ⟨w4, e4⟩ : ∃ w4, w4 = w2.alloc (.cells #[.int .i64 (ma : Int), .int .i64 (mb : Int)] 57) := ⟨_, rfl⟩
    have s4 : w4.heap.size = w2.heap.size + 1 := by rw [e4]; simp
    have k4 : ∀ g, g < w2.heap.size → w4.heap[g]? = w2.heap[g]? := fun g hg => by rw [e4, Below.heap_alloc _ _ _ hg]
    have m4 : w4.heap[w2.heap.size]? = some (.cells #[.int .i64 (ma : Int), .int .i64 (mb : Int)] 57 (0, 0)) := by rw [e4]; exact heap_alloc_new w2 _
    have K4 : Kp base [Wb, gd, gp] w w4 := by rw [e4]; exact hK.alloc hbz _
    rw [← e4]
    clear e4
    have x4 : w4.heap[Wb]? = _ := (k4 Wb (by omega)).trans hbox
    have r4 : RowB w4 gd (bl n (delF (MM.take k))) := hr.congr (k4 gd (by omega))
    have p4 : w4.heap[gp]? = _ := (k4 gp (by omega)).trans hp
    have o4 := ownsRow_congr hown (fun g hg => k4 g (hown.lt g hg).2)
    refine sq (x := pc8 [1, 1, 1, 1, 1, 1, 0, 1, 0, 0, 1, 1, 0, 0, 1, 0]) (y := pc8 [1, 1, 1, 1, 1, 1, 0, 1, 0, 0, 1, 1, 0, 0, 1, 1]) rfl ?_
    refine sq (x := pc8 [1, 1, 1, 1, 1, 1, 0, 1, 0, 0, 1, 1, 0, 0, 1, 0, 0]) (y := pc8 [1, 1, 1, 1, 1, 1, 0, 1, 0, 0, 1, 1, 0, 0, 1, 0, 1]) rfl (d13 (a0 := a0) (by omega) (blk_cell p4 0 rfl) h4 (fun a5 h5 => ?_))
    refine dl4 (by omega) hle.1 ha (blk_cell x4 4 rfl) (blk_cell m4 0 rfl) (by omega) (by omega) nWd (by omega) h5 r4 (fun v12' w6 a6 h6 r6 O6 => ?_)
    have s6 := O6.size
    have k6 : ∀ g, g < w4.heap.size → g ≠ gd → w6.heap[g]? = w4.heap[g]? := fun g hg hne => O6.block g hg (by simp; exact hne)
    have x6 : w6.heap[Wb]? = _ := (k6 Wb (by omega) nWd).trans x4
    have p6 : w6.heap[gp]? = _ := (k6 gp (by omega) (fun e => ndp e.symm)).trans p4
    have m6 : w6.heap[w2.heap.size]? = _ := (k6 w2.heap.size (by omega) (by omega)).trans m4
    have o6 := ownsRow_congr o4 (fun g hg => k6 g (o4.lt g hg).2 (by have := (o4.lt g hg).1; omega))
    have K6 : Kp base [Wb, gd, gp] w w6 := K4.trans (Kp.ofOnly O6 (by omega) (by simp))
    have r6' : RowB w6 gd (bl n (delF (MM.take (k + 1)))) := by
      have e : bl n (fun x => delF (MM.take k) x || (decide (a0 ≤ x) && decide (x < ma))) = bl n (delF (MM.take (k + 1))) := bl_congr (fun x _ => hds x)
      rw [← e]; exact r6
    refine sq (x := pc8 [1, 1, 1, 1, 1, 1, 0, 1, 0, 0, 1, 1, 0, 0, 1, 1, 0]) (y := pc8 [1, 1, 1, 1, 1, 1, 0, 1, 0, 0, 1, 1, 0, 0, 1, 1, 1]) rfl ?_
    refine sq (x := pc8 [1, 1, 1, 1, 1, 1, 0, 1, 0, 0, 1, 1, 0, 0, 1, 1, 0, 0]) (y := Code.cond (.tmp 80) (pc8 [1, 1, 1, 1, 1, 1, 0, 1, 0, 0, 1, 1, 0, 0, 1, 1, 0, 1, 0]) .skip) rfl (d17 (b0 := b0) (by omega) (blk_cell m6 1 rfl) (blk_cell p6 1 rfl) h6 (fun a7 h7 hb7 => ?_))
    have rest : ∀ (iv' : Value) (w8 : World) (a8 : Act), Ff (.pointer (some ⟨Wb, 0, none⟩)) (.slice (some ⟨gl, 0, none⟩) m m) v5 v8 (.pointer (some ⟨gp, 0, none⟩)) (.pointer (some ⟨w2.heap.size, 0, none⟩)) v12' v22 v23 v24 (.slice (some ⟨gf, 0, none⟩) MM.length cf) (.int .i64 MM.length) (.int .i64 k) a8 → w8.heap[Wb]? = some (.cells #[.int .i64 1, bv, ev, vv, .slice (some ⟨gd, 0, none⟩) n n, iv'] 32 (0, 0)) → w8.ownsRow base 34 2 iv' (stt (MM.take (k + 1))).2.2.length (icells gl m (stt (MM.take (k + 1))).2.2) → (∀ g, g < w6.heap.size → g ≠ Wb → some g ≠ iv.ownBlock → w8.heap[g]? = w6.heap[g]?) → w6.heap.size ≤ w8.heap.size → Kp base [Wb, gd, gp] w w8 →
        Code.wp Yba.prog (pc8 [1, 1, 1, 1, 1, 1, 0, 1, 0, 0, 1, 1, 0, 0, 1, 1, 1]) (Exit.inBlock 3 (Exit.then (Code.wp Yba.prog (pc8 [1, 1, 1, 1, 1, 1, 0, 1, 0, 0, 1, 1, 1]) (Exit.then (fun a' w' => (∃ (k : Nat) (iv v11 v12 : Value), Ff (.pointer (some ⟨Wb, 0, none⟩)) (.slice (some ⟨gl, 0, none⟩) m m) v5 v8 (.pointer (some ⟨gp, 0, none⟩)) v11 v12 v22 v23 v24 (.slice (some ⟨gf, 0, none⟩) MM.length cf) (.int .i64 MM.length) (.int .i64 k) a' ∧ k ≤ MM.length ∧ w'.heap[Wb]? = some (.cells #[.int .i64 1, bv, ev, vv, .slice (some ⟨gd, 0, none⟩) n n, iv] 32 (0, 0)) ∧ w'.ownsRow base 34 2 iv (stt (MM.take k)).2.2.length (icells gl m (stt (MM.take k)).2.2) ∧ RowB w' gd (bl n (delF (MM.take k))) ∧ w'.heap[gp]? = some (.cells #[.int .i64 (((stt (MM.take k)).1 : Int) - 1), .int .i64 (((stt (MM.take k)).2.1 : Int) - 1)] 57 (0, 0)) ∧ Kp base [Wb, gd, gp] w w' ∧ base ≤ w'.heap.size) ∧ (1000 - intOf (a'.tmps.getD 56 undef)).toNat < (1000 - (k : Int)).toNat) (Exit.inBlock 2 Q))) (Exit.then (fun a' w' => (∃ (k : Nat) (iv v11 v12 : Value), Ff (.pointer (some ⟨Wb, 0, none⟩)) (.slice (some ⟨gl, 0, none⟩) m m) v5 v8 (.pointer (some ⟨gp, 0, none⟩)) v11 v12 v22 v23 v24 (.slice (some ⟨gf, 0, none⟩) MM.length cf) (.int .i64 MM.length) (.int .i64 k) a' ∧ k ≤ MM.length ∧ w'.heap[Wb]? = some (.cells #[.int .i64 1, bv, ev, vv, .slice (some ⟨gd, 0, none⟩) n n, iv] 32 (0, 0)) ∧ w'.ownsRow base 34 2 iv (stt (MM.take k)).2.2.length (icells gl m (stt (MM.take k)).2.2) ∧ RowB w' gd (bl n (delF (MM.take k))) ∧ w'.heap[gp]? = some (.cells #[.int .i64 (((stt (MM.take k)).1 : Int) - 1), .int .i64 (((stt (MM.take k)).2.1 : Int) - 1)] 57 (0, 0)) ∧ Kp base [Wb, gd, gp] w w' ∧ base ≤ w'.heap.size) ∧ (1000 - intOf (a'.tmps.getD 56 undef)).toNat < (1000 - (k : Int)).toNat) (Exit.inBlock 2 Q)))) a8 w8 := by
      intro iv' w8 a8 h8 x8 o8 k8 s8 K8
      have hiv : ∀ g, iv.ownBlock = some g → base ≤ g ∧ g < w2.heap.size := fun g hg => hown.lt g hg
      have m8 : w8.heap[w2.heap.size]? = _ := (k8 w2.heap.size (by omega) (by omega) (fun e => by have := (hiv _ e.symm).2; omega)).trans m6
      have p8 : w8.heap[gp]? = _ := (k8 gp (by omega) (fun e => nWp e.symm) (fun e => by have := (hiv _ e.symm).1; omega)).trans p6
      have r8 : RowB w8 gd (bl n (delF (MM.take (k + 1)))) := r6'.congr (k8 gd (by omega) (fun e => nWd e.symm) (fun e => by have := (hiv _ e.symm).1; omega))
      refine d19 (blk_cell m8 0 rfl) (blk_cell m8 1 rfl) (blk_cell p8 0 rfl) (blk_cell p8 1 rfl) (by simp [World.frozen?, p8]) (by simp [World.frozen?, p8]) h8 (fun a9 h9 => ?_)
      refine di20 h9 (by omega) (fun a10 h10 => ?_)
      refine ⟨⟨k + 1, iv', _, _, h10, by omega, ?_, ?_, ?_, ?_, ?_, ?_⟩, ?_⟩
      · rw [Below.heap_setCell _ _ _ _ (by exact nWp), Below.heap_setCell _ _ _ _ (by exact nWp)]; exact x8
      · refine ownsRow_congr o8 (fun g hg => ?_)
        have hgb := (o8.lt g hg).1
        rw [Below.heap_setCell _ _ _ _ (by show g ≠ gp; omega), Below.heap_setCell _ _ _ _ (by show g ≠ gp; omega)]
      · exact r8.congr (by rw [Below.heap_setCell _ _ _ _ (by exact ndp), Below.heap_setCell _ _ _ _ (by exact ndp)])
      · have := blk_setCell_same (j := 1) (blk_setCell_same (j := 0) p8 (.int .i64 (ma : Int))) (.int .i64 (mb : Int))
        rw [this, hstt]
        show some (Obj.cells #[.int .i64 (ma : Int), .int .i64 (mb : Int)] 57 (0, 0)) = some (Obj.cells #[.int .i64 (((ma + 1 : Nat) : Int) - 1), .int .i64 (((mb + 1 : Nat) : Int) - 1)] 57 (0, 0))
        have e1 : ((ma + 1 : Nat) : Int) - 1 = ma := by omega
        have e2 : ((mb + 1 : Nat) : Int) - 1 = mb := by omega
        rw [e1, e2]
      · exact (K8.setCell _ _ (.inl (by simp))).setCell _ _ (.inl (by simp))
      · simp [World.setCell]; omega
      · rw [h10.e56]
        show (1000 - ((k + 1 : Nat) : Int)).toNat < _
        omega
    by_cases hc : b0 < mb
    · rw [decide_eq_true hc] at hb7
      have hins : (stt (MM.take (k + 1))).2.2 = ins ++ [(ma, b0, mb)] := by rw [hstt]; show ins ++ (if b0 < mb then [(ma, b0, mb)] else []) = _; rw [if_pos hc]
      refine wp_cond_true hb7 (wp_mono (d18 (ma := ma) (mb := mb) (b0 := b0) (base := base) hc hb (by omega) (by omega) (by omega) (by omega) (by omega) (by omega) (blk_cell x6 5 rfl) (by simp [World.frozen?, x6]) (fun e => by have := (o6.lt Wb e.symm).1; omega) (blk_cell m6 0 rfl) (blk_cell m6 1 rfl) (blk_cell p6 1 rfl) o6 h7 (R := fun a' w' => Ff (.pointer (some ⟨Wb, 0, none⟩)) (.slice (some ⟨gl, 0, none⟩) m m) v5 v8 (.pointer (some ⟨gp, 0, none⟩)) (.pointer (some ⟨w2.heap.size, 0, none⟩)) v12' v22 v23 v24 (.slice (some ⟨gf, 0, none⟩) MM.length cf) (.int .i64 MM.length) (.int .i64 k) a' ∧ ∃ iv' w1, w1.ownsRow base 34 2 iv' (ins.length + 1) (icells gl m ins ++ [.int .i64 (ma : Int), .slice (some ⟨gl, b0, none⟩) (mb - b0) (m - b0)]) ∧ (∃ ob, (w6.alloc ob).grownBy w1 iv.ownBlock) ∧ w' = w1.setCell ⟨Wb, 5, none⟩ iv') (fun iv' w1 a' q1 q2 q3 => ⟨q1, iv', w1, q2, q3, rfl⟩)) ?_)
      intro e a8 w8 he
      cases e with
      | normal =>
        obtain ⟨h8, iv', w1, q2, ⟨ob, q3⟩, rfl⟩ := he
        have s1 := q3.size
        simp at s1
        have x1 : w1.heap[Wb]? = _ := ((q3.block Wb (by simp; omega) (fun e => by have := (o6.lt Wb e.symm).1; omega)).trans (Below.heap_alloc _ _ _ (by omega))).trans x6
        refine rest iv' _ a8 h8 ?_ ?_ ?_ ?_ ?_
        · rw [blk_setCell_same x1]; rfl
        · rw [hins, List.length_append, icells_snoc]
          refine ownsRow_congr q2 (fun g hg => Below.heap_setCell _ _ _ _ ?_)
          have := (q2.lt g hg).1
          show g ≠ Wb
          omega
        · intro g hg hgW hgi
          rw [Below.heap_setCell _ _ _ _ (by exact hgW), q3.block g (by simp; omega) hgi, Below.heap_alloc _ _ _ hg]
        · simp [World.setCell]; omega
        · exact (((K6.alloc (by omega) ob).grown (by simp; omega) q3 (fun g hg => (o6.lt g hg).1))).setCell _ _ (.inl (by simp))
      | _ => exact absurd he (by intro h; exact h)
    · rw [decide_eq_false hc] at hb7
      have hins : (stt (MM.take (k + 1))).2.2 = ins := by rw [hstt]; show ins ++ (if b0 < mb then [(ma, b0, mb)] else []) = _; rw [if_neg hc, List.append_nil]
      refine wp_cond_false hb7 (wp_skip ?_)
      exact rest iv w6 a7 h7 x6 (by rw [hins]; exact o6) (fun g _ _ _ => rfl) (Nat.le_refl _) K6
  · rw [decide_eq_false hlt] at hb3
    refine wp_seq (wp_cond_false hb3 (wp_exit ?_))
    show Exit.inBlock 2 Q (.exit 2) a3 w2
    refine inB ?_
    have e : k = MM.length := by omega
    subst e
    rw [List.take_length] at hown hr
    exact hQ iv _ _ _ w2 a3 h3 hbox hown hr hK

end Go.Proofs.Ybulkacye
