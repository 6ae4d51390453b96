import Derived.Test.YbulkacyeDif4
namespace Go.Proofs.Ybulkacye
open Go.RowKit Go.Proofs.Ybulkacye.Lcs
set_option linter.unusedVariables false
set_option linter.unusedSectionVars false
variable {v0 v1 v5 v8 v9 v11 v12 v22 v23 v24 v54 v55 v56 : Value} {a : Act} {Q : Exit → Act → World → Prop} {w : World} {base Wb gl gd gp gm : Nat} {n m k : Nat} {R : Act → World → Prop}

set_option maxRecDepth 20000 in
set_option maxHeartbeats 4000000 in
theorem d21 {fo : Option Addr} {nM fc : Nat} (h : Ff v0 v1 v5 (.slice fo nM fc) v9 v11 v12 v22 v23 v24 v54 v55 v56 a) (hQ : ∀ a', a'.defers = [] → a'.tmps.getD 4 undef = .int .i64 (nM : Int) → Q .ret a' w) : Code.wp Yba.prog (pc8 [1, 1, 1, 1, 1, 1, 1]) Q a w := by
  obtain ⟨u, rfl⟩ := h.lay
  clear h
  conv => arg 2; whnf
  go_wp2
  exact hQ _ rfl rfl

theorem lnOf_size (b : UInt8) : (lnOf b).size = 2 := rfl
/-- What diff leaves. -/
structure DiffIs (w w' : World) (bs : List UInt8) (LN : List ByteArray) (Wb gl gd : Nat) (bv ev vv iv : Value) (M : List (Nat × Nat)) : Prop where
  cmn : Cmn (olds bs) LN (olds bs).length LN.length 0 0 M
  len : M.length = L (olds bs) LN
  box : w'.heap[Wb]? = some (.cells #[.int .i64 1, bv, ev, vv, .slice (some ⟨gd, 0, none⟩) (olds bs).length (olds bs).length, iv] 32 (0, 0))
  del : RowB w' gd (bl (olds bs).length (delF (M ++ [((olds bs).length, LN.length)])))
  ins : w'.ownsRow w.heap.size 34 2 iv (stt (M ++ [((olds bs).length, LN.length)])).2.2.length (icells gl LN.length (stt (M ++ [((olds bs).length, LN.length)])).2.2)
  only : Only w w' [Wb]
set_option maxRecDepth 20000 in
theorem diff_any {B : Nat} {bv ev vv : Value} {bs : List UInt8} {LN : List ByteArray} (hl : bs.length ≤ 300) (hl2 : LN.length ≤ 300) (hsz : ∀ s ∈ LN, s.size ≤ 1000) (hW : WvG w B Wb bv ev vv (.slice none 0 0) (.slice none 0 0) (bodyOf bs) (endsOf bs) (versOf bs)) (hr : RowS w gl LN) (hgl : gl ∉ wf Wb bv ev vv) :
    Calls Yba.prog 8 #[.pointer (some ⟨Wb, 0, none⟩), .slice (some ⟨gl, 0, none⟩) LN.length LN.length] w fun e w' => ∃ (gd : Nat) (iv : Value) (M : List (Nat × Nat)), e = .returned (.int .i64 (M.length : Int)) ∧ DiffIs w w' bs LN Wb gl gd bv ev vv iv M := by
  have hol := olds_le bs
  have hvs := versOf_len bs
  obtain ⟨vo, cv, rfl⟩ := own_slice2 hW.ov
  have hvc := hW.cells.2.2.1
  have hlW := (hW.lt Wb (by simp [wf])).2
  have hlg := hr.lt
  go_enter Yba.func8, Yba.ntmps8
  show Code.wp Yba.prog (pc8 []) _ _ w
  have h0 : Ff (.pointer (some ⟨Wb, 0, none⟩)) (.slice (some ⟨gl, 0, none⟩) LN.length LN.length) undef undef undef undef undef undef undef undef undef undef undef ⟨#[.pointer (some ⟨Wb, 0, none⟩), .slice (some ⟨gl, 0, none⟩) LN.length LN.length, undef, undef, undef, undef, undef, undef, undef, undef, undef, undef, undef, undef, undef, undef, undef, undef, undef, undef, undef, undef, undef, undef, undef, undef, undef, undef, undef, undef, undef, undef, undef, undef, undef, undef, undef, undef, undef, undef, undef, undef, undef, undef, undef, undef, undef, undef, undef, undef, undef, undef, undef, undef, undef, undef, undef, undef, undef, undef, undef, undef, undef, undef, undef, undef, undef, undef, undef, undef, undef, undef, undef, undef, undef, undef, undef, undef, undef, undef, undef, undef, undef, undef, undef, undef, undef, undef, undef, undef, undef, undef, undef, undef, undef, undef, undef, undef, undef, undef, undef, undef, undef, undef], []⟩ := ⟨rfl, rfl, rfl, rfl, rfl, rfl, rfl, rfl, rfl, rfl, rfl, rfl, rfl, rfl, rfl⟩
  refine sq (x := pc8 [0]) (y := pc8 [1]) rfl (d0 h0 (fun w0 a1 h1 e0 => ?_))
  subst e0
  clear h0
  obtain ⟨W, eW⟩ : ∃ W, W = w0 := ⟨_, rfl⟩
  subst eW
  refine sq (x := pc8 [1, 0]) (y := pc8 [1, 1]) rfl (d1 hvc (by omega) h1 (fun w1 a2 h2 e1 => ?_))
  have s1 : w1.heap.size = W.heap.size + 1 := by rw [e1]; simp
  have k1 : ∀ g, g < W.heap.size → w1.heap[g]? = W.heap[g]? := fun g hg => by rw [e1, Below.heap_alloc _ _ _ hg]
  have r1 : RowS w1 W.heap.size (List.replicate (olds bs).length ByteArray.empty) := by rw [e1, ← hvs]; exact RowS.made W _
  have O1 : Only W w1 [] := by rw [e1]; exact (Only.refl W []).alloc _
  clear e1
  have W1 := hW.congr (fun g hg => k1 g (hW.lt g hg).2) (by omega)
  refine sq (x := pc8 [1, 1, 0]) (y := pc8 [1, 1, 1]) rfl ?_
  refine sq (x := pc8 [1, 1, 0, 0]) (y := pc8 [1, 1, 0, 1]) rfl (d2 W1.cells.2.2.1 h2 (fun w1' a3 h3 e1 => ?_))
  subst e1
  rw [hvs] at h3 W1 hgl hW
  have ngo : W.heap.size ∉ wf Wb bv ev (.slice vo (olds bs).length cv) := fun hm => by have := (hW.lt _ hm).2; omega
  refine dl1 hl W1 ngo h3 r1 (fun v24 w2 a4 h4 r2 O2 => ?_)
  have s2 := O2.size
  have OO2 : Only W w2 [] := O1.trans O2 (by simp)
  have rl2 : RowS w2 gl LN := hr.congr (OO2.block gl hlg (by simp))
  have x2 : w2.heap[Wb]? = _ := (OO2.block Wb hlW (by simp)).trans hW.box
  have hSA : Strs w2.heap.size w2 (some ⟨W.heap.size, 0, none⟩) (olds bs) := fun i s hs => ⟨W.heap.size, rfl, by omega, (r2.cell hs).1⟩
  have hSB : Strs w2.heap.size w2 (some ⟨gl, 0, none⟩) LN := fun i s hs => ⟨gl, rfl, by omega, (rl2.cell hs).1⟩
  have hcom := common_any (ca := (olds bs).length) (cb := LN.length) (by omega) hl2 (fun s hs => by
    obtain ⟨b, _, rfl⟩ := List.mem_map.1 hs
    rw [lnOf_size]; omega) hsz hSA hSB
  refine sq (x := pc8 [1, 1, 1, 0]) (y := pc8 [1, 1, 1, 1]) rfl (d7 h4 hcom (fun en w3 hen => ?_))
  obtain ⟨fs, M, rfl, o3, B3, hC, hLM⟩ := hen
  refine ⟨fs, rfl, fun a5 h5 => ?_⟩
  have s3 := B3.size
  have hML : M.length ≤ 300 := by have := L_len_left (olds bs) LN; omega
  have OO3 : Only W w3 [] := OO2.trans ⟨B3.os, B3.tape, B3.output, B3.size, fun k hk _ => B3.block k hk⟩ (F' := []) (by simp)
  have x3 : w3.heap[Wb]? = _ := (B3.block Wb (by omega)).trans x2
  refine sq (x := pc8 [1, 1, 1, 1, 0]) (y := pc8 [1, 1, 1, 1, 1]) rfl (d8 (by omega) (by omega) (blk_cell x3 4 rfl) (by simp [World.frozen?, x3]) h5 (fun w4 a6 h6 e4 => ?_))
  have s4 : w4.heap.size = w3.heap.size + 1 := by rw [e4]; simp [World.setCell]
  have sc : (w3.setCell ⟨Wb, 4, none⟩ (.slice (some ⟨w3.heap.size, 0, none⟩) (olds bs).length (olds bs).length)).heap.size = w3.heap.size := by simp [World.setCell]
  have k4 : ∀ g, g < w3.heap.size → g ≠ Wb → w4.heap[g]? = w3.heap[g]? := fun g hg hne => by
    rw [e4, Below.heap_alloc _ _ _ (by rw [sc]; exact hg), Below.heap_setCell _ _ _ _ (by exact hne)]
  have x4 : w4.heap[Wb]? = some (.cells #[.int .i64 1, bv, ev, .slice vo (olds bs).length cv, .slice (some ⟨w3.heap.size, 0, none⟩) (olds bs).length (olds bs).length, .slice none 0 0] 32 (0, 0)) := by
    rw [e4, Below.heap_alloc _ _ _ (by rw [sc]; omega), blk_setCell_same x3]; rfl
  have r4 : RowB w4 w3.heap.size (List.replicate (olds bs).length false) := by
    have := RowB.made (w3.setCell ⟨Wb, 4, none⟩ (.slice (some ⟨w3.heap.size, 0, none⟩) (olds bs).length (olds bs).length)) (olds bs).length
    rw [sc] at this
    rw [e4]; exact this
  have OO4 : Only W w4 [Wb] := by
    rw [e4]
    exact ((OO3.mono (F' := [Wb]) (by simp)).setCell _ _ (.inl (by simp))).alloc _
  clear e4
  refine sq (x := pc8 [1, 1, 1, 1, 1, 0]) (y := pc8 [1, 1, 1, 1, 1, 1]) rfl (d9 h6 (fun w5 a7 h7 e5 => ?_))
  have s5 : w5.heap.size = w4.heap.size + 1 := by rw [e5]; simp
  have k5 : ∀ g, g < w4.heap.size → w5.heap[g]? = w4.heap[g]? := fun g hg => by rw [e5, Below.heap_alloc _ _ _ hg]
  have p5 : w5.heap[w4.heap.size]? = some (.cells #[.int .i64 (-1), .int .i64 (-1)] 57 (0, 0)) := by rw [e5]; exact heap_alloc_new w4 _
  have OO5 : Only W w5 [Wb] := by rw [e5]; exact OO4.alloc _
  clear e5
  have hfl := o3.lt
  have o5 : w5.ownsRow w2.heap.size 57 2 fs M.length (mcells M) := ownsRow_congr o3 (fun g hg => by
    rw [k5 g (by have := (hfl g hg).2; omega), k4 g (hfl g hg).2 (by have := (hfl g hg).1; omega)])
  refine sq (x := pc8 [1, 1, 1, 1, 1, 1, 0]) (y := pc8 [1, 1, 1, 1, 1, 1, 1]) rfl ?_
  refine sq (x := pc8 [1, 1, 1, 1, 1, 1, 0, 0]) (y := pc8 [1, 1, 1, 1, 1, 1, 0, 1]) rfl (d10 (by omega) (by omega) (by omega) (by omega) o5 h7 (fun fs' w6 a8 h8 o6 g6 => ?_))
  obtain ⟨ob, g6⟩ := g6
  have s6 := g6.size
  simp at s6
  have k6 : ∀ g, g < w5.heap.size → some g ≠ fs.ownBlock → w6.heap[g]? = w5.heap[g]? := fun g hg hne => by
    rw [g6.block g (by simp; omega) hne, Below.heap_alloc _ _ _ hg]
  have nfs : ∀ g, (g < w2.heap.size ∨ w3.heap.size ≤ g) → some g ≠ fs.ownBlock := fun g hg e => by have := hfl g e.symm; omega
  have x6 : w6.heap[Wb]? = _ := ((k6 Wb (by omega) (nfs Wb (by omega))).trans (k5 Wb (by omega))).trans x4
  have r6 : RowB w6 w3.heap.size (List.replicate (olds bs).length false) := r4.congr ((k6 _ (by omega) (nfs _ (by omega))).trans (k5 _ (by omega)))
  have p6 : w6.heap[w4.heap.size]? = _ := (k6 _ (by omega) (nfs _ (by omega))).trans p5
  have OO6 : Only W w6 [Wb] := (OO5.alloc ob).grown g6 (fun k hk => by have := hfl k hk; right; omega)
  obtain ⟨MM, hMM⟩ : ∃ MM, MM = M ++ [((olds bs).length, LN.length)] := ⟨_, rfl⟩
  have lMM : M.length + 1 = MM.length := by rw [hMM]; simp
  rw [← hMM, lMM] at o6
  rw [lMM] at h8
  obtain ⟨gf, cf, hfv, hf1, hf2⟩ := o6.form (by omega)
  subst hfv
  obtain ⟨hCr, hCi⟩ := cmn_iff.1 hC
  have hinc : MM.Pairwise fun p q => p.1 < q.1 ∧ p.2 < q.2 := by
    rw [hMM]
    refine List.pairwise_append.2 ⟨hCi, List.pairwise_singleton _ _, fun q hq r hr => ?_⟩
    simp at hr
    subst hr
    obtain ⟨_, g2, _, g4, _⟩ := hCr q hq
    exact ⟨g2, g4⟩
  have hin : ∀ q ∈ MM, q.1 ≤ (olds bs).length ∧ q.2 ≤ LN.length := by
    rw [hMM]
    intro q hq
    rcases List.mem_append.1 hq with g | g
    · obtain ⟨_, g2, _, g4, _⟩ := hCr q g
      omega
    · simp at g; subst g; simp
  have hfc : ∀ (k : Nat) (q : Nat × Nat), MM[k]? = some q → w6.cell? ⟨gf, k * 2, none⟩ = some (.int .i64 (q.1 : Int)) ∧ w6.cell? ⟨gf, k * 2 + 1, none⟩ = some (.int .i64 (q.2 : Int)) := fun k q hq => by
    have hk := (List.getElem?_eq_some_iff.1 hq).1
    obtain ⟨m1, m2⟩ := mcells_at MM k q.1 q.2 hq
    exact ⟨by rw [o6.cellAt (k * 2) (by omega)]; exact m1, by rw [o6.cellAt (k * 2 + 1) (by omega)]; exact m2⟩
  have nfd : gf ≠ w3.heap.size := fun e => by
    rcases o6.2 with ⟨q, _⟩ | ⟨g', cap', cur, q, _, hg, _⟩
    · simp at q
    · simp only [Value.slice.injEq, Option.some.injEq, Addr.mk.injEq, and_true, true_and] at q
      obtain ⟨rfl, rfl⟩ := q
      unfold RowB at r6
      rw [e, r6] at hg
      simp at hg
  have nfp : gf ≠ w4.heap.size := fun e => by
    obtain ⟨q, hq⟩ : ∃ q, MM[0]? = some q := ⟨MM[0], by simp⟩
    have c1 := (hfc 0 q hq).1
    have c2 := blk_cell p6 0 rfl
    rw [e] at c1
    simp only [Nat.zero_mul] at c1
    rw [c2] at c1
    simp at c1
  have hbl : bl (olds bs).length (fun _ => false) = List.replicate (olds bs).length false := by
    unfold bl
    apply List.ext_getElem
    · simp
    · intro i h1 h2; simp
  refine dl2 (base := w6.heap.size) (gd := w3.heap.size) (gp := w4.heap.size) (by omega) hl2 (by omega) hinc hin (by omega) (by omega) (by omega) hf2 (by omega) (by omega) (by omega) (by omega) nfd nfp (Nat.le_refl _) x6 (by rw [hbl]; exact r6) p6 hfc h8 (fun iv v11 v12 v56 w7 a9 h9 x7 o7 r7 k7 => ?_)
  have OO7 : Only W w7 [Wb] := OO6.trans (k7.only (Nat.le_refl _)) (fun x hx => by
    simp at hx
    rcases hx with rfl | rfl | rfl
    · left; simp
    · right; omega
    · right; omega)
  obtain ⟨fo, fc, rfl⟩ := own_slice2 o3
  refine d21 h9 (fun a10 d10 e10 => ?_)
  have hpost : bodyPost Yba.prog Yba.f8 (fun e w' => ∃ (gd : Nat) (iv : Value) (M : List (Nat × Nat)), e = .returned (.int .i64 (M.length : Int)) ∧ DiffIs W w' bs LN Wb gl gd bv ev (.slice vo (versOf bs).length cv) iv M) .ret a10 w7 := by
    refine bodyPost_ret (v := .int .i64 (M.length : Int)) ?_ d10 ⟨w3.heap.size, iv, M, rfl, ?_⟩
    · rw [Array.getD_eq_getD_getElem?] at e10
      simp [results, Yba.results8, go_sem]
      exact e10
    · rw [hvs]
      rw [hMM] at r7 o7
      exact ⟨hC, hLM, x7, r7, own_base o7 (by omega), OO7⟩
  exact hpost

end Go.Proofs.Ybulkacye
