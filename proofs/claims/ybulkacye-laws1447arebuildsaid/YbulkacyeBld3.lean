import Derived.Test.YbulkacyeBld2
namespace Go.Proofs.Ybulkacye
open Go.RowKit
set_option linter.unusedVariables false
set_option linter.unusedSectionVars false
variable {v0 v1 v7 v8 v10 v11 v12 v13 v18 v19 v20 v43 v44 v45 : Value} {a : Act} {Q : Exit → Act → World → Prop} {w : World} {base : Nat} {ao bo : Option Addr} {ca cb : Nat} {bs ns : List UInt8}

set_option maxRecDepth 20000 in
set_option maxHeartbeats 4000000 in
theorem bp15 {i gl g off : Nat} {b : UInt8} {u0 : ByteArray} (hl : ns.length ≤ 1000) (hi : i < ns.length) (hc : w.cell? ⟨g, off + i, none⟩ = some (.int .u8 (b.toNat : Int))) (q1 : w.cell? ⟨gl, i, none⟩ = some (.string u0)) (q2 : w.frozen? ⟨gl, i, none⟩ = false) (h : Fb v0 v1 v7 v8 v10 v11 v12 (.slice (some ⟨gl, 0, none⟩) ns.length ns.length) v18 v19 v20 (.slice (some ⟨g, off, none⟩) ns.length cb) (.int .i64 ns.length) (.int .i64 i) a) (hQ : ∀ a', Fb v0 v1 v7 v8 v10 v11 v12 (.slice (some ⟨gl, 0, none⟩) ns.length ns.length) v18 v19 v20 (.slice (some ⟨g, off, none⟩) ns.length cb) (.int .i64 ns.length) (.int .i64 i) a' → Q .normal a' (w.setCell ⟨gl, i, none⟩ (.string (lnOf b)))) : Code.wp Yba.prog (pc7 [1, 1, 1, 1, 1, 0, 1, 0, 0, 1, 1, 0, 0]) Q a w := by
  have hcl := aline_any b w
  generalize lnOf b = s at *
  obtain ⟨u, rfl⟩ := h.lay
  clear h
  conv => arg 2; whnf
  go_wp2_with fail
  refine hcl.mono ?_
  rintro _ _ ⟨rfl, rfl⟩
  clear hcl
  go_wp2
  exact ⟨rfl, rfl, rfl, rfl, rfl, rfl, rfl, rfl, rfl, rfl, rfl, rfl, rfl, rfl, rfl, rfl⟩

set_option maxRecDepth 20000 in
theorem bl2 {gl : Nat} (hl : ns.length ≤ 300) (hst : Byts base w bo ns) (hgl : base ≤ gl) (hbw : base ≤ w.heap.size) (h : Fb v0 v1 v7 v8 v10 v11 v12 (.slice (some ⟨gl, 0, none⟩) ns.length ns.length) v18 v19 v20 (.slice bo ns.length cb) (.int .i64 ns.length) (.int .i64 ((0 : Nat) : Int)) a) (hr : RowS w gl (List.replicate ns.length ByteArray.empty))
    (hQ : ∀ v45 w' a', Fb v0 v1 v7 v8 v10 v11 v12 (.slice (some ⟨gl, 0, none⟩) ns.length ns.length) v18 v19 v20 (.slice bo ns.length cb) (.int .i64 ns.length) v45 a' → RowS w' gl (ns.map lnOf) → Only w w' [gl] → Q .normal a' w') : Code.wp Yba.prog (pc7 [1, 1, 1, 1, 1, 0, 1]) Q a w := by
  show Code.wp Yba.prog (Code.block 2 (Code.loop (pc7 [1, 1, 1, 1, 1, 0, 1, 0, 0]))) Q a w
  refine wp_block (wp_loop (fun a' w' => ∃ (i : Nat), Fb v0 v1 v7 v8 v10 v11 v12 (.slice (some ⟨gl, 0, none⟩) ns.length ns.length) v18 v19 v20 (.slice bo ns.length cb) (.int .i64 ns.length) (.int .i64 i) a' ∧ i ≤ ns.length ∧ RowS w' gl ((ns.take i).map lnOf ++ List.replicate (ns.length - i) ByteArray.empty) ∧ Only w w' [gl]) (fun a' _ => (1000 - intOf (a'.tmps.getD 45 undef)).toNat) ⟨0, h, Nat.zero_le _, by simpa using hr, Only.refl _ _⟩ ?_)
  clear h hr
  rintro a2 w2 ⟨i, h, hi, hr, hO⟩
  have hμ : (1000 - intOf (a2.tmps.getD 45 undef)).toNat = (1000 - (i : Int)).toNat := by rw [h.e45]; rfl
  rw [hμ]
  clear hμ
  have hB : Below base w w2 := hO.below hbw (by simp; omega)
  refine sq (x := pc7 [1, 1, 1, 1, 1, 0, 1, 0, 0, 0]) (y := Code.seq (Code.cond (.tmp 46) .skip (.exit 2)) (Code.seq (Code.block 3 (pc7 [1, 1, 1, 1, 1, 0, 1, 0, 0, 1, 1, 0, 0])) (pc7 [1, 1, 1, 1, 1, 0, 1, 0, 0, 1, 1, 1]))) rfl (bh14 h (fun a3 h3 hb3 => ?_))
  by_cases hlt : i < ns.length
  · rw [decide_eq_true hlt] at hb3
    refine wp_seq (wp_cond_true hb3 (wp_skip ?_))
    obtain ⟨b, hb⟩ : ∃ b, ns[i]? = some b := ⟨ns[i], by simp [hlt]⟩
    obtain ⟨g, off, rfl, hg, hcell⟩ := hst.below hB i b hb
    have hrl : i < ((ns.take i).map lnOf ++ List.replicate (ns.length - i) ByteArray.empty).length := by simp; omega
    obtain ⟨u0, hu0⟩ : ∃ u0, ((ns.take i).map lnOf ++ List.replicate (ns.length - i) ByteArray.empty)[i]? = some u0 := ⟨_, List.getElem?_eq_getElem hrl⟩
    obtain ⟨rc1, rc2⟩ := hr.cell hu0
    refine wp_seq (wp_block (bp15 (by omega) hlt hcell rc1 rc2 h3 (fun a4 h4 => ?_)))
    refine bi17 h4 (by omega) (fun a5 h5 => ?_)
    refine ⟨⟨i + 1, h5, by omega, ?_, hO.setCell _ _ (.inl (by simp))⟩, ?_⟩
    · have := hr.set i (lnOf b)
      rw [row_fill lnOf ByteArray.empty hb] at this
      exact this
    · rw [h5.e45]
      show (1000 - ((i + 1 : Nat) : Int)).toNat < _
      omega
  · rw [decide_eq_false hlt] at hb3
    refine wp_seq (wp_cond_false hb3 (wp_exit ?_))
    show Exit.inBlock 2 Q (.exit 2) a3 w2
    refine inB ?_
    have e : i = ns.length := by omega
    subst e
    rw [List.take_length, Nat.sub_self, List.replicate_zero, List.append_nil] at hr
    exact hQ _ w2 a3 h3 hr hO

set_option maxRecDepth 20000 in
set_option maxHeartbeats 4000000 in
theorem b0  (h : Fb v0 v1 v7 v8 v10 v11 v12 v13 v18 v19 v20 v43 v44 v45 a) (hQ : ∀ w' a', Fb v0 v1 v7 v8 v10 v11 v12 v13 v18 v19 v20 v43 v44 v45 a' → w' = w → Q .normal a' w') : Code.wp Yba.prog (pc7 [0]) Q a w := by
  obtain ⟨u, rfl⟩ := h.lay
  clear h
  conv => arg 2; whnf
  go_wp2
  exact hQ _ _ ⟨rfl, rfl, rfl, rfl, rfl, rfl, rfl, rfl, rfl, rfl, rfl, rfl, rfl, rfl, rfl, rfl⟩ rfl

set_option maxRecDepth 20000 in
set_option maxHeartbeats 4000000 in
theorem b1  (h : Fb v0 v1 v7 v8 v10 v11 v12 v13 v18 v19 v20 v43 v44 v45 a) (hQ : ∀ w' a', Fb v0 v1 (.pointer (some ⟨w.heap.size, 0, none⟩)) v8 v10 v11 v12 v13 v18 v19 v20 v43 v44 v45 a' → w' = w.alloc (.cells #[.int .i64 1, .slice none 0 0, .slice none 0 0, .slice none 0 0, .slice none 0 0, .slice none 0 0] 32) → Q .normal a' w') : Code.wp Yba.prog (pc7 [1, 0]) Q a w := by
  obtain ⟨u, rfl⟩ := h.lay
  clear h
  conv => arg 2; whnf
  go_wp2
  exact hQ _ _ ⟨rfl, rfl, rfl, rfl, rfl, rfl, rfl, rfl, rfl, rfl, rfl, rfl, rfl, rfl, rfl, rfl⟩ rfl

set_option maxRecDepth 20000 in
set_option maxHeartbeats 4000000 in
theorem b2  (h : Fb v0 v1 v7 v8 v10 v11 v12 v13 v18 v19 v20 v43 v44 v45 a) (hQ : ∀ w' a', Fb v0 v1 v7 (.slice none 0 0) v10 v11 v12 v13 v18 v19 v20 v43 v44 v45 a' → w' = w → Q .normal a' w') : Code.wp Yba.prog (pc7 [1, 1, 0]) Q a w := by
  obtain ⟨u, rfl⟩ := h.lay
  clear h
  conv => arg 2; whnf
  go_wp2
  exact hQ _ _ ⟨rfl, rfl, rfl, rfl, rfl, rfl, rfl, rfl, rfl, rfl, rfl, rfl, rfl, rfl, rfl, rfl⟩ rfl

set_option maxRecDepth 20000 in
set_option maxHeartbeats 4000000 in
theorem b3 {n c : Nat} (h : Fb (.slice ao n c) v1 v7 v8 v10 v11 v12 v13 v18 v19 v20 v43 v44 v45 a) (hQ : ∀ w' a', Fb (.slice ao n c) v1 v7 v8 v10 v11 v12 v13 (.slice ao n c) (.int .i64 n) (.int .i64 ((0 : Nat) : Int)) v43 v44 v45 a' → w' = w → Q .normal a' w') : Code.wp Yba.prog (pc7 [1, 1, 1, 0, 0]) Q a w := by
  obtain ⟨u, rfl⟩ := h.lay
  clear h
  conv => arg 2; whnf
  go_wp2
  exact hQ _ _ ⟨rfl, rfl, rfl, rfl, rfl, rfl, rfl, rfl, rfl, rfl, rfl, rfl, rfl, rfl, rfl, rfl⟩ rfl

set_option maxRecDepth 20000 in
set_option maxHeartbeats 4000000 in
theorem b12 {n c : Nat} (hn : n ≤ 1000) (h : Fb v0 (.slice bo n c) v7 v8 v10 v11 v12 v13 v18 v19 v20 v43 v44 v45 a) (hQ : ∀ w' a', Fb v0 (.slice bo n c) v7 v8 v10 v11 v12 (.slice (some ⟨w.heap.size, 0, none⟩) n n) v18 v19 v20 v43 v44 v45 a' → w' = w.alloc (.cells (madeCells #[.string ByteArray.empty] n) 9) → Q .normal a' w') : Code.wp Yba.prog (pc7 [1, 1, 1, 1, 0]) Q a w := by
  have hmk := fun kl kc w => run_make_row' (P := Yba.prog) 24 9 (.string ByteArray.empty) 16 Yba.underlying24 Yba.info9 rfl kl kc n (by omega) (by omega) w
  obtain ⟨u, rfl⟩ := h.lay
  clear h
  conv => arg 2; whnf
  go_wp2
  exact hQ _ _ ⟨rfl, rfl, rfl, rfl, rfl, rfl, rfl, rfl, rfl, rfl, rfl, rfl, rfl, rfl, rfl, rfl⟩ rfl

set_option maxRecDepth 20000 in
set_option maxHeartbeats 4000000 in
theorem b13 {n c : Nat} (h : Fb v0 (.slice bo n c) v7 v8 v10 v11 v12 v13 v18 v19 v20 v43 v44 v45 a) (hQ : ∀ w' a', Fb v0 (.slice bo n c) v7 v8 v10 v11 v12 v13 v18 v19 v20 (.slice bo n c) (.int .i64 n) (.int .i64 ((0 : Nat) : Int)) a' → w' = w → Q .normal a' w') : Code.wp Yba.prog (pc7 [1, 1, 1, 1, 1, 0, 0]) Q a w := by
  obtain ⟨u, rfl⟩ := h.lay
  clear h
  conv => arg 2; whnf
  go_wp2
  exact hQ _ _ ⟨rfl, rfl, rfl, rfl, rfl, rfl, rfl, rfl, rfl, rfl, rfl, rfl, rfl, rfl, rfl, rfl⟩ rfl

set_option maxRecDepth 20000 in
set_option maxHeartbeats 4000000 in
theorem b18 (h : Fb v0 v1 v7 v8 v10 v11 v12 v13 v18 v19 v20 v43 v44 v45 a) (hQ : ∀ a', a'.defers = [] → a'.tmps.getD 4 undef = v7 → a'.tmps.getD 5 undef = v8 → a'.tmps.getD 6 undef = v13 → Q .ret a' w) : Code.wp Yba.prog (pc7 [1, 1, 1, 1, 1, 1]) Q a w := by
  obtain ⟨u, rfl⟩ := h.lay
  clear h
  conv => arg 2; whnf
  go_wp2
  exact hQ _ rfl rfl rfl rfl

/-- What zzs1447abuild leaves. -/
structure BuiltIs (w w' : World) (bs ns : List UInt8) (Wb gl : Nat) (oldv bv ev vv : Value) : Prop where
  W : WvG w' w.heap.size Wb bv ev vv (.slice none 0 0) (.slice none 0 0) (bodyOf bs) (endsOf bs) (versOf bs)
  old : w'.ownsRow w.heap.size 9 1 oldv (olds bs).length (strs (olds bs))
  dis : ∀ g, oldv.ownBlock = some g → g ∉ wf Wb bv ev vv
  row : RowS w' gl (ns.map lnOf)
  gl1 : w.heap.size ≤ gl
  gl2 : gl ∉ wf Wb bv ev vv
  gl3 : ∀ g, oldv.ownBlock = some g → g ≠ gl
  bel : Below w.heap.size w w'
set_option maxRecDepth 20000 in
theorem build_any (hl : bs.length ≤ 300) (hl2 : ns.length ≤ 300) (hA : Byts w.heap.size w ao bs) (hB : Byts w.heap.size w bo ns) :
    Calls Yba.prog 7 #[.slice ao bs.length ca, .slice bo ns.length cb] w fun e w' => ∃ (Wb gl : Nat) (oldv bv ev vv : Value), e = .returned (.tuple #[.pointer (some ⟨Wb, 0, none⟩), oldv, .slice (some ⟨gl, 0, none⟩) ns.length ns.length]) ∧ BuiltIs w w' bs ns Wb gl oldv bv ev vv := by
  go_enter Yba.func7, Yba.ntmps7
  show Code.wp Yba.prog (pc7 []) _ _ w
  have h0 : Fb (.slice ao bs.length ca) (.slice bo ns.length cb) undef undef undef undef undef undef undef undef undef undef undef undef ⟨#[.slice ao bs.length ca, .slice bo ns.length cb, undef, undef, undef, undef, undef, undef, undef, undef, undef, undef, undef, undef, undef, undef, undef, undef, undef, undef, undef, undef, undef, undef, undef, undef, undef, undef, undef, undef, undef, undef, undef, undef, undef, undef, undef, undef, undef, undef, undef, undef, undef, undef, undef, undef, undef, undef, undef, undef, undef, undef, undef, undef, undef, undef, undef, undef, undef], []⟩ := ⟨rfl, rfl, rfl, rfl, rfl, rfl, rfl, rfl, rfl, rfl, rfl, rfl, rfl, rfl, rfl, rfl⟩
  refine sq (x := pc7 [0]) (y := pc7 [1]) rfl (b0 h0 (fun w1 a1 h1 e1 => ?_))
  subst e1
  clear h0
  obtain ⟨W, hW⟩ : ∃ W, W = w1 := ⟨_, rfl⟩
  subst hW
  refine sq (x := pc7 [1, 0]) (y := pc7 [1, 1]) rfl (b1 h1 (fun w1 a2 h2 e1 => ?_))
  have s1 : w1.heap.size = W.heap.size + 1 := by rw [e1]; simp
  have W1 : WvG w1 W.heap.size W.heap.size (.slice none 0 0) (.slice none 0 0) (.slice none 0 0) (.slice none 0 0) (.slice none 0 0) [] [] [] := by
    refine ⟨by rw [e1]; exact heap_alloc_new W _, World.ownsRow_nil _ _ _ _, World.ownsRow_nil _ _ _ _, World.ownsRow_nil _ _ _ _, by simp [wf, Value.ownBlock], Nat.le_refl _, by omega⟩
  have B1 : Below W.heap.size W w1 := by rw [e1]; exact (Below.refl _ _).alloc (Nat.le_refl _) _
  clear e1
  refine sq (x := pc7 [1, 1, 0]) (y := pc7 [1, 1, 1]) rfl (b2 h2 (fun w2 a3 h3 e2 => ?_))
  subst e2
  refine sq (x := pc7 [1, 1, 1, 0]) (y := pc7 [1, 1, 1, 1]) rfl ?_
  refine sq (x := pc7 [1, 1, 1, 0, 0]) (y := pc7 [1, 1, 1, 0, 1]) rfl (b3 h3 (fun w2' a4 h4 e2 => ?_))
  subst e2
  refine bl1 (base := W.heap.size) hl (hA.below B1) h4 (by omega) W1 (fun oldv bv ev vv v10 v11 v12 v20 w3 a5 h5 o3 W3 d3 B3' => ?_)
  have B3 : Below W.heap.size W w3 := B1.trans B3'
  have s3 := B3.size
  refine sq (x := pc7 [1, 1, 1, 1, 0]) (y := pc7 [1, 1, 1, 1, 1]) rfl (b12 (by omega) h5 (fun w4 a6 h6 e4 => ?_))
  have s4 : w4.heap.size = w3.heap.size + 1 := by rw [e4]; simp
  have k4 : ∀ g, g < w3.heap.size → w4.heap[g]? = w3.heap[g]? := fun g hg => by rw [e4, Below.heap_alloc _ _ _ hg]
  have r4 : RowS w4 w3.heap.size (List.replicate ns.length ByteArray.empty) := by rw [e4]; exact RowS.made w3 ns.length
  have B4 : Below W.heap.size W w4 := by rw [e4]; exact B3.alloc (by omega) _
  clear e4
  have W4 := W3.congr (fun g hg => k4 g (W3.lt g hg).2) (by omega)
  have o4 := ownsRow_congr o3 (fun g hg => k4 g (o3.lt g hg).2)
  refine sq (x := pc7 [1, 1, 1, 1, 1, 0]) (y := pc7 [1, 1, 1, 1, 1, 1]) rfl ?_
  refine sq (x := pc7 [1, 1, 1, 1, 1, 0, 0]) (y := pc7 [1, 1, 1, 1, 1, 0, 1]) rfl (b13 h6 (fun w4' a7 h7 e4 => ?_))
  subst e4
  refine bl2 (base := W.heap.size) hl2 (hB.below B4) (by omega) (by omega) h7 r4 (fun v45 w5 a8 h8 r5 O5 => ?_)
  have nW : w3.heap.size ∉ wf W.heap.size bv ev vv := fun hm => by have := (W3.lt _ hm).2; omega
  have nO : ∀ g, oldv.ownBlock = some g → g ≠ w3.heap.size := fun g hg e => by have := (o3.lt g hg).2; omega
  refine b18 h8 (fun a9 d9 e4 e5 e6 => ?_)
  have hpost : bodyPost Yba.prog Yba.f7 (fun e w' => ∃ (Wb gl : Nat) (oldv bv ev vv : Value), e = .returned (.tuple #[.pointer (some ⟨Wb, 0, none⟩), oldv, .slice (some ⟨gl, 0, none⟩) ns.length ns.length]) ∧ BuiltIs W w' bs ns Wb gl oldv bv ev vv) .ret a9 w5 := by
    refine bodyPost_ret (v := .tuple #[.pointer (some ⟨W.heap.size, 0, none⟩), oldv, .slice (some ⟨w3.heap.size, 0, none⟩) ns.length ns.length]) ?_ d9 ⟨W.heap.size, w3.heap.size, oldv, bv, ev, vv, rfl, ?_⟩
    · rw [Array.getD_eq_getD_getElem?] at e4 e5 e6
      simp [results, Yba.results7, go_sem]
      exact ⟨e4, e5, e6⟩
    · refine ⟨W4.congr (fun g hg => O5.block g (W4.lt g hg).2 (by simp; intro e; subst e; exact nW hg)) O5.size, ownsRow_congr o4 (fun g hg => O5.block g (o4.lt g hg).2 (by simp; exact nO g hg)), d3, r5, by omega, nW, nO, below_only B4 O5 (by omega) (by simp; omega)⟩
  exact hpost

end Go.Proofs.Ybulkacye
