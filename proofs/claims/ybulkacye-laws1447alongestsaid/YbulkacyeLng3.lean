import Derived.Test.YbulkacyeLng2
namespace Go.Proofs.Ybulkacye
open Go.RowKit Go.Proofs.Ybulkacye.Lcs
set_option linter.unusedVariables false
set_option linter.unusedSectionVars false
variable {v0 v1 v5 v6 v7 v8 v9 v10 v11 v12 v13 v14 v15 : Value} {a : Act} {Q : Exit → Act → World → Prop} {w : World} {Wb gl gr go : Nat} {n m : Nat} {ao bo : Option Addr} {ca cb : Nat} {bs ns : List UInt8}

set_option maxRecDepth 20000 in
theorem gl1 {A B : List ByteArray} {base : Nat} {oldv : Value} (hA : A.length = n) (hB : B.length = m) (hn : n ≤ 300) (hm : m ≤ 300) (hown : w.ownsRow base 9 1 oldv A.length (strs A)) (hl : RowS w gl B) (hgr : w.heap.size ≤ gr + 1) (no : ∀ g, oldv.ownBlock = some g → g ≠ gr) (nl : gl ≠ gr)
    (h : Fg v0 v1 v5 oldv (.slice (some ⟨gl, 0, none⟩) m m) v8 (.int .i64 n) (.int .i64 m) (.slice (some ⟨gr, 0, none⟩) (m + 1) (m + 1)) (.int .i64 ((0 + 1 : Nat) : Int)) v13 v14 v15 a) (hr : RowI w gr (il (m + 1) (T A B 0)))
    (hQ : ∀ v12 v13 v14 v15 w' a', Fg v0 v1 v5 oldv (.slice (some ⟨gl, 0, none⟩) m m) v8 (.int .i64 n) (.int .i64 m) (.slice (some ⟨gr, 0, none⟩) (m + 1) (m + 1)) v12 v13 v14 v15 a' → RowI w' gr (il (m + 1) (T A B n)) → Only w w' [gr] → Q .normal a' w') : Code.wp Yba.prog (pc4 [1, 1, 1, 1, 1, 1, 0, 1]) Q a w := by
  show Code.wp Yba.prog (Code.block 0 (Code.loop (pc4 [1, 1, 1, 1, 1, 1, 0, 1, 0, 0]))) Q a w
  refine wp_block (wp_loop (fun a' w' => ∃ (i : Nat) (v13 v14 v15 : Value), Fg v0 v1 v5 oldv (.slice (some ⟨gl, 0, none⟩) m m) v8 (.int .i64 n) (.int .i64 m) (.slice (some ⟨gr, 0, none⟩) (m + 1) (m + 1)) (.int .i64 ((i + 1 : Nat) : Int)) v13 v14 v15 a' ∧ i ≤ n ∧ RowI w' gr (il (m + 1) (T A B i)) ∧ Only w w' [gr]) (fun a' _ => (1000 - intOf (a'.tmps.getD 12 undef)).toNat) ⟨0, _, _, _, h, Nat.zero_le _, hr, Only.refl _ _⟩ ?_)
  clear h hr
  rintro a2 w2 ⟨i, v13, v14, v15, h, hi, hr, hO⟩
  have hμ : (1000 - intOf (a2.tmps.getD 12 undef)).toNat = (1000 - ((i + 1 : Nat) : Int)).toNat := by rw [h.e12]; rfl
  rw [hμ]
  clear hμ
  refine sq (x := pc4 [1, 1, 1, 1, 1, 1, 0, 1, 0, 0, 0]) (y := Code.seq (Code.block 1 (pc4 [1, 1, 1, 1, 1, 1, 0, 1, 0, 0, 1, 0, 0])) (pc4 [1, 1, 1, 1, 1, 1, 0, 1, 0, 0, 1, 1])) rfl (gh8 h (fun hlt a3 h3 => ?_) (fun hlt a3 h3 => ?_))
  · show Exit.inBlock 0 Q (.exit 0) a3 w2
    refine inB ?_
    have e : i = n := by omega
    subst e
    exact hQ _ _ _ _ w2 a3 h3 hr hO
  · obtain ⟨go, oc, hv, _, hgo⟩ := hown.form (by omega)
    rw [hA] at hv
    subst hv
    have ngo : go ≠ gr := no go rfl
    have lgl := hl.lt
    have o2 := ownsRow_congr hown (w' := w2) (fun g hg => hO.block g (hown.lt g hg).2 (by simp; exact no g hg))
    have l2 := hl.congr (hO.block gl lgl (by simp; exact nl))
    have cA : ∀ x s, A[x]? = some s → w2.cell? ⟨go, x, none⟩ = some (.string s) := fun x s hs => by
      have hx := (List.getElem?_eq_some_iff.1 hs).1
      rw [hA] at o2
      rw [o2.cellAt x (by omega)]
      simp [strs, hs]
    have s2 := hO.size
    refine wp_seq (wp_block ?_)
    refine sq (x := pc4 [1, 1, 1, 1, 1, 1, 0, 1, 0, 0, 1, 0, 0, 0]) (y := pc4 [1, 1, 1, 1, 1, 1, 0, 1, 0, 0, 1, 0, 0, 1]) rfl (g10 h3 (fun a4 h4 => ?_))
    refine sq (x := pc4 [1, 1, 1, 1, 1, 1, 0, 1, 0, 0, 1, 0, 0, 1, 0]) (y := pc4 [1, 1, 1, 1, 1, 1, 0, 1, 0, 0, 1, 0, 0, 1, 1]) rfl (g11 h4 (fun a5 h5 => ?_))
    refine gl2 (go := go) hA hB hn hm (by omega) cA (fun x s hs => (l2.cell hs).1) (by omega) (by omega) ngo nl h5 hr (fun v13 v14 v15 w6 a6 h6 r6 O6 => ?_)
    refine gi9 h6 (by omega) (fun a7 h7 => ?_)
    refine ⟨⟨i + 1, _, _, _, h7, by omega, r6, only_trans hO O6⟩, ?_⟩
    rw [h7.e12]
    show (1000 - ((i + 1 + 1 : Nat) : Int)).toNat < _
    omega

set_option maxRecDepth 20000 in
theorem long_walk (h63a : bs.length ≤ 9223372036854775807) (h63b : ns.length ≤ 9223372036854775807) (hA : Byts w.heap.size w ao bs) (hB : Byts w.heap.size w bo ns) :
    Calls Yba.prog 4 #[.slice ao bs.length ca, .slice bo ns.length cb] w fun e w' => e = .returned (.bool true) ∧ Below w.heap.size w w' := by
  go_enter Yba.func4, Yba.ntmps4
  show Code.wp Yba.prog (pc4 []) _ _ w
  have h0 : Fg (.slice ao bs.length ca) (.slice bo ns.length cb) undef undef undef undef undef undef undef undef undef undef undef ⟨#[.slice ao bs.length ca, .slice bo ns.length cb, undef, undef, undef, undef, undef, undef, undef, undef, undef, undef, undef, undef, undef, undef, undef, undef, undef, undef, undef, undef, undef, undef, undef, undef, undef, undef, undef, undef, undef, undef, undef, undef, undef, undef, undef, undef, undef, undef, undef, undef, undef, undef, undef, undef, undef, undef, undef, undef, undef, undef, undef, undef, undef, undef, undef, undef, undef, undef, undef, undef, undef, undef, undef, undef, undef, undef, undef, undef, undef, undef, undef, undef, undef, undef, undef, undef, undef, undef, undef, undef, undef, undef, undef, undef, undef, undef, undef, undef, undef, undef, undef, undef, undef, undef], []⟩ := ⟨rfl, rfl, rfl, rfl, rfl, rfl, rfl, rfl, rfl, rfl, rfl, rfl, rfl, rfl, rfl⟩
  have ret : ∀ (a' : Act) (w' : World), a'.defers = [] → a'.tmps.getD 4 undef = .bool true → Below w.heap.size w w' → bodyPost Yba.prog Yba.f4 (fun e w' => e = .returned (.bool true) ∧ Below w.heap.size w w') .ret a' w' := by
    intro a' w' d e b
    refine bodyPost_ret (v := .bool true) ?_ d ⟨rfl, b⟩
    rw [Array.getD_eq_getD_getElem?] at e
    simp [results, Yba.results4, go_sem]
    exact e
  refine sq (x := pc4 [0]) (y := pc4 [1]) rfl (g0 h0 (fun a1 h1 => ?_))
  clear h0
  refine sq (x := pc4 [1, 0]) (y := pc4 [1, 1]) rfl ?_
  refine sq (x := pc4 [1, 0, 0]) (y := Code.cond (.tmp 23) (pc4 [1, 0, 1, 0]) .skip) rfl (g1 h63a h63b h1 (fun a2 h2 hb => ?_))
  by_cases c : 300 < bs.length ∨ 300 < ns.length
  · rw [decide_eq_true c] at hb
    refine wp_cond_true hb (g2 h2 (fun a3 d3 e3 => ?_))
    exact ret a3 w d3 e3 (Below.refl _ _)
  rw [decide_eq_false c] at hb
  refine wp_cond_false hb (wp_skip ?_)
  have hl1 : bs.length ≤ 300 := by omega
  have hl2 : ns.length ≤ 300 := by omega
  refine sq (x := pc4 [1, 1, 0]) (y := pc4 [1, 1, 1]) rfl (g3 h2 (build_any hl1 hl2 hA hB) (fun e w3 he => ?_))
  obtain ⟨Wb, gl, oldv, bv, ev, vv, rfl, b3⟩ := he
  refine ⟨_, _, _, rfl, fun a3 h3 => ?_⟩
  have hol := olds_le bs
  have lLN : (ns.map lnOf).length = ns.length := by simp
  have hd := diff_any (LN := ns.map lnOf) hl1 (by omega) (fun s hs => by
    obtain ⟨b, _, rfl⟩ := List.mem_map.1 hs
    rw [lnOf_size]; omega) b3.W b3.row b3.gl2
  rw [lLN] at hd
  refine sq (x := pc4 [1, 1, 1, 0]) (y := pc4 [1, 1, 1, 1]) rfl (g4 h3 hd (fun e w4 he => ?_))
  obtain ⟨gd, iv, M, rfl, d4⟩ := he
  refine ⟨_, rfl, fun a4 h4 => ?_⟩
  have s3 := b3.bel.size
  have s4 := d4.only.size
  have hWl := b3.W.lt Wb (by simp [wf])
  have B4 : Below w.heap.size w w4 := below_only b3.bel d4.only (by omega) (by simp; omega)
  have o4 : w4.ownsRow w.heap.size 9 1 oldv (olds bs).length (strs (olds bs)) := ownsRow_congr b3.old (fun g hg => d4.only.block g (b3.old.lt g hg).2 (by simp; intro e; subst e; exact b3.dis _ hg (by simp [wf])))
  have r4 : RowS w4 gl (ns.map lnOf) := b3.row.congr (d4.only.block gl b3.row.lt (by simp; intro e; subst e; exact b3.gl2 (by simp [wf])))
  obtain ⟨oo, oc, rfl⟩ := own_slice2 o4
  refine sq (x := pc4 [1, 1, 1, 1, 0]) (y := pc4 [1, 1, 1, 1, 1]) rfl (g5 h4 (fun a5 h5 => ?_))
  refine sq (x := pc4 [1, 1, 1, 1, 1, 0]) (y := pc4 [1, 1, 1, 1, 1, 1]) rfl (g6 (by omega) h5 (fun w6 a6 h6 e6 => ?_))
  have s6 : w6.heap.size = w4.heap.size + 1 := by rw [e6]; simp
  have k6 : ∀ g, g < w4.heap.size → w6.heap[g]? = w4.heap[g]? := fun g hg => by rw [e6, Below.heap_alloc _ _ _ hg]
  have q6 : RowI w6 w4.heap.size (List.replicate (ns.length + 1) 0) := by rw [e6]; exact RowI.made w4 (ns.length + 1)
  have B6 : Below w.heap.size w w6 := by rw [e6]; exact B4.alloc (by omega) _
  clear e6
  have o6 := ownsRow_congr o4 (fun g hg => k6 g (o4.lt g hg).2)
  have r6 := r4.congr (k6 gl r4.lt)
  have hz : List.replicate (ns.length + 1) (0 : Int) = il (ns.length + 1) (T (olds bs) (ns.map lnOf) 0) := by
    unfold il
    apply List.ext_getElem
    · simp
    · intro x h1 h2; simp [T_zero']
  rw [hz] at q6
  refine sq (x := pc4 [1, 1, 1, 1, 1, 1, 0]) (y := pc4 [1, 1, 1, 1, 1, 1, 1]) rfl ?_
  refine sq (x := pc4 [1, 1, 1, 1, 1, 1, 0, 0]) (y := pc4 [1, 1, 1, 1, 1, 1, 0, 1]) rfl (g7 h6 (fun a7 h7 => ?_))
  have lgl := r4.lt
  refine gl1 (gr := w4.heap.size) (A := olds bs) (B := ns.map lnOf) rfl lLN (by omega) hl2 o6 r6 (by omega) (fun g hg e => by have := (o4.lt g hg).2; omega) (by omega) h7 q6 (fun v12 v13 v14 v15 w8 a8 h8 q8 O8 => ?_)
  have B8 : Below w.heap.size w w8 := below_only B6 O8 (by omega) (by simp; omega)
  have hc := (q8.cell (il_get (ns.length + 1) (T (olds bs) (ns.map lnOf) (olds bs).length) ns.length (by omega))).1
  have hT : T (olds bs) (ns.map lnOf) (olds bs).length ns.length = M.length := by
    unfold T
    rw [List.take_length, show ns.length = (ns.map lnOf).length from by simp, List.take_length, d4.len]
  rw [hT] at hc
  refine g20 (by omega) hc h8 (fun a9 d9 e9 => ?_)
  exact ret a9 w8 d9 e9 B8

end Go.Proofs.Ybulkacye
