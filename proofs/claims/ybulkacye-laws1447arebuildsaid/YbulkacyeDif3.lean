import Derived.Test.YbulkacyeDif2
namespace Go.Proofs.Ybulkacye
open Go.RowKit Go.Proofs.Ybulkacye.Lcs
set_option linter.unusedVariables false
set_option linter.unusedSectionVars false
variable {v0 v1 v5 v8 v9 v11 v12 v22 v23 v24 v54 v55 v56 : Value} {a : Act} {Q : Exit → Act → World → Prop} {w : World} {base Wb gl gd gp gm : Nat} {n m k : Nat} {R : Act → World → Prop}

theorem bodyOf_get : ∀ (l : List UInt8) (i : Nat) (b : UInt8), l[i]? = some b → (bodyOf l)[2 * i]? = some (chOf b) ∧ (bodyOf l)[2 * i + 1]? = some 10
  | x :: l, 0, b, h => by simp at h; subst h; simp [bodyOf]
  | x :: l, i + 1, b, h => by
    have := bodyOf_get l i b (by simpa using h)
    have e : 2 * (i + 1) = 2 * i + 1 + 1 := by omega
    unfold bodyOf at *
    rw [List.flatMap_cons, e]
    simpa using this
theorem vsel_mem {l : List UInt8} {x : UInt8 × Nat} (h : x ∈ vsel l) : l[x.2]? = some x.1 := by
  unfold vsel at h
  rw [List.mem_filter] at h
  have := List.mem_zipIdx_iff_getElem?.1 h.1
  simpa using this
theorem olds_vsel (l : List UInt8) : olds l = (vsel l).map fun x => lnOf x.1 := by
  have key : ∀ (l : List UInt8) (k : Nat), (l.filter shOf).map lnOf = ((l.zipIdx k).filter fun x => shOf x.1).map fun x => lnOf x.1 := by
    intro l
    induction l with
    | nil => intro k; rfl
    | cons a l ih =>
      intro k
      rw [List.zipIdx_cons, List.filter_cons, List.filter_cons]
      by_cases h : shOf a = true
      · simp [h, ih (k + 1)]
      · simp [h, ih (k + 1)]
  exact key l 0
theorem vsel_len (l : List UInt8) : (vsel l).length = (olds l).length := by rw [olds_vsel]; simp
theorem versOf_len (l : List UInt8) : (versOf l).length = (olds l).length := by rw [← vsel_len]; simp [versOf]
theorem endsOf_get (l : List UInt8) (i : Nat) (h : i < l.length) : (endsOf l)[i]? = some (2 * (i : Int) + 2) := by simp [endsOf, h]

set_option maxRecDepth 20000 in
theorem dl1 {B go : Nat} {bv ev vv dv iv : Value} {bs : List UInt8} (hl : bs.length ≤ 300) (hW : WvG w B Wb bv ev vv dv iv (bodyOf bs) (endsOf bs) (versOf bs)) (hgo : go ∉ wf Wb bv ev vv) (h : Ff (.pointer (some ⟨Wb, 0, none⟩)) v1 (.slice (some ⟨go, 0, none⟩) (olds bs).length (olds bs).length) v8 v9 v11 v12 vv (.int .i64 (olds bs).length) (.int .i64 ((0 : Nat) : Int)) v54 v55 v56 a) (hr : RowS w go (List.replicate (olds bs).length ByteArray.empty))
    (hQ : ∀ v24 w' a', Ff (.pointer (some ⟨Wb, 0, none⟩)) v1 (.slice (some ⟨go, 0, none⟩) (olds bs).length (olds bs).length) v8 v9 v11 v12 vv (.int .i64 (olds bs).length) v24 v54 v55 v56 a' → RowS w' go (olds bs) → Only w w' [go] → Q .normal a' w') : Code.wp Yba.prog (pc8 [1, 1, 0, 1]) Q a w := by
  have hvl := vsel_len bs
  have hol := olds_le bs
  have hvs := versOf_len bs
  have hbl := bodyOf_len bs
  show Code.wp Yba.prog (Code.block 0 (Code.loop (pc8 [1, 1, 0, 1, 0, 0]))) Q a w
  refine wp_block (wp_loop (fun a' w' => ∃ (j : Nat), Ff (.pointer (some ⟨Wb, 0, none⟩)) v1 (.slice (some ⟨go, 0, none⟩) (olds bs).length (olds bs).length) v8 v9 v11 v12 vv (.int .i64 (olds bs).length) (.int .i64 j) v54 v55 v56 a' ∧ j ≤ (olds bs).length ∧ RowS w' go (((vsel bs).take j).map (fun x => lnOf x.1) ++ List.replicate ((vsel bs).length - j) ByteArray.empty) ∧ Only w w' [go]) (fun a' _ => (1000 - intOf (a'.tmps.getD 24 undef)).toNat) ⟨0, h, Nat.zero_le _, by rw [hvl]; simpa using hr, Only.refl _ _⟩ ?_)
  clear h hr
  rintro a2 w2 ⟨j, h, hj, hr, hO⟩
  have hμ : (1000 - intOf (a2.tmps.getD 24 undef)).toNat = (1000 - (j : Int)).toNat := by rw [h.e24]; rfl
  rw [hμ]
  clear hμ
  have W2 := hW.congr (fun g hg => hO.block g (hW.lt g hg).2 (by simp; intro e; subst e; exact hgo hg)) hO.size
  refine sq (x := pc8 [1, 1, 0, 1, 0, 0, 0]) (y := Code.seq (Code.cond (.tmp 25) .skip (.exit 0)) (Code.seq (Code.block 1 (pc8 [1, 1, 0, 1, 0, 0, 1, 1, 0, 0])) (pc8 [1, 1, 0, 1, 0, 0, 1, 1, 1]))) rfl (dh3 h (fun a3 h3 hb3 => ?_))
  by_cases hlt : j < (olds bs).length
  · rw [decide_eq_true hlt] at hb3
    refine wp_seq (wp_cond_true hb3 (wp_skip ?_))
    obtain ⟨⟨b, i⟩, hx⟩ : ∃ x, (vsel bs)[j]? = some x := ⟨(vsel bs)[j], by simp⟩
    have hbi : bs[i]? = some b := vsel_mem (List.mem_of_getElem? hx)
    have hil := (List.getElem?_eq_some_iff.1 hbi).1
    obtain ⟨gv, cv, hv, _, _⟩ := W2.ov.form (by omega)
    rw [hvs] at hv
    subst hv
    obtain ⟨g, cp, hb, hgB, _⟩ := W2.ob.form (by omega)
    subst hb
    have hvc : w2.cell? ⟨gv, j, none⟩ = some (.int .i64 (i : Int)) := by
      have := W2.ov
      rw [hvs] at this
      rw [this.cellAt j (by omega)]
      simp [ints, versOf, hx]
    have hcap : (bodyOf bs).length ≤ cp ∧ cp ≤ maxLen := by
      rcases W2.ob.2 with ⟨e, _⟩ | ⟨g', cap', cur, e, _, _, q1, q2, _⟩
      · simp at e
      · simp only [Value.slice.injEq, Option.some.injEq, Addr.mk.injEq, and_true, true_and] at e
        obtain ⟨_, rfl⟩ := e
        exact ⟨q1, q2⟩
    have hmx := hcap.2
    unfold maxLen at hmx
    have hline := line_any (g := g) (cp := cp) W2 i (by omega) (by omega) hcap.1 (by omega) (endsOf_get bs i hil) (fun hi0 => by
      have := endsOf_get bs (i - 1) (by omega)
      rw [this]
      congr 1
      omega) (by omega)
    obtain ⟨y1, y2⟩ := bodyOf_get bs i b hbi
    have hcv : ∀ n, (convert 22 9 (.slice (some ⟨g, 2 * i, none⟩) 2 (cp - 2 * i))).run Yba.prog (w2.drewN n) = .ok (.string (lnOf b)) (w2.drewN n) := fun n => by
      have := run_convert_bytes_back (P := Yba.prog) (w2.drewN n) 22 9 5 ⟨g, 2 * i, none⟩ (cp - 2 * i) [chOf b, 10] Yba.underlying22 Yba.underlying5 Yba.underlying9 (fun t ht => by
        have ht2 : t < 2 := by simpa using ht
        rw [Go.WideShapes.add_plain]
        show w2.cell? ⟨g, 2 * i + t, none⟩ = _
        rw [W2.ob.cellAt (2 * i + t) (by omega)]
        rcases (by omega : t = 0 ∨ t = 1) with rfl | rfl
        · simp [bcells, y1]
        · simp [bcells, y2])
      exact this
    have hrl : j < (((vsel bs).take j).map (fun x => lnOf x.1) ++ List.replicate ((vsel bs).length - j) ByteArray.empty).length := by simp; omega
    obtain ⟨u0, hu0⟩ : ∃ u0, (((vsel bs).take j).map (fun x => lnOf x.1) ++ List.replicate ((vsel bs).length - j) ByteArray.empty)[j]? = some u0 := ⟨_, List.getElem?_eq_getElem hrl⟩
    obtain ⟨rc1, rc2⟩ := hr.cell hu0
    refine wp_seq (wp_block (d45 (nq := 0) (by omega) hlt (by omega) hvc hline hcv rc1 rc2 h3 (fun nq a4 h4 => ?_)))
    refine di6 h4 (by omega) (fun a5 h5 => ?_)
    refine ⟨⟨j + 1, h5, by omega, ?_, (hO.setCell _ _ (.inl (by simp))).drewN nq⟩, ?_⟩
    · have := hr.set j (lnOf b)
      rw [row_fill (fun x : UInt8 × Nat => lnOf x.1) ByteArray.empty hx] at this
      exact this
    · rw [h5.e24]
      show (1000 - ((j + 1 : Nat) : Int)).toNat < _
      omega
  · rw [decide_eq_false hlt] at hb3
    refine wp_seq (wp_cond_false hb3 (wp_exit ?_))
    show Exit.inBlock 0 Q (.exit 0) a3 w2
    refine inB ?_
    have e : j = (vsel bs).length := by omega
    subst e
    rw [List.take_length, Nat.sub_self, List.replicate_zero, List.append_nil, ← olds_vsel] at hr
    exact hQ _ w2 a3 h3 hr hO

/-- A row of Booleans told by a function. -/
def bl (n : Nat) (f : Nat → Bool) : List Bool := (List.range n).map f
theorem bl_set (n : Nat) (f : Nat → Bool) (j : Nat) (v : Bool) : (bl n f).set j v = bl n (fun x => if x = j then v else f x) := by
  unfold bl
  apply List.ext_getElem?
  intro i
  rw [List.getElem?_set]
  by_cases e : j = i
  · subst e
    by_cases hj : j < n
    · simp [hj]
    · simp [hj]
  · rw [if_neg e]
    by_cases hi : i < n
    · simp [hi, Ne.symm e]
    · simp [hi]
theorem bl_get (n : Nat) (f : Nat → Bool) (j : Nat) (h : j < n) : (bl n f)[j]? = some (f j) := by simp [bl, h]
theorem bl_congr {n : Nat} {f g : Nat → Bool} (h : ∀ j, j < n → f j = g j) : bl n f = bl n g := by
  unfold bl
  exact List.map_congr_left (fun j hj => h j (List.mem_range.1 hj))

set_option maxRecDepth 20000 in
theorem dl4 {a0 ma : Nat} {f : Nat → Bool} (hn : n ≤ 1000) (h1 : a0 ≤ ma) (h2 : ma ≤ n) (c1 : w.cell? ⟨Wb, 4, none⟩ = some (.slice (some ⟨gd, 0, none⟩) n n)) (c2 : w.cell? ⟨gm, 0, none⟩ = some (.int .i64 (ma : Int))) (lW : Wb < w.heap.size) (lm : gm < w.heap.size) (nW : Wb ≠ gd) (nm : gm ≠ gd) (h : Ff (.pointer (some ⟨Wb, 0, none⟩)) v1 v5 v8 v9 (.pointer (some ⟨gm, 0, none⟩)) (.int .i64 a0) v22 v23 v24 v54 v55 v56 a) (hr : RowB w gd (bl n f))
    (hQ : ∀ v12 w' a', Ff (.pointer (some ⟨Wb, 0, none⟩)) v1 v5 v8 v9 (.pointer (some ⟨gm, 0, none⟩)) v12 v22 v23 v24 v54 v55 v56 a' → RowB w' gd (bl n fun x => f x || (decide (a0 ≤ x) && decide (x < ma))) → Only w w' [gd] → Q .normal a' w') : Code.wp Yba.prog (pc8 [1, 1, 1, 1, 1, 1, 0, 1, 0, 0, 1, 1, 0, 0, 1, 0, 1]) Q a w := by
  show Code.wp Yba.prog (Code.block 4 (Code.loop (pc8 [1, 1, 1, 1, 1, 1, 0, 1, 0, 0, 1, 1, 0, 0, 1, 0, 1, 0, 0]))) Q a w
  refine wp_block (wp_loop (fun a' w' => ∃ (j : Nat), Ff (.pointer (some ⟨Wb, 0, none⟩)) v1 v5 v8 v9 (.pointer (some ⟨gm, 0, none⟩)) (.int .i64 j) v22 v23 v24 v54 v55 v56 a' ∧ a0 ≤ j ∧ j ≤ ma ∧ RowB w' gd (bl n fun x => f x || (decide (a0 ≤ x) && decide (x < j))) ∧ Only w w' [gd]) (fun a' _ => (1000 - intOf (a'.tmps.getD 12 undef)).toNat) ⟨a0, h, Nat.le_refl _, h1, ?_, Only.refl _ _⟩ ?_)
  · have e : bl n (fun x => f x || (decide (a0 ≤ x) && decide (x < a0))) = bl n f := bl_congr (fun x _ => by
      by_cases c : a0 ≤ x
      · have : ¬ x < a0 := by omega
        simp [this]
      · simp [c])
    rw [e]; exact hr
  clear h hr
  rintro a2 w2 ⟨j, h, hj1, hj2, hr, hO⟩
  have hμ : (1000 - intOf (a2.tmps.getD 12 undef)).toNat = (1000 - (j : Int)).toNat := by rw [h.e12]; rfl
  rw [hμ]
  clear hμ
  have c1' : w2.cell? ⟨Wb, 4, none⟩ = some (.slice (some ⟨gd, 0, none⟩) n n) := by rw [World.cell?_of_block (a := ⟨Wb, 4, none⟩) (hO.block Wb lW (by simp; exact nW))]; exact c1
  have c2' : w2.cell? ⟨gm, 0, none⟩ = some (.int .i64 (ma : Int)) := by rw [World.cell?_of_block (a := ⟨gm, 0, none⟩) (hO.block gm lm (by simp; exact nm))]; exact c2
  refine sq (x := pc8 [1, 1, 1, 1, 1, 1, 0, 1, 0, 0, 1, 1, 0, 0, 1, 0, 1, 0, 0, 0]) (y := Code.seq (Code.block 5 (pc8 [1, 1, 1, 1, 1, 1, 0, 1, 0, 0, 1, 1, 0, 0, 1, 0, 1, 0, 0, 1, 0, 0])) (pc8 [1, 1, 1, 1, 1, 1, 0, 1, 0, 0, 1, 1, 0, 0, 1, 0, 1, 0, 0, 1, 1])) rfl (dh14 c2' h (fun hlt a3 h3 => ?_) (fun hlt a3 h3 => ?_))
  · show Exit.inBlock 4 Q (.exit 4) a3 w2
    refine inB ?_
    have e : j = ma := by omega
    subst e
    exact hQ _ w2 a3 h3 hr hO
  · obtain ⟨rc1, rc2⟩ := hr.cell (bl_get n _ j (by omega))
    refine wp_seq (wp_block (d16 (by omega) hn c1' rc1 rc2 h3 (fun a4 h4 => ?_)))
    refine di15 h4 (by omega) (fun a5 h5 => ?_)
    refine ⟨⟨j + 1, h5, by omega, by omega, ?_, hO.setCell _ _ (.inl (by simp))⟩, ?_⟩
    · have := hr.set j true
      rw [bl_set] at this
      have e : bl n (fun x => if x = j then true else (f x || (decide (a0 ≤ x) && decide (x < j)))) = bl n (fun x => f x || (decide (a0 ≤ x) && decide (x < j + 1))) := bl_congr (fun x _ => by
        by_cases c : x = j
        · subst c; rw [if_pos rfl, decide_eq_true hj1, decide_eq_true (by omega : x < x + 1)]; simp
        · rw [if_neg c]
          have : decide (x < j + 1) = decide (x < j) := by
            rw [decide_eq_decide]; omega
          rw [this])
      rw [← e]; exact this
    · rw [h5.e12]
      show (1000 - ((j + 1 : Nat) : Int)).toNat < _
      omega

end Go.Proofs.Ybulkacye
