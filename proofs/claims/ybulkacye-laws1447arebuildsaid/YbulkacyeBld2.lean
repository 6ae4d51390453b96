import Derived.Test.YbulkacyeBld
import Derived.Test.YbulkacyeCom6
namespace Go.Proofs.Ybulkacye
open Go.RowKit
set_option linter.unusedVariables false
set_option linter.unusedSectionVars false
variable {v0 v1 v7 v8 v10 v11 v12 v13 v18 v19 v20 v43 v44 v45 : Value} {a : Act} {Q : Exit → Act → World → Prop} {w : World} {base : Nat} {ao bo : Option Addr} {ca cb : Nat} {bs ns : List UInt8}

def RowS (w : World) (g : Nat) (l : List ByteArray) : Prop := w.heap[g]? = some (.cells (strs l).toArray 9 (0, 0))
theorem RowS.congr {w w' : World} {g : Nat} {l : List ByteArray} (h : RowS w g l) (hb : w'.heap[g]? = w.heap[g]?) : RowS w' g l := by unfold RowS; rw [hb]; exact h
theorem RowS.cell {w : World} {g : Nat} {l : List ByteArray} (h : RowS w g l) {i : Nat} {v : ByteArray} (hi : l[i]? = some v) : w.cell? ⟨g, i, none⟩ = some (.string v) ∧ w.frozen? ⟨g, i, none⟩ = false := by
  unfold RowS at h
  exact ⟨blk_cell h i (by simp [strs, hi]), by simp [World.frozen?, h]⟩
theorem RowS.set {w : World} {g : Nat} {l : List ByteArray} (h : RowS w g l) (i : Nat) (v : ByteArray) : RowS (w.setCell ⟨g, i, none⟩ (.string v)) g (l.set i v) := by
  unfold RowS at *
  rw [blk_setCell_same h]
  simp [strs, List.map_set]
theorem RowS.made (w : World) (N : Nat) : RowS (w.alloc (.cells (madeCells #[.string ByteArray.empty] N) 9)) w.heap.size (List.replicate N ByteArray.empty) := by
  unfold RowS
  rw [heap_alloc_new]
  congr 2
  apply Array.ext
  · simp [madeCells, strs]
  · intro i h1 h2; simp [madeCells, strs, Nat.mod_one]
theorem RowS.lt {w : World} {g : Nat} {l : List ByteArray} (h : RowS w g l) : g < w.heap.size := lt_of_block h
theorem row_fill {α β : Type} (f : α → β) (z : β) {l : List α} {i : Nat} {s : α} (h : l[i]? = some s) : ((l.take i).map f ++ List.replicate (l.length - i) z).set i (f s) = (l.take (i + 1)).map f ++ List.replicate (l.length - (i + 1)) z := by
  have hi := (List.getElem?_eq_some_iff.1 h).1
  have e2 : l.length - i = (l.length - (i + 1)) + 1 := by omega
  have e3 : ((l.take i).map f).length = i := by simp; omega
  rw [take_succ' h, List.map_append, e2, List.replicate_succ, List.set_append, if_neg (by omega), e3, Nat.sub_self]
  simp

set_option maxRecDepth 20000 in
set_option maxHeartbeats 4000000 in
theorem bh4 {i n : Nat} (h : Fb v0 v1 v7 v8 v10 v11 v12 v13 v18 (.int .i64 n) (.int .i64 i) v43 v44 v45 a) (hQ : ∀ a', Fb v0 v1 v7 v8 v10 v11 v12 v13 v18 (.int .i64 n) (.int .i64 i) v43 v44 v45 a' → a'.tmps.getD 21 undef = .bool (decide (i < n)) → Q .normal a' w) : Code.wp Yba.prog (pc7 [1, 1, 1, 0, 1, 0, 0, 0]) Q a w := by
  obtain ⟨u, rfl⟩ := h.lay
  clear h
  by_cases c : i < n
  · rw [decide_eq_true c] at hQ
    conv => arg 2; whnf
    go_wp2
    exact hQ _ ⟨rfl, rfl, rfl, rfl, rfl, rfl, rfl, rfl, rfl, rfl, rfl, rfl, rfl, rfl, rfl, rfl⟩ rfl
  · rw [decide_eq_false c] at hQ
    conv => arg 2; whnf
    go_wp2
    exact hQ _ ⟨rfl, rfl, rfl, rfl, rfl, rfl, rfl, rfl, rfl, rfl, rfl, rfl, rfl, rfl, rfl, rfl⟩ rfl

set_option maxRecDepth 20000 in
set_option maxHeartbeats 4000000 in
theorem bh14 {i n : Nat} (h : Fb v0 v1 v7 v8 v10 v11 v12 v13 v18 v19 v20 v43 (.int .i64 n) (.int .i64 i) a) (hQ : ∀ a', Fb v0 v1 v7 v8 v10 v11 v12 v13 v18 v19 v20 v43 (.int .i64 n) (.int .i64 i) a' → a'.tmps.getD 46 undef = .bool (decide (i < n)) → Q .normal a' w) : Code.wp Yba.prog (pc7 [1, 1, 1, 1, 1, 0, 1, 0, 0, 0]) Q a w := by
  obtain ⟨u, rfl⟩ := h.lay
  clear h
  by_cases c : i < n
  · rw [decide_eq_true c] at hQ
    conv => arg 2; whnf
    go_wp2
    exact hQ _ ⟨rfl, rfl, rfl, rfl, rfl, rfl, rfl, rfl, rfl, rfl, rfl, rfl, rfl, rfl, rfl, rfl⟩ rfl
  · rw [decide_eq_false c] at hQ
    conv => arg 2; whnf
    go_wp2
    exact hQ _ ⟨rfl, rfl, rfl, rfl, rfl, rfl, rfl, rfl, rfl, rfl, rfl, rfl, rfl, rfl, rfl, rfl⟩ rfl

set_option maxRecDepth 20000 in
set_option maxHeartbeats 4000000 in
theorem bi11 {i : Nat} (h : Fb v0 v1 v7 v8 v10 v11 v12 v13 v18 v19 (.int .i64 i) v43 v44 v45 a) (hi : i ≤ 1000) (hQ : ∀ a', Fb v0 v1 v7 v8 v10 v11 v12 v13 v18 v19 (.int .i64 ((i + 1 : Nat) : Int)) v43 v44 v45 a' → Q .normal a' w) : Code.wp Yba.prog (pc7 [1, 1, 1, 0, 1, 0, 0, 1, 1, 1]) Q a w := by
  have e : ((i + 1 : Nat) : Int) = (i : Int) + 1 := by omega
  rw [e] at hQ
  clear e
  obtain ⟨u, rfl⟩ := h.lay
  clear h
  conv => arg 2; whnf
  go_wp2
  exact ⟨rfl, rfl, rfl, rfl, rfl, rfl, rfl, rfl, rfl, rfl, rfl, rfl, rfl, rfl, rfl, rfl⟩

set_option maxRecDepth 20000 in
set_option maxHeartbeats 4000000 in
theorem bi17 {i : Nat} (h : Fb v0 v1 v7 v8 v10 v11 v12 v13 v18 v19 v20 v43 v44 (.int .i64 i) a) (hi : i ≤ 1000) (hQ : ∀ a', Fb v0 v1 v7 v8 v10 v11 v12 v13 v18 v19 v20 v43 v44 (.int .i64 ((i + 1 : Nat) : Int)) a' → Q .normal a' w) : Code.wp Yba.prog (pc7 [1, 1, 1, 1, 1, 0, 1, 0, 0, 1, 1, 1]) Q a w := by
  have e : ((i + 1 : Nat) : Int) = (i : Int) + 1 := by omega
  rw [e] at hQ
  clear e
  obtain ⟨u, rfl⟩ := h.lay
  clear h
  conv => arg 2; whnf
  go_wp2
  exact ⟨rfl, rfl, rfl, rfl, rfl, rfl, rfl, rfl, rfl, rfl, rfl, rfl, rfl, rfl, rfl, rfl⟩

set_option maxRecDepth 20000 in
theorem bl1 {Wb : Nat} {bv ev vv : Value} (hl : bs.length ≤ 300) (hst : Byts base w ao bs) (h : Fb v0 v1 (.pointer (some ⟨Wb, 0, none⟩)) (.slice none 0 0) v10 v11 v12 v13 (.slice ao bs.length ca) (.int .i64 bs.length) (.int .i64 ((0 : Nat) : Int)) v43 v44 v45 a) (hbw : base ≤ w.heap.size) (hW : WvG w base Wb bv ev vv (.slice none 0 0) (.slice none 0 0) [] [] [])
    (hQ : ∀ oldv bv ev vv v10 v11 v12 v20 w' a', Fb v0 v1 (.pointer (some ⟨Wb, 0, none⟩)) oldv v10 v11 v12 v13 (.slice ao bs.length ca) (.int .i64 bs.length) v20 v43 v44 v45 a' → w'.ownsRow base 9 1 oldv (olds bs).length (strs (olds bs)) → WvG w' base Wb bv ev vv (.slice none 0 0) (.slice none 0 0) (bodyOf bs) (endsOf bs) (versOf bs) → (∀ g, oldv.ownBlock = some g → g ∉ wf Wb bv ev vv) → Below base w w' → Q .normal a' w') : Code.wp Yba.prog (pc7 [1, 1, 1, 0, 1]) Q a w := by
  show Code.wp Yba.prog (Code.block 0 (Code.loop (pc7 [1, 1, 1, 0, 1, 0, 0]))) Q a w
  refine wp_block (wp_loop (fun a' w' => ∃ (i : Nat) (oldv bv ev vv : Value) (v10 v11 v12 : Value), Fb v0 v1 (.pointer (some ⟨Wb, 0, none⟩)) oldv v10 v11 v12 v13 (.slice ao bs.length ca) (.int .i64 bs.length) (.int .i64 i) v43 v44 v45 a' ∧ i ≤ bs.length ∧ w'.ownsRow base 9 1 oldv (olds (bs.take i)).length (strs (olds (bs.take i))) ∧ WvG w' base Wb bv ev vv (.slice none 0 0) (.slice none 0 0) (bodyOf (bs.take i)) (endsOf (bs.take i)) (versOf (bs.take i)) ∧ (∀ g, oldv.ownBlock = some g → g ∉ wf Wb bv ev vv) ∧ Below base w w') (fun a' _ => (1000 - intOf (a'.tmps.getD 20 undef)).toNat) ⟨0, _, bv, ev, vv, _, _, _, h, Nat.zero_le _, World.ownsRow_nil _ _ _ _, hW, fun g hg => by simp [Value.ownBlock] at hg, Below.refl _ _⟩ ?_)
  clear h hW bv ev vv
  rintro a2 w2 ⟨i, oldv, bv, ev, vv, v10, v11, v12, h, hi, hown, hW, hdis, hB⟩
  have hμ : (1000 - intOf (a2.tmps.getD 20 undef)).toNat = (1000 - (i : Int)).toNat := by rw [h.e20]; rfl
  rw [hμ]
  clear hμ
  refine sq (x := pc7 [1, 1, 1, 0, 1, 0, 0, 0]) (y := Code.seq (Code.cond (.tmp 21) .skip (.exit 0)) (Code.seq (Code.block 1 (pc7 [1, 1, 1, 0, 1, 0, 0, 1, 1, 0, 0])) (pc7 [1, 1, 1, 0, 1, 0, 0, 1, 1, 1]))) rfl (bh4 h (fun a3 h3 hb3 => ?_))
  by_cases hlt : i < bs.length
  · rw [decide_eq_true hlt] at hb3
    refine wp_seq (wp_cond_true hb3 (wp_skip ?_))
    obtain ⟨b, hb⟩ : ∃ b, bs[i]? = some b := ⟨bs[i], by simp [hlt]⟩
    have htk : bs.take (i + 1) = bs.take i ++ [b] := take_succ' hb
    have htl : (bs.take i).length = i := by simp; omega
    obtain ⟨g, off, rfl, hg, hcell⟩ := hst.below hB i b hb
    have hbz := hB.size
    refine wp_seq (wp_block ?_)
    refine sq (x := pc7 [1, 1, 1, 0, 1, 0, 0, 1, 1, 0, 0, 0]) (y := pc7 [1, 1, 1, 0, 1, 0, 0, 1, 1, 0, 0, 1]) rfl (bp5 (by omega) hlt hcell h3 (fun a4 h4 => ?_))
    refine sq (x := pc7 [1, 1, 1, 0, 1, 0, 0, 1, 1, 0, 0, 1, 0]) (y := pc7 [1, 1, 1, 0, 1, 0, 0, 1, 1, 0, 0, 1, 1]) rfl (bp6 h4 (fun a5 h5 => ?_))
    refine sq (x := pc7 [1, 1, 1, 0, 1, 0, 0, 1, 1, 0, 0, 1, 1, 0]) (y := pc7 [1, 1, 1, 0, 1, 0, 0, 1, 1, 0, 0, 1, 1, 1]) rfl (bp7 h5 (fun a6 h6 => ?_))
    refine sq (x := pc7 [1, 1, 1, 0, 1, 0, 0, 1, 1, 0, 0, 1, 1, 1, 0]) (y := pc7 [1, 1, 1, 0, 1, 0, 0, 1, 1, 0, 0, 1, 1, 1, 1]) rfl ?_
    refine sq (x := pc7 [1, 1, 1, 0, 1, 0, 0, 1, 1, 0, 0, 1, 1, 1, 0, 0]) (y := Code.cond (.tmp 29) (pc7 [1, 1, 1, 0, 1, 0, 0, 1, 1, 0, 0, 1, 1, 1, 0, 1, 0]) .skip) rfl (bp8 h6 (fun a7 h7 hb7 => ?_))
    have hol := olds_le (bs.take i)
    have hvl := versOf_le (bs.take i)
    have hel := endsOf_len (bs.take i)
    have hbl := bodyOf_len (bs.take i)
    have rest : ∀ (ov' : Value) (w3 : World) (a8 : Act), Fb v0 v1 (.pointer (some ⟨Wb, 0, none⟩)) ov' (.int .u8 (b.toNat : Int)) (.string (lnOf b)) (.bool (shOf b)) v13 (.slice (some ⟨g, off, none⟩) bs.length ca) (.int .i64 bs.length) (.int .i64 i) v43 v44 v45 a8 → w3.ownsRow base 9 1 ov' (olds (bs.take (i + 1))).length (strs (olds (bs.take (i + 1)))) → WvG w3 base Wb bv ev vv (.slice none 0 0) (.slice none 0 0) (bodyOf (bs.take i)) (endsOf (bs.take i)) (versOf (bs.take i)) → (∀ g, ov'.ownBlock = some g → g ∉ wf Wb bv ev vv) → Below base w w3 →
        Code.wp Yba.prog (pc7 [1, 1, 1, 0, 1, 0, 0, 1, 1, 0, 0, 1, 1, 1, 1]) (Exit.inBlock 1 (Exit.then (Code.wp Yba.prog (pc7 [1, 1, 1, 0, 1, 0, 0, 1, 1, 1]) (Exit.then (fun a' w' => (∃ (i : Nat) (oldv bv ev vv : Value) (v10 v11 v12 : Value), Fb v0 v1 (.pointer (some ⟨Wb, 0, none⟩)) oldv v10 v11 v12 v13 (.slice (some ⟨g, off, none⟩) bs.length ca) (.int .i64 bs.length) (.int .i64 i) v43 v44 v45 a' ∧ i ≤ bs.length ∧ w'.ownsRow base 9 1 oldv (olds (bs.take i)).length (strs (olds (bs.take i))) ∧ WvG w' base Wb bv ev vv (.slice none 0 0) (.slice none 0 0) (bodyOf (bs.take i)) (endsOf (bs.take i)) (versOf (bs.take i)) ∧ (∀ g, oldv.ownBlock = some g → g ∉ wf Wb bv ev vv) ∧ Below base w w') ∧ (1000 - intOf (a'.tmps.getD 20 undef)).toNat < (1000 - (i : Int)).toNat) (Exit.inBlock 0 Q))) (Exit.then (fun a' w' => (∃ (i : Nat) (oldv bv ev vv : Value) (v10 v11 v12 : Value), Fb v0 v1 (.pointer (some ⟨Wb, 0, none⟩)) oldv v10 v11 v12 v13 (.slice (some ⟨g, off, none⟩) bs.length ca) (.int .i64 bs.length) (.int .i64 i) v43 v44 v45 a' ∧ i ≤ bs.length ∧ w'.ownsRow base 9 1 oldv (olds (bs.take i)).length (strs (olds (bs.take i))) ∧ WvG w' base Wb bv ev vv (.slice none 0 0) (.slice none 0 0) (bodyOf (bs.take i)) (endsOf (bs.take i)) (versOf (bs.take i)) ∧ (∀ g, oldv.ownBlock = some g → g ∉ wf Wb bv ev vv) ∧ Below base w w') ∧ (1000 - intOf (a'.tmps.getD 20 undef)).toNat < (1000 - (i : Int)).toNat) (Exit.inBlock 0 Q)))) a8 w3 := by
      intro ov' w3 a8 h8 o8 W8 d8 B8
      refine bp10 W8 (by omega) (by omega) (by omega) h8 (fun bv' ev' vv' w4 a9 h9 W9 O9 F9 => ?_)
      refine bi11 h9 (by omega) (fun a10 h10 => ?_)
      refine ⟨⟨i + 1, ov', bv', ev', vv', _, _, _, h10, by omega, ?_, ?_, ?_, ?_⟩, ?_⟩
      · exact ownsRow_congr o8 (fun g hg => O9.block g (o8.lt g hg).2 (d8 g hg))
      · rw [htk, bodyOf_snoc, endsOf_snoc, versOf_snoc]; exact W9
      · intro g hg hm
        rcases F9 g hm with q | q
        · exact d8 g hg q
        · have := (o8.lt g hg).2; omega
      · exact below_only B8 O9 (by have := B8.size; omega) (fun x hx => (W8.lt x hx).1)
      · rw [h10.e20]
        show (1000 - ((i + 1 : Nat) : Int)).toNat < _
        omega
    cases hsh : shOf b with
    | true =>
      rw [hsh] at hb7
      refine wp_cond_true hb7 (bp9 (by omega) (by omega) hown h7 (fun ov' w3 a8 h8 o8 g8 l8 => ?_))
      obtain ⟨ob, g8⟩ := g8
      have hs8 := g8.size
      simp at hs8
      refine rest ov' w3 a8 (by rw [hsh]; rw [hsh] at h8; exact h8) (by rw [htk, olds_pos _ _ hsh]; exact o8) ?_ ?_ ?_
      · refine hW.congr (fun g hg => ?_) (by omega)
        rw [g8.block g (by have := (hW.lt g hg).2; simp; omega) (fun e => hdis g e.symm hg), Below.heap_alloc _ _ _ (hW.lt g hg).2]
      · intro g hg hm
        rcases l8 with e | e
        · rw [e] at hg; exact hdis g hg hm
        · rw [e] at hg; cases hg
          have := (hW.lt _ hm).2; omega
      · exact (hB.alloc (by omega) ob).grown g8 (by simp; omega) (fun k hk => (hown.lt k hk).1)
    | false =>
      rw [hsh] at hb7
      refine wp_cond_false hb7 (wp_skip ?_)
      exact rest oldv w2 a7 h7 (by rw [htk, olds_neg _ _ hsh]; exact hown) hW hdis hB
  · rw [decide_eq_false hlt] at hb3
    refine wp_seq (wp_cond_false hb3 (wp_exit ?_))
    show Exit.inBlock 0 Q (.exit 0) a3 w2
    refine inB ?_
    have e : i = bs.length := by omega
    subst e
    rw [List.take_length] at hown hW
    exact hQ oldv bv ev vv _ _ _ _ w2 a3 h3 hown hW hdis hB

end Go.Proofs.Ybulkacye
