import Derived.Test.YbulkacyeCom1
import Derived.Test.YbulkacyeCom4a
import Derived.Test.YbulkacyeTwo
import Derived.Test.YbulkacyeCmp2
namespace Go.Proofs.Ybulkacye
open Go.RowKit Go.Maps Go.Proofs.Ybulkacye.Lcs
set_option linter.unusedVariables false
set_option linter.unusedSectionVars false
variable {v0 v1 v5 v6 v11 v12 v13 v18 v19 v22 v29 v30 v31 v57 v58 v59 v83 v84 v85 v115 v116 v117 : Value} {a : Act} {Q : Exit → Act → World → Prop} {w : World} {base bm gi gn : Nat} {ao bo : Option Addr} {ca cb : Nat} {A B ks : List ByteArray}

theorem own_set {w : World} {base : Nat} {e : TypeId} {size g n cap : Nat} {xs : List Value} (h : w.ownsRow base e size (.slice (some ⟨g, 0, none⟩) n cap) n xs) (i : Nat) (u : Value) :
    (w.setCell ⟨g, i, none⟩ u).ownsRow base e size (.slice (some ⟨g, 0, none⟩) n cap) n (xs.set i u) := by
  refine ⟨by rw [List.length_set]; exact h.1, ?_⟩
  rcases h.2 with ⟨h', _⟩ | ⟨g', cap', cur, h', hb, hg, hn, hc, hs, ht⟩
  · simp at h'
  · simp only [Value.slice.injEq, Option.some.injEq, Addr.mk.injEq, and_true, true_and] at h'
    obtain ⟨rfl, rfl⟩ := h'
    refine .inr ⟨g, cap, _, rfl, hb, blk_setCell_same hg u, hn, hc, by simp [hs], ?_⟩
    rw [Array.toList_setIfInBounds, List.take_set, ht]
theorem mcells_set (M : List (Nat × Nat)) : ∀ (k x y : Nat), ((mcells M).set (k * 2) (.int .i64 x)).set (k * 2 + 1) (.int .i64 y) = mcells (M.set k (x, y)) := by
  induction M with
  | nil => intro k x y; simp [mcells]
  | cons q M ih =>
    intro k x y
    cases k with
    | zero => simp [mcells]
    | succ k =>
      have e1 : (k + 1) * 2 = k * 2 + 1 + 1 := by omega
      have := ih k x y
      simp only [mcells, List.flatMap_cons, e1] at *
      simp only [List.set_cons_succ, List.cons_append, List.nil_append]
      rw [this]
      simp
theorem mcells_at (M : List (Nat × Nat)) : ∀ (k x y : Nat), M[k]? = some (x, y) → (mcells M)[k * 2]? = some (.int .i64 x) ∧ (mcells M)[k * 2 + 1]? = some (.int .i64 y) := by
  induction M with
  | nil => intro k x y h; simp at h
  | cons q M ih =>
    intro k x y h
    cases k with
    | zero => simp at h; subst h; simp [mcells]
    | succ k =>
      have e1 : (k + 1) * 2 = k * 2 + 1 + 1 := by omega
      have := ih k x y (by simpa using h)
      simp only [mcells, List.flatMap_cons, e1] at *
      simpa using this
def backOf (FA FB : List Nat) (p : Nat × Nat) : Nat × Nat := (FA.getD p.1 0, FB.getD p.2 0)
theorem half_set (FA FB : List Nat) (M : List (Nat × Nat)) (k : Nat) (q : Nat × Nat) (h : M[k]? = some q) : ((M.take k).map (backOf FA FB) ++ M.drop k).set k (backOf FA FB q) = (M.take (k + 1)).map (backOf FA FB) ++ M.drop (k + 1) := by
  have hk := (List.getElem?_eq_some_iff.1 h).1
  have e3 : ((M.take k).map (backOf FA FB)).length = k := by simp; omega
  rw [take_succ' h, List.map_append, List.set_append, if_neg (by omega), e3, Nat.sub_self, List.drop_eq_getElem_cons hk, List.set_cons_zero]
  simp
theorem half_at (FA FB : List Nat) (M : List (Nat × Nat)) (k : Nat) (q : Nat × Nat) (h : M[k]? = some q) : ((M.take k).map (backOf FA FB) ++ M.drop k)[k]? = some q := by
  have hk := (List.getElem?_eq_some_iff.1 h).1
  have e3 : ((M.take k).map (backOf FA FB)).length = k := by simp; omega
  rw [List.getElem?_append_right (by omega), e3, Nat.sub_self, List.getElem?_drop]
  exact h
/-- A slice of numbers below base. -/
def Nats (base : Nat) (w : World) (ao : Option Addr) (L : List Nat) : Prop :=
  ∀ (i v : Nat), L[i]? = some v → ∃ g, ao = some ⟨g, 0, none⟩ ∧ g < base ∧ w.cell? ⟨g, i, none⟩ = some (.int .i64 (v : Int))
theorem Nats.kp {base : Nat} {w w' : World} {ao : Option Addr} {L : List Nat} {F : List Nat} (h : Nats base w ao L) (hk : Kp base F w w') (hF : ∀ g, ao = some ⟨g, 0, none⟩ → g ∉ F) : Nats base w' ao L := by
  intro i s hs
  obtain ⟨g, h1, h2, h3⟩ := h i s hs
  refine ⟨g, h1, h2, ?_⟩
  rw [World.cell?_of_block (a := ⟨g, i, none⟩) (hk.block g h2 (hF g h1))]
  exact h3

set_option maxRecDepth 20000 in
set_option maxHeartbeats 4000000 in
theorem ch34 {k n : Nat} (hk : k < n) (h : Fm v0 v1 v5 v6 v11 v12 v13 v18 v19 v22 v29 v30 v31 v57 v58 v59 v83 v84 v85 v115 (.int .i64 n) (.int .i64 k) a) (hQ : ∀ a', Fm v0 v1 v5 v6 v11 v12 v13 v18 v19 v22 v29 v30 v31 v57 v58 v59 v83 v84 v85 v115 (.int .i64 n) (.int .i64 k) a' → a'.tmps.getD 118 undef = .bool true → Q .normal a' w) : Code.wp Yba.prog (pc18 [1, 1, 1, 1, 1, 1, 1, 1, 1, 1, 1, 0, 1, 0, 0, 0]) Q a w := by
  obtain ⟨u, rfl⟩ := h.lay
  clear h
  conv => arg 2; whnf
  go_wp2
  exact hQ _ ⟨rfl, rfl, rfl, rfl, rfl, rfl, rfl, rfl, rfl, rfl, rfl, rfl, rfl, rfl, rfl, rfl, rfl, rfl, rfl, rfl, rfl, rfl, rfl, rfl⟩ rfl
set_option maxRecDepth 20000 in
set_option maxHeartbeats 4000000 in
theorem r37 {k : Nat} (h : Fm v0 v1 v5 v6 v11 v12 v13 v18 v19 v22 v29 v30 v31 v57 v58 v59 v83 v84 v85 v115 v116 (.int .i64 k) a) (hk : k ≤ 1000) (hQ : ∀ a', Fm v0 v1 v5 v6 v11 v12 v13 v18 v19 v22 v29 v30 v31 v57 v58 v59 v83 v84 v85 v115 v116 (.int .i64 ((k + 1 : Nat) : Int)) a' → Q .normal a' w) : Code.wp Yba.prog (pc18 [1, 1, 1, 1, 1, 1, 1, 1, 1, 1, 1, 0, 1, 0, 0, 1, 1, 1]) Q a w := by
  have e : ((k + 1 : Nat) : Int) = (k : Int) + 1 := by omega
  rw [e] at hQ
  clear e
  obtain ⟨u, rfl⟩ := h.lay
  clear h
  conv => arg 2; whnf
  go_wp2
  exact ⟨rfl, rfl, rfl, rfl, rfl, rfl, rfl, rfl, rfl, rfl, rfl, rfl, rfl, rfl, rfl, rfl, rfl, rfl, rfl, rfl, rfl, rfl, rfl, rfl⟩
set_option maxRecDepth 20000 in
set_option maxHeartbeats 4000000 in
theorem co4 {base4 S cfa cfb fc : Nat} {fa fb fo : Option Addr} {FA FB : List Nat} {M : List (Nat × Nat)} (hl : M.length ≤ 1000) (la : FA.length ≤ 1000) (lb : FB.length ≤ 1000) (hbw : base4 ≤ w.heap.size) (hS : S < base4) (hbox : w.cell? ⟨S, 2, none⟩ = some (.slice fo M.length fc))
    (hown : w.ownsRow base4 57 2 (.slice fo M.length fc) M.length (mcells M)) (hA : Nats base4 w fa FA) (hB : Nats base4 w fb FB) (hM : ∀ p ∈ M, p.1 < FA.length ∧ p.2 < FB.length)
    (h : Fm v0 v1 v5 v6 v11 v12 (.slice fb FB.length cfb) v18 (.slice fa FA.length cfa) (.pointer (some ⟨S, 0, none⟩)) v29 v30 v31 v57 v58 v59 v83 v84 v85 (.slice fo M.length fc) (.int .i64 M.length) (.int .i64 0) a)
    (hQ : ∀ v117 w' a', Fm v0 v1 v5 v6 v11 v12 (.slice fb FB.length cfb) v18 (.slice fa FA.length cfa) (.pointer (some ⟨S, 0, none⟩)) v29 v30 v31 v57 v58 v59 v83 v84 v85 (.slice fo M.length fc) (.int .i64 M.length) v117 a' → w'.ownsRow base4 57 2 (.slice fo M.length fc) M.length (mcells (M.map (backOf FA FB))) → Kp base4 [] w w' → Q .normal a' w') : Code.wp Yba.prog (pc18 [1, 1, 1, 1, 1, 1, 1, 1, 1, 1, 1, 0, 1]) Q a w := by
  show Code.wp Yba.prog (Code.block 6 (Code.loop (pc18 [1, 1, 1, 1, 1, 1, 1, 1, 1, 1, 1, 0, 1, 0, 0]))) Q a w
  refine wp_block (wp_loop (fun a' w' => ∃ (k : Nat), Fm v0 v1 v5 v6 v11 v12 (.slice fb FB.length cfb) v18 (.slice fa FA.length cfa) (.pointer (some ⟨S, 0, none⟩)) v29 v30 v31 v57 v58 v59 v83 v84 v85 (.slice fo M.length fc) (.int .i64 M.length) (.int .i64 k) a' ∧ k ≤ M.length ∧ w'.ownsRow base4 57 2 (.slice fo M.length fc) M.length (mcells ((M.take k).map (backOf FA FB) ++ M.drop k)) ∧ Kp base4 [] w w' ∧ base4 ≤ w'.heap.size) (fun a' _ => (1000 - intOf (a'.tmps.getD 117 undef)).toNat) ⟨0, h, Nat.zero_le _, by simpa using hown, Kp.refl _ _ _, hbw⟩ ?_)
  clear h hown
  rintro a2 w2 ⟨k, h, hk, hown, hK, hbz⟩
  have hμ : (1000 - intOf (a2.tmps.getD 117 undef)).toNat = (1000 - (k : Int)).toNat := by rw [h.e117]; rfl
  rw [hμ]
  clear hμ
  have hbox2 : w2.cell? ⟨S, 2, none⟩ = some (.slice fo M.length fc) := by rw [World.cell?_of_block (a := ⟨S, 2, none⟩) (hK.block S hS (by simp))]; exact hbox
  have hA2 := hA.kp hK (by simp)
  have hB2 := hB.kp hK (by simp)
  by_cases hlt : k < M.length
  · obtain ⟨⟨x, y⟩, hxy⟩ : ∃ q, M[k]? = some q := ⟨M[k], by simp [hlt]⟩
    obtain ⟨mx, my⟩ := hM _ (List.mem_of_getElem? hxy)
    obtain ⟨G, cap, hv, hG1, hG2⟩ := hown.form (by omega)
    cases hv
    obtain ⟨xx, hxx⟩ : ∃ v, FA[x]? = some v := ⟨FA[x], by simp⟩
    obtain ⟨yy, hyy⟩ : ∃ v, FB[y]? = some v := ⟨FB[y], by simp⟩
    obtain ⟨ga, rfl, hga, ca1⟩ := hA2 x xx hxx
    obtain ⟨gb, rfl, hgb, cb1⟩ := hB2 y yy hyy
    have hbk : backOf FA FB (x, y) = (xx, yy) := by simp [backOf, List.getD, hxx, hyy]
    obtain ⟨m1, m2⟩ := mcells_at _ k x y (half_at FA FB M k (x, y) hxy)
    have c1 : w2.cell? ⟨G, k * 2, none⟩ = some (.int .i64 (x : Int)) := by rw [hown.cellAt (k * 2) (by omega)]; exact m1
    have c2 : w2.cell? ⟨G, k * 2 + 1, none⟩ = some (.int .i64 (y : Int)) := by rw [hown.cellAt (k * 2 + 1) (by omega)]; exact m2
    have hfz : ∀ i, w2.frozen? ⟨G, i, none⟩ = false := fun i => by
      rcases hown.2 with ⟨h', _⟩ | ⟨g', cap', cur, h', _, hg, _⟩
      · simp at h'
      · simp only [Value.slice.injEq, Option.some.injEq, Addr.mk.injEq, and_true, true_and] at h'
        obtain ⟨rfl, rfl⟩ := h'
        simp [World.frozen?, hg]
    have f1 := hfz (k * 2)
    have f2 := hfz (k * 2 + 1)
    have HN : Hid (∀ ob : Obj, (((w2.setCell ⟨G, k * 2, none⟩ (.int .i64 (xx : Int))).setCell ⟨G, k * 2 + 1, none⟩ (.int .i64 (yy : Int))).alloc ob).ownsRow base4 57 2 (.slice (some ⟨G, 0, none⟩) M.length fc) M.length (mcells ((M.take (k + 1)).map (backOf FA FB) ++ M.drop (k + 1)))) := by
      intro ob
      have := own_set (own_set hown (k * 2) (.int .i64 (xx : Int))) (k * 2 + 1) (.int .i64 (yy : Int))
      rw [mcells_set, ← hbk, half_set FA FB M k (x, y) hxy] at this
      exact this.alloc ob
    have HKp : Hid (∀ ob : Obj, Kp base4 [] w (((w2.setCell ⟨G, k * 2, none⟩ (.int .i64 (xx : Int))).setCell ⟨G, k * 2 + 1, none⟩ (.int .i64 (yy : Int))).alloc ob).drew) := by
      intro ob
      have := ((hK.setCell _ (.int .i64 (xx : Int)) (.inr hG1 : (⟨G, k * 2, none⟩ : Addr).block ∈ [] ∨ _)).setCell _ (.int .i64 (yy : Int)) (.inr hG1 : (⟨G, k * 2 + 1, none⟩ : Addr).block ∈ [] ∨ _)).alloc (by simp [World.setCell]; omega) ob
      exact ⟨this.os, this.tape, this.output, this.size, this.block⟩
    obtain ⟨W2, hW2⟩ : ∃ W2, W2 = w2 := ⟨_, rfl⟩
    subst hW2
    have l1 : S < W2.heap.size := by omega
    have l2 : ga < W2.heap.size := by omega
    have l3 : gb < W2.heap.size := by omega
    have n1 : G ≠ ga := by omega
    have n2 : G ≠ gb := by omega
    have n3 : G ≠ S := by omega
    refine sq (x := pc18 [1, 1, 1, 1, 1, 1, 1, 1, 1, 1, 1, 0, 1, 0, 0, 0]) (y := Code.seq (Code.cond (.tmp 118) .skip (.exit 6)) (Code.seq (Code.block 7 (pc18 [1, 1, 1, 1, 1, 1, 1, 1, 1, 1, 1, 0, 1, 0, 0, 1, 1, 0, 0])) (pc18 [1, 1, 1, 1, 1, 1, 1, 1, 1, 1, 1, 0, 1, 0, 0, 1, 1, 1]))) rfl (ch34 hlt h (fun a3 h3 hb3 => ?_))
    refine wp_seq (wp_cond_true hb3 (wp_skip ?_))
    refine wp_seq (wp_block (wp_mono (co36 hlt hl mx my la lb hbox2 ca1 cb1 c1 c2 f1 f2 l1 l2 l3 hG2 h3 (R := fun a' w' => Fm v0 v1 v5 v6 v11 v12 (.slice (some ⟨gb, 0, none⟩) FB.length cfb) v18 (.slice (some ⟨ga, 0, none⟩) FA.length cfa) (.pointer (some ⟨S, 0, none⟩)) v29 v30 v31 v57 v58 v59 v83 v84 v85 (.slice (some ⟨G, 0, none⟩) M.length fc) (.int .i64 M.length) (.int .i64 k) a' ∧ w' = (((W2.setCell ⟨G, k * 2, none⟩ (.int .i64 (xx : Int))).setCell ⟨G, k * 2 + 1, none⟩ (.int .i64 (yy : Int))).alloc (.cells #[.int .i64 (x : Int), .int .i64 (y : Int)] 57)).drew) (fun a' h' => ⟨h', rfl⟩)) ?_))
    intro e a4 w4 he
    cases e with
    | normal =>
      obtain ⟨h4, rfl⟩ := he
      refine r37 h4 (by omega) (fun a5 h5 => ?_)
      refine ⟨⟨k + 1, h5, by omega, ownsRow_congr (HN.out (.cells #[.int .i64 (x : Int), .int .i64 (y : Int)] 57)) (fun _ _ => rfl), HKp.out _, by simp [World.setCell]; omega⟩, ?_⟩
      rw [h5.e117]
      show (1000 - ((k + 1 : Nat) : Int)).toNat < _
      omega
    | _ => exact absurd he (by intro h; exact h)
  · have hje : k = M.length := by omega
    subst hje
    rw [List.take_length, List.drop_length, List.append_nil] at hown
    obtain ⟨u, rfl⟩ := h.lay
    clear h
    conv => arg 2; whnf
    go_wp2
    exact hQ _ _ _ ⟨rfl, rfl, rfl, rfl, rfl, rfl, rfl, rfl, rfl, rfl, rfl, rfl, rfl, rfl, rfl, rfl, rfl, rfl, rfl, rfl, rfl, rfl, rfl, rfl⟩ hown hK

end Go.Proofs.Ybulkacye
