import Derived.Test.YbulkacyeLng
namespace Go.Proofs.Ybulkacye
open Go.RowKit Go.Proofs.Ybulkacye.Lcs
set_option linter.unusedVariables false
set_option linter.unusedSectionVars false
variable {v0 v1 v5 v6 v7 v8 v9 v10 v11 v12 v13 v14 v15 : Value} {a : Act} {Q : Exit → Act → World → Prop} {w : World} {Wb gl gr go : Nat} {n m : Nat} {ao bo : Option Addr} {ca cb : Nat} {bs ns : List UInt8}

theorem L_snoc_eq {α : Type} [DecidableEq α] (x : α) (a b : List α) : L (a ++ [x]) (b ++ [x]) = L a b + 1 := by
  rw [← L_rev, List.reverse_append, List.reverse_append]
  show L (x :: a.reverse) (x :: b.reverse) = _
  rw [L_cons_eq, L_rev]
theorem L_snoc_ne {α : Type} [DecidableEq α] {x y : α} (a b : List α) (h : x ≠ y) : L (a ++ [x]) (b ++ [y]) = max (L a (b ++ [y])) (L (a ++ [x]) b) := by
  rw [← L_rev, List.reverse_append, List.reverse_append]
  show L (x :: a.reverse) (y :: b.reverse) = _
  rw [L_cons_ne _ _ h, ← L_rev a (b ++ [y]), ← L_rev (a ++ [x]) b, List.reverse_append, List.reverse_append]
  rfl
def T (A B : List ByteArray) (i j : Nat) : Nat := L (A.take i) (B.take j)
theorem T_le (A B : List ByteArray) (i j : Nat) : T A B i j ≤ A.length := by
  unfold T
  have h1 := L_len_left (A.take i) (B.take j)
  have h2 : (A.take i).length ≤ A.length := by simp; omega
  omega
theorem T_zero (A B : List ByteArray) (i : Nat) : T A B i 0 = 0 := by unfold T; rw [List.take_zero, L_nil_right]
theorem T_zero' (A B : List ByteArray) (j : Nat) : T A B 0 j = 0 := by unfold T; rw [List.take_zero, L_nil_left]
theorem T_eq {A B : List ByteArray} {i j : Nat} {s : ByteArray} (h1 : A[i]? = some s) (h2 : B[j]? = some s) : T A B (i + 1) (j + 1) = T A B i j + 1 := by
  unfold T; rw [take_succ' h1, take_succ' h2, L_snoc_eq]
theorem T_ne {A B : List ByteArray} {i j : Nat} {s t : ByteArray} (h1 : A[i]? = some s) (h2 : B[j]? = some t) (h : s ≠ t) : T A B (i + 1) (j + 1) = max (T A B i (j + 1)) (T A B (i + 1) j) := by
  unfold T; rw [take_succ' h1, take_succ' h2, L_snoc_ne _ _ h]
def il (N : Nat) (f : Nat → Nat) : List Int := (List.range N).map fun x => (f x : Int)
theorem il_set (N : Nat) (f : Nat → Nat) (j v : Nat) : (il N f).set j (v : Int) = il N (fun x => if x = j then v else f x) := by
  unfold il
  apply List.ext_getElem?
  intro i
  rw [List.getElem?_set]
  by_cases e : j = i
  · subst e
    by_cases hj : j < N
    · simp [hj]
    · simp [hj]
  · rw [if_neg e]
    by_cases hi : i < N
    · simp [hi, Ne.symm e]
    · simp [hi]
theorem il_get (N : Nat) (f : Nat → Nat) (j : Nat) (h : j < N) : (il N f)[j]? = some (f j : Int) := by simp [il, h]
theorem il_congr {N : Nat} {f g : Nat → Nat} (h : ∀ j, j < N → f j = g j) : il N f = il N g := by
  unfold il
  exact List.map_congr_left (fun j hj => by rw [h j (List.mem_range.1 hj)])
/-- The table's row in the round of line i + 1, ahead of column j. -/
def rowF (A B : List ByteArray) (i j x : Nat) : Nat := if x < j then T A B (i + 1) x else T A B i x

set_option maxRecDepth 20000 in
theorem gl2 {A B : List ByteArray} {i oc : Nat} (hA : A.length = n) (hB : B.length = m) (hn : n ≤ 300) (hm : m ≤ 300) (hi : i < n) (cA : ∀ x s, A[x]? = some s → w.cell? ⟨go, x, none⟩ = some (.string s)) (cB : ∀ x s, B[x]? = some s → w.cell? ⟨gl, x, none⟩ = some (.string s)) (lo : go < w.heap.size) (ll : gl < w.heap.size) (no : go ≠ gr) (nl : gl ≠ gr)
    (h : Fg v0 v1 v5 (.slice (some ⟨go, 0, none⟩) n oc) (.slice (some ⟨gl, 0, none⟩) m m) v8 v9 (.int .i64 m) (.slice (some ⟨gr, 0, none⟩) (m + 1) (m + 1)) (.int .i64 ((i + 1 : Nat) : Int)) (.int .i64 ((0 : Nat) : Int)) (.int .i64 ((0 + 1 : Nat) : Int)) v15 a) (hr : RowI w gr (il (m + 1) (T A B i)))
    (hQ : ∀ v13 v14 v15 w' a', Fg v0 v1 v5 (.slice (some ⟨go, 0, none⟩) n oc) (.slice (some ⟨gl, 0, none⟩) m m) v8 v9 (.int .i64 m) (.slice (some ⟨gr, 0, none⟩) (m + 1) (m + 1)) (.int .i64 ((i + 1 : Nat) : Int)) v13 v14 v15 a' → RowI w' gr (il (m + 1) (T A B (i + 1))) → Only w w' [gr] → Q .normal a' w') : Code.wp Yba.prog (pc4 [1, 1, 1, 1, 1, 1, 0, 1, 0, 0, 1, 0, 0, 1, 1]) Q a w := by
  show Code.wp Yba.prog (Code.block 2 (Code.loop (pc4 [1, 1, 1, 1, 1, 1, 0, 1, 0, 0, 1, 0, 0, 1, 1, 0, 0]))) Q a w
  refine wp_block (wp_loop (fun a' w' => ∃ (j d : Nat) (v15 : Value), Fg v0 v1 v5 (.slice (some ⟨go, 0, none⟩) n oc) (.slice (some ⟨gl, 0, none⟩) m m) v8 v9 (.int .i64 m) (.slice (some ⟨gr, 0, none⟩) (m + 1) (m + 1)) (.int .i64 ((i + 1 : Nat) : Int)) (.int .i64 d) (.int .i64 ((j + 1 : Nat) : Int)) v15 a' ∧ j ≤ m ∧ d = T A B i j ∧ RowI w' gr (il (m + 1) (rowF A B i (j + 1))) ∧ Only w w' [gr]) (fun a' _ => (1000 - intOf (a'.tmps.getD 14 undef)).toNat) ⟨0, 0, _, h, Nat.zero_le _, (T_zero A B i).symm, ?_, Only.refl _ _⟩ ?_)
  · have e : il (m + 1) (rowF A B i (0 + 1)) = il (m + 1) (T A B i) := il_congr (fun x _ => by
      unfold rowF
      by_cases c : x < 0 + 1
      · have : x = 0 := by omega
        subst this
        rw [if_pos c, T_zero, T_zero]
      · rw [if_neg c])
    rw [e]; exact hr
  clear h hr
  rintro a2 w2 ⟨j, d, v15, h, hj, hd, hr, hO⟩
  have hμ : (1000 - intOf (a2.tmps.getD 14 undef)).toNat = (1000 - ((j + 1 : Nat) : Int)).toNat := by rw [h.e14]; rfl
  rw [hμ]
  clear hμ
  refine sq (x := pc4 [1, 1, 1, 1, 1, 1, 0, 1, 0, 0, 1, 0, 0, 1, 1, 0, 0, 0]) (y := Code.seq (Code.block 3 (pc4 [1, 1, 1, 1, 1, 1, 0, 1, 0, 0, 1, 0, 0, 1, 1, 0, 0, 1, 0, 0])) (pc4 [1, 1, 1, 1, 1, 1, 0, 1, 0, 0, 1, 0, 0, 1, 1, 0, 0, 1, 1])) rfl (gh12 h (fun hlt a3 h3 => ?_) (fun hlt a3 h3 => ?_))
  · show Exit.inBlock 2 Q (.exit 2) a3 w2
    refine inB ?_
    have e : j = m := by omega
    subst e
    have e2 : il (j + 1) (rowF A B i (j + 1)) = il (j + 1) (T A B (i + 1)) := il_congr (fun x hx => by unfold rowF; rw [if_pos hx])
    rw [e2] at hr
    exact hQ _ _ _ w2 a3 h3 hr hO
  · obtain ⟨s, hs⟩ : ∃ s, A[i]? = some s := ⟨A[i], by simp⟩
    obtain ⟨t, ht⟩ : ∃ t, B[j]? = some t := ⟨B[j], by simp⟩
    have ca2 : w2.cell? ⟨go, i, none⟩ = some (.string s) := by rw [World.cell?_of_block (a := ⟨go, i, none⟩) (hO.block go lo (by simp; exact no))]; exact cA i s hs
    have cb2 : w2.cell? ⟨gl, j, none⟩ = some (.string t) := by rw [World.cell?_of_block (a := ⟨gl, j, none⟩) (hO.block gl ll (by simp; exact nl))]; exact cB j t ht
    have hT1 := T_le A B i j
    have hc1 := hr.cell (il_get (m + 1) (rowF A B i (j + 1)) (j + 1) (by omega))
    have hc0 := hr.cell (il_get (m + 1) (rowF A B i (j + 1)) j (by omega))
    have e1 : rowF A B i (j + 1) (j + 1) = T A B i (j + 1) := by unfold rowF; rw [if_neg (by omega)]
    have e0 : rowF A B i (j + 1) j = T A B (i + 1) j := by unfold rowF; rw [if_pos (by omega)]
    rw [e1] at hc1
    rw [e0] at hc0
    have next : ∀ v, v = T A B (i + 1) (j + 1) → il (m + 1) (fun x => if x = j + 1 then v else rowF A B i (j + 1) x) = il (m + 1) (rowF A B i (j + 1 + 1)) := fun v hv => il_congr (fun x _ => by
      unfold rowF
      by_cases c : x = j + 1
      · subst c; rw [if_pos rfl, if_pos (by omega), hv]
      · rw [if_neg c]
        by_cases c2 : x < j + 1
        · rw [if_pos c2, if_pos (by omega)]
        · rw [if_neg c2, if_neg (by omega)])
    refine wp_seq (wp_block ?_)
    refine sq (x := pc4 [1, 1, 1, 1, 1, 1, 0, 1, 0, 0, 1, 0, 0, 1, 1, 0, 0, 1, 0, 0, 0]) (y := pc4 [1, 1, 1, 1, 1, 1, 0, 1, 0, 0, 1, 0, 0, 1, 1, 0, 0, 1, 0, 0, 1]) rfl (g14 (by omega) (by omega) hc1.1 h3 (fun a4 h4 => ?_))
    refine sq (x := pc4 [1, 1, 1, 1, 1, 1, 0, 1, 0, 0, 1, 0, 0, 1, 1, 0, 0, 1, 0, 0, 1, 0]) (y := pc4 [1, 1, 1, 1, 1, 1, 0, 1, 0, 0, 1, 0, 0, 1, 1, 0, 0, 1, 0, 0, 1, 1]) rfl ?_
    refine sq (x := pc4 [1, 1, 1, 1, 1, 1, 0, 1, 0, 0, 1, 0, 0, 1, 1, 0, 0, 1, 0, 0, 1, 0, 0]) (y := Code.cond (.tmp 65) (pc4 [1, 1, 1, 1, 1, 1, 0, 1, 0, 0, 1, 0, 0, 1, 1, 0, 0, 1, 0, 0, 1, 0, 1, 0]) (Code.seq (pc4 [1, 1, 1, 1, 1, 1, 0, 1, 0, 0, 1, 0, 0, 1, 1, 0, 0, 1, 0, 0, 1, 0, 1, 1, 0]) (Code.cond (.tmp 80) (pc4 [1, 1, 1, 1, 1, 1, 0, 1, 0, 0, 1, 0, 0, 1, 1, 0, 0, 1, 0, 0, 1, 0, 1, 1, 1, 0]) .skip))) rfl (g15 (i' := i) (j' := j) (by omega) (by omega) (by omega) (by omega) (by omega) (by omega) ca2 cb2 h4 (fun nq a5 h5 hb5 => ?_))
    have rest : ∀ (w6 : World) (a6 : Act), Fg v0 v1 v5 (.slice (some ⟨go, 0, none⟩) n oc) (.slice (some ⟨gl, 0, none⟩) m m) v8 v9 (.int .i64 m) (.slice (some ⟨gr, 0, none⟩) (m + 1) (m + 1)) (.int .i64 ((i + 1 : Nat) : Int)) (.int .i64 d) (.int .i64 ((j + 1 : Nat) : Int)) (.int .i64 (T A B i (j + 1))) a6 → RowI w6 gr (il (m + 1) (rowF A B i (j + 1 + 1))) → Only w w6 [gr] →
        Code.wp Yba.prog (pc4 [1, 1, 1, 1, 1, 1, 0, 1, 0, 0, 1, 0, 0, 1, 1, 0, 0, 1, 0, 0, 1, 1]) (Exit.inBlock 3 (Exit.then (Code.wp Yba.prog (pc4 [1, 1, 1, 1, 1, 1, 0, 1, 0, 0, 1, 0, 0, 1, 1, 0, 0, 1, 1]) (Exit.then (fun a' w' => (∃ (j d : Nat) (v15 : Value), Fg v0 v1 v5 (.slice (some ⟨go, 0, none⟩) n oc) (.slice (some ⟨gl, 0, none⟩) m m) v8 v9 (.int .i64 m) (.slice (some ⟨gr, 0, none⟩) (m + 1) (m + 1)) (.int .i64 ((i + 1 : Nat) : Int)) (.int .i64 d) (.int .i64 ((j + 1 : Nat) : Int)) v15 a' ∧ j ≤ m ∧ d = T A B i j ∧ RowI w' gr (il (m + 1) (rowF A B i (j + 1))) ∧ Only w w' [gr]) ∧ (1000 - intOf (a'.tmps.getD 14 undef)).toNat < (1000 - ((j + 1 : Nat) : Int)).toNat) (Exit.inBlock 2 Q))) (Exit.then (fun a' w' => (∃ (j d : Nat) (v15 : Value), Fg v0 v1 v5 (.slice (some ⟨go, 0, none⟩) n oc) (.slice (some ⟨gl, 0, none⟩) m m) v8 v9 (.int .i64 m) (.slice (some ⟨gr, 0, none⟩) (m + 1) (m + 1)) (.int .i64 ((i + 1 : Nat) : Int)) (.int .i64 d) (.int .i64 ((j + 1 : Nat) : Int)) v15 a' ∧ j ≤ m ∧ d = T A B i j ∧ RowI w' gr (il (m + 1) (rowF A B i (j + 1))) ∧ Only w w' [gr]) ∧ (1000 - intOf (a'.tmps.getD 14 undef)).toNat < (1000 - ((j + 1 : Nat) : Int)).toNat) (Exit.inBlock 2 Q)))) a6 w6 := by
      intro w6 a6 h6 r6 O6
      refine g19 h6 (fun a7 h7 => ?_)
      refine gi13 h7 (by omega) (fun a8 h8 => ?_)
      refine ⟨⟨j + 1, T A B i (j + 1), _, h8, hlt, rfl, r6, O6⟩, ?_⟩
      rw [h8.e14]
      show (1000 - ((j + 1 + 1 : Nat) : Int)).toNat < _
      omega
    have hr5 : RowI (w2.drewN nq) gr (il (m + 1) (rowF A B i (j + 1))) := hr
    by_cases c : s = t
    · rw [decide_eq_true c] at hb5
      subst c
      refine wp_cond_true hb5 (g16 (by omega) (by omega) (by omega) hc1.1 hc1.2 h5 (fun a6 h6 => ?_))
      refine rest _ a6 h6 ?_ ((hO.drewN nq).setCell _ _ (.inl (by simp)))
      have := hr5.set (j + 1) ((d + 1 : Nat) : Int)
      rw [il_set, next (d + 1) (by rw [T_eq hs ht, hd])] at this
      exact this
    · rw [decide_eq_false c] at hb5
      have hmax := T_ne hs ht c
      refine wp_cond_false hb5 (wp_seq (g17 (j' := j) (by omega) (by omega) (by omega) hc0.1 hc1.1 h5 (fun nq2 a6 h6 hb6 => ?_)))
      have hr6 : RowI ((w2.drewN nq).drewN nq2) gr (il (m + 1) (rowF A B i (j + 1))) := hr
      by_cases c2 : T A B i (j + 1) < T A B (i + 1) j
      · rw [decide_eq_true c2] at hb6
        refine wp_cond_true hb6 (g18 (j' := j) (by omega) (by omega) (by omega) hc0.1 hc1.1 hc1.2 h6 (fun a7 h7 => ?_))
        refine rest _ a7 h7 ?_ (((hO.drewN nq).drewN nq2).setCell _ _ (.inl (by simp)))
        have := hr6.set (j + 1) ((T A B (i + 1) j : Nat) : Int)
        rw [il_set, next _ (by omega)] at this
        exact this
      · rw [decide_eq_false c2] at hb6
        refine wp_cond_false hb6 (wp_skip (rest _ a6 h6 ?_ ((hO.drewN nq).drewN nq2)))
        have e := next (T A B i (j + 1)) (by omega)
        rw [← e]
        have e3 : il (m + 1) (fun x => if x = j + 1 then T A B i (j + 1) else rowF A B i (j + 1) x) = il (m + 1) (rowF A B i (j + 1)) := il_congr (fun x _ => by
          by_cases c3 : x = j + 1
          · subst c3; rw [if_pos rfl, e1]
          · rw [if_neg c3])
        rw [e3]
        exact hr6

end Go.Proofs.Ybulkacye
