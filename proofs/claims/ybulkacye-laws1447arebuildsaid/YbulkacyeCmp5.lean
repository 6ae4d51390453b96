import Derived.Test.YbulkacyeCmp2
import Derived.Test.YbulkacyeCmp3
import Derived.Test.YbulkacyeCmp4
namespace Go.Proofs.Ybulkacye
open Go.RowKit Go.Proofs.Ybulkacye.Lcs
set_option linter.unusedVariables false
set_option linter.unusedSectionVars false
variable {S ga gb GF GR o N ca cb base : Nat} {ao bo : Option Addr} {xa xb : List Int} {fs : Value} {f r : Int → Int} {w : World} {v1 v2 v3 v4 v10 v11 v12 v13 v14 v15 : Value} {a : Act} {Q : Exit → Act → World → Prop} {M : List (Nat × Nat)}

set_option maxRecDepth 20000 in
theorem cl1 {i0 i1 j0 j1 : Nat} (la : i1 ≤ xa.length) (lb : j1 ≤ xb.length) (la2 : xa.length ≤ 900) (lb2 : xb.length ≤ 900) (h1 : i0 ≤ i1) (h2 : j0 ≤ j1) (h : Fc (.pointer (some ⟨S, 0, none⟩)) (.int .i64 i0) (.int .i64 i1) (.int .i64 j0) (.int .i64 j1) v10 v11 v12 v13 v14 v15 a) (hS : Se S ga gb GF GR o N ca cb base ao bo xa xb fs f r M w) (hM : M.length + L (prt xa i0 i1) (prt xb j0 j1) ≤ 900)
    (hQ : ∀ (i j : Nat) fs' M1 w' a', Fc (.pointer (some ⟨S, 0, none⟩)) (.int .i64 i) (.int .i64 i1) (.int .i64 j) (.int .i64 j1) v10 v11 v12 v13 v14 v15 a' → Se S ga gb GF GR o N ca cb base ao bo xa xb fs' f r (M ++ M1) w' → Kp base [S, GF, GR] w w' → i0 ≤ i → i ≤ i1 → j0 ≤ j → j ≤ j1 → Cmn xa xb i j i0 j0 M1 → M1.length + L (prt xa i i1) (prt xb j j1) = L (prt xa i0 i1) (prt xb j0 j1) → ¬ (i < i1 ∧ j < j1 ∧ xa[i]? = xb[j]?) → Q .normal a' w') : Code.wp Yba.prog (pc21 [0]) Q a w := by
  show Code.wp Yba.prog (Code.block 0 (Code.loop (pc21 [0, 0, 0]))) Q a w
  refine wp_block (wp_loop (fun a' w' => ∃ (i j : Nat) (fs' : Value) (M1 : List (Nat × Nat)), Fc (.pointer (some ⟨S, 0, none⟩)) (.int .i64 i) (.int .i64 i1) (.int .i64 j) (.int .i64 j1) v10 v11 v12 v13 v14 v15 a' ∧ Se S ga gb GF GR o N ca cb base ao bo xa xb fs' f r (M ++ M1) w' ∧ Kp base [S, GF, GR] w w' ∧ i0 ≤ i ∧ i ≤ i1 ∧ j0 ≤ j ∧ j ≤ j1 ∧ Cmn xa xb i j i0 j0 M1 ∧ M1.length + L (prt xa i i1) (prt xb j j1) = L (prt xa i0 i1) (prt xb j0 j1)) (fun a' _ => (1000 - intOf (a'.tmps.getD 1 undef)).toNat) ⟨i0, j0, fs, [], h, by simpa using hS, Kp.refl _ _ _, by omega, h1, by omega, h2, trivial, by simp⟩ ?_)
  clear h hS
  rintro a2 w2 ⟨i, j, fs', M1, h, hS, hK, g1, g2, g3, g4, hC, hL⟩
  have hμ : (1000 - intOf (a2.tmps.getD 1 undef)).toNat = (1000 - (i : Int)).toNat := by rw [h.e1]; rfl
  rw [hμ]
  refine sq (x := pc21 [0, 0, 0, 0]) (y := Code.block 1 (Code.seq (pc21 [0, 0, 0, 1, 0, 0]) (pc21 [0, 0, 0, 1, 0, 1]))) rfl (ch0 h hS la lb (by omega) (by omega) (fun hne k a3 h3 => ?_) (fun c1 c2 hv k a3 h3 => ?_))
  · show Exit.inBlock 0 Q (.exit 0) a3 _
    refine inB ?_
    exact hQ i j fs' M1 _ a3 h3 (hS.drewN k) (hK.drewN k) g1 g2 g3 g4 hC hL hne
  · obtain ⟨v, hv1, hv2⟩ := hv
    have hf := L_first xa xb i i1 j j1 v c1 c2 hv1 hv2
    refine wp_block (wp_seq (ca1 h3 (hS.drewN k) (by rw [List.length_append]; omega) (by omega) (by omega) (fun fs2 w4 a4 h4 hS4 hK4 => ?_)))
    refine cr2 h4 (by omega) (by omega) (fun a5 h5 => ?_)
    refine ⟨⟨i + 1, j + 1, fs2, M1 ++ [(i, j)], h5, by rw [← List.append_assoc]; exact hS4, (hK.drewN k).trans hK4, by omega, by omega, by omega, by omega, ?_, ?_⟩, ?_⟩
    · exact hC.app (x := i) (y := j) ⟨by omega, by omega, by show i < i + 1; omega, by show j < j + 1; omega, ⟨v, hv1, hv2⟩, trivial⟩ (by omega) (by omega) (by omega) (by omega)
    · rw [List.length_append, List.length_singleton]; omega
    · rw [h5.e1]
      show (1000 - ((i + 1 : Nat) : Int)).toNat < _
      omega

set_option maxRecDepth 20000 in
theorem cl2 {i i1 j j1 : Nat} (la : i1 ≤ xa.length) (lb : j1 ≤ xb.length) (la2 : xa.length ≤ 900) (lb2 : xb.length ≤ 900) (h1 : i ≤ i1) (h2 : j ≤ j1) (h : Fc (.pointer (some ⟨S, 0, none⟩)) (.int .i64 i) (.int .i64 i1) (.int .i64 j) (.int .i64 j1) (.int .i64 ((0 : Nat) : Int)) v11 v12 v13 v14 v15 a) (hS : Se S ga gb GF GR o N ca cb base ao bo xa xb fs f r M w)
    (hQ : ∀ (s : Nat) w' a', Fc (.pointer (some ⟨S, 0, none⟩)) (.int .i64 i) (.int .i64 i1) (.int .i64 j) (.int .i64 j1) (.int .i64 s) v11 v12 v13 v14 v15 a' → Se S ga gb GF GR o N ca cb base ao bo xa xb fs f r M w' → Kp base [S, GF, GR] w w' → i + s ≤ i1 → j + s ≤ j1 → L (prt xa i i1) (prt xb j j1) = s + L (prt xa i (i1 - s)) (prt xb j (j1 - s)) → (∀ t, t < s → ∃ v, xa[i1 - s + t]? = some v ∧ xb[j1 - s + t]? = some v) → ¬ (i < i1 - s ∧ j < j1 - s ∧ xa[i1 - s - 1]? = xb[j1 - s - 1]?) → Q .normal a' w') : Code.wp Yba.prog (pc21 [1, 1, 0]) Q a w := by
  show Code.wp Yba.prog (Code.block 2 (Code.loop (pc21 [1, 1, 0, 0, 0]))) Q a w
  refine wp_block (wp_loop (fun a' w' => ∃ (s : Nat), Fc (.pointer (some ⟨S, 0, none⟩)) (.int .i64 i) (.int .i64 i1) (.int .i64 j) (.int .i64 j1) (.int .i64 s) v11 v12 v13 v14 v15 a' ∧ Se S ga gb GF GR o N ca cb base ao bo xa xb fs f r M w' ∧ Kp base [S, GF, GR] w w' ∧ i + s ≤ i1 ∧ j + s ≤ j1 ∧ L (prt xa i i1) (prt xb j j1) = s + L (prt xa i (i1 - s)) (prt xb j (j1 - s)) ∧ (∀ t, t < s → ∃ v, xa[i1 - s + t]? = some v ∧ xb[j1 - s + t]? = some v)) (fun a' _ => (1000 - intOf (a'.tmps.getD 10 undef)).toNat) ⟨0, h, hS, Kp.refl _ _ _, by omega, by omega, by simp, fun t ht => by omega⟩ ?_)
  clear h hS
  rintro a2 w2 ⟨s, h, hS, hK, g1, g2, hL, hm⟩
  have hμ : (1000 - intOf (a2.tmps.getD 10 undef)).toNat = (1000 - (s : Int)).toNat := by rw [h.e10]; rfl
  rw [hμ]
  refine sq (x := pc21 [1, 1, 0, 0, 0, 0]) (y := Code.block 3 (pc21 [1, 1, 0, 0, 0, 1, 0])) rfl (ch4 (p := i1 - s) (q := j1 - s) (by omega) (by omega) h hS la lb (by omega) (by omega) (fun hne k a3 h3 => ?_) (fun c1 c2 hv k a3 h3 => ?_))
  · show Exit.inBlock 2 Q (.exit 2) a3 _
    refine inB ?_
    exact hQ s _ a3 h3 (hS.drewN k) (hK.drewN k) g1 g2 hL hm hne
  · obtain ⟨v, hv1, hv2⟩ := hv
    have hf := L_last xa xb i (i1 - s - 1) j (j1 - s - 1) v (by omega) (by omega) hv1 hv2
    have e1 : i1 - s - 1 + 1 = i1 - s := by omega
    have e2 : j1 - s - 1 + 1 = j1 - s := by omega
    rw [e1, e2] at hf
    refine wp_block (cr5 h3 (by omega) (fun a5 h5 => ?_))
    refine ⟨⟨s + 1, h5, hS.drewN k, hK.drewN k, by omega, by omega, ?_, fun t ht => ?_⟩, ?_⟩
    · rw [hL, hf, Nat.sub_sub, Nat.sub_sub]; omega
    · rcases t with _ | t
      · have z1 : i1 - (s + 1) + 0 = i1 - s - 1 := by omega
        have z2 : j1 - (s + 1) + 0 = j1 - s - 1 := by omega
        rw [z1, z2]
        exact ⟨v, hv1, hv2⟩
      · have z1 : i1 - (s + 1) + (t + 1) = i1 - s + t := by omega
        have z2 : j1 - (s + 1) + (t + 1) = j1 - s + t := by omega
        rw [z1, z2]
        exact hm t (by omega)
    · rw [h5.e10]
      show (1000 - ((s + 1 : Nat) : Int)).toNat < _
      omega

set_option maxRecDepth 20000 in
theorem cl3 {x y z : Nat} (h1 : x ≤ z) (h2 : z ≤ 900) (h3 : y + (z - x) ≤ 900) (h : Fc (.pointer (some ⟨S, 0, none⟩)) v1 v2 v3 v4 v10 (.int .i64 x) (.int .i64 y) (.int .i64 z) v14 v15 a) (hS : Se S ga gb GF GR o N ca cb base ao bo xa xb fs f r M w) (hM : M.length + (z - x) ≤ 900)
    (hQ : ∀ fs' v11 v12 w' a', Fc (.pointer (some ⟨S, 0, none⟩)) v1 v2 v3 v4 v10 v11 v12 (.int .i64 z) v14 v15 a' → Se S ga gb GF GR o N ca cb base ao bo xa xb fs' f r (M ++ diag x y (z - x)) w' → Kp base [S, GF, GR] w w' → Q .normal a' w') : Code.wp Yba.prog (pc21 [1, 1, 1, 0, 1, 0, 1, 1, 0]) Q a w := by
  show Code.wp Yba.prog (Code.block 4 (Code.loop (pc21 [1, 1, 1, 0, 1, 0, 1, 1, 0, 0, 0]))) Q a w
  refine wp_block (wp_loop (fun a' w' => ∃ (t : Nat) (fs' : Value), Fc (.pointer (some ⟨S, 0, none⟩)) v1 v2 v3 v4 v10 (.int .i64 ((x + t : Nat) : Int)) (.int .i64 ((y + t : Nat) : Int)) (.int .i64 z) v14 v15 a' ∧ Se S ga gb GF GR o N ca cb base ao bo xa xb fs' f r (M ++ diag x y t) w' ∧ Kp base [S, GF, GR] w w' ∧ x + t ≤ z) (fun a' _ => (1000 - intOf (a'.tmps.getD 11 undef)).toNat) ⟨0, fs, h, by rw [diag_zero, List.append_nil]; exact hS, Kp.refl _ _ _, by omega⟩ ?_)
  clear h hS
  rintro a2 w2 ⟨t, fs', h, hS, hK, g1⟩
  have hμ : (1000 - intOf (a2.tmps.getD 11 undef)).toNat = (1000 - ((x + t : Nat) : Int)).toNat := by rw [h.e11]; rfl
  rw [hμ]
  refine sq (x := pc21 [1, 1, 1, 0, 1, 0, 1, 1, 0, 0, 0, 0]) (y := Code.seq (Code.block 5 (pc21 [1, 1, 1, 0, 1, 0, 1, 1, 0, 0, 0, 1, 0, 0])) (pc21 [1, 1, 1, 0, 1, 0, 1, 1, 0, 0, 0, 1, 1])) rfl (ch9 h (fun hne a3 h3 => ?_) (fun c1 a3 h3 => ?_))
  · show Exit.inBlock 4 Q (.exit 4) a3 _
    refine inB ?_
    have e : t = z - x := by omega
    subst e
    exact hQ fs' _ _ _ a3 h3 hS hK
  · refine wp_seq (wp_block (ca11 h3 hS (by rw [List.length_append, diag_length]; omega) (by omega) (by omega) (fun fs2 w4 a4 h4 hS4 hK4 => ?_)))
    refine cr10 h4 (by omega) (by omega) (fun a5 h5 => ?_)
    refine ⟨⟨t + 1, fs2, h5, by rw [diag_succ, ← List.append_assoc]; exact hS4, hK.trans hK4, by omega⟩, ?_⟩
    rw [h5.e11]
    show (1000 - ((x + t + 1 : Nat) : Int)).toNat < _
    omega

set_option maxRecDepth 20000 in
theorem cl4 {i1 j1 s : Nat} (h1 : s ≤ i1) (h2 : s ≤ j1) (b1 : i1 ≤ 900) (b2 : j1 ≤ 900) (h : Fc (.pointer (some ⟨S, 0, none⟩)) v1 (.int .i64 i1) v3 (.int .i64 j1) v10 v11 v12 v13 v14 (.int .i64 s) a) (hS : Se S ga gb GF GR o N ca cb base ao bo xa xb fs f r M w) (hM : M.length + s ≤ 900)
    (hQ : ∀ fs' v15 w' a', Fc (.pointer (some ⟨S, 0, none⟩)) v1 (.int .i64 i1) v3 (.int .i64 j1) v10 v11 v12 v13 v14 v15 a' → Se S ga gb GF GR o N ca cb base ao bo xa xb fs' f r (M ++ diag (i1 - s) (j1 - s) s) w' → Kp base [S, GF, GR] w w' → Q .normal a' w') : Code.wp Yba.prog (pc21 [1, 1, 1, 1, 1]) Q a w := by
  show Code.wp Yba.prog (Code.block 6 (Code.loop (pc21 [1, 1, 1, 1, 1, 0, 0]))) Q a w
  refine wp_block (wp_loop (fun a' w' => ∃ (t k : Nat) (fs' : Value), Fc (.pointer (some ⟨S, 0, none⟩)) v1 (.int .i64 i1) v3 (.int .i64 j1) v10 v11 v12 v13 v14 (.int .i64 k) a' ∧ Se S ga gb GF GR o N ca cb base ao bo xa xb fs' f r (M ++ diag (i1 - s) (j1 - s) t) w' ∧ Kp base [S, GF, GR] w w' ∧ t + k = s) (fun a' _ => (intOf (a'.tmps.getD 15 undef)).toNat) ⟨0, s, fs, h, by rw [diag_zero, List.append_nil]; exact hS, Kp.refl _ _ _, by omega⟩ ?_)
  clear h hS
  rintro a2 w2 ⟨t, k, fs', h, hS, hK, g1⟩
  have hμ : (intOf (a2.tmps.getD 15 undef)).toNat = k := by rw [h.e15]; rfl
  rw [hμ]
  refine sq (x := pc21 [1, 1, 1, 1, 1, 0, 0, 0]) (y := Code.seq (Code.block 7 (pc21 [1, 1, 1, 1, 1, 0, 0, 1, 0, 0])) (pc21 [1, 1, 1, 1, 1, 0, 0, 1, 1])) rfl (ch14 h (fun hne a3 h3 => ?_) (fun c1 a3 h3 => ?_))
  · show Exit.inBlock 6 Q (.exit 6) a3 _
    refine inB ?_
    have e : t = s := by omega
    subst e
    exact hQ fs' _ _ a3 h3 hS hK
  · refine wp_seq (wp_block (ca16 (i := i1 - s + t) (j := j1 - s + t) h3 hS (by rw [List.length_append, diag_length]; omega) (by omega) (by omega) (by omega) (by omega) (fun fs2 w4 a4 h4 hS4 hK4 => ?_)))
    obtain ⟨k', rfl⟩ : ∃ k', k = k' + 1 := ⟨k - 1, by omega⟩
    refine cr15 h4 (by omega) (fun a5 h5 => ?_)
    refine ⟨⟨t + 1, k', fs2, h5, by rw [diag_succ, ← List.append_assoc]; exact hS4, hK.trans hK4, by omega⟩, ?_⟩
    rw [h5.e15]
    show ((k' : Int)).toNat < _
    omega

end Go.Proofs.Ybulkacye
