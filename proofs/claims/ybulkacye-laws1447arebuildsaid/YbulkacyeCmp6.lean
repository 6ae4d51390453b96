import Derived.Test.YbulkacyeCmp5
namespace Go.Proofs.Ybulkacye
open Go.RowKit Go.Proofs.Ybulkacye.Lcs
set_option linter.unusedVariables false
set_option linter.unusedSectionVars false
variable {S ga gb GF GR o N ca cb base : Nat} {ao bo : Option Addr} {xa xb : List Int} {fs : Value} {f r : Int → Int} {w : World} {v1 v2 v3 v4 v10 v11 v12 v13 v14 v15 : Value} {a : Act} {Q : Exit → Act → World → Prop} {M : List (Nat × Nat)}

/-- What compare leaves. -/
def CmpPost (S ga gb GF GR o N ca cb base : Nat) (ao bo : Option Addr) (xa xb : List Int) (M : List (Nat × Nat)) (w : World) (a0 a1 b0 b1 : Nat) (en : Ending) (w' : World) : Prop :=
  en = .returned (.tuple #[]) ∧ ∃ (fs' : Value) (f' r' : Int → Int) (M' : List (Nat × Nat)), Se S ga gb GF GR o N ca cb base ao bo xa xb fs' f' r' (M ++ M') w' ∧ Kp base [S, GF, GR] w w' ∧ Cmn xa xb a1 b1 a0 b0 M' ∧ M'.length = L (prt xa a0 a1) (prt xb b0 b1)
def CmpHyp (S ga gb GF GR o N ca cb base : Nat) (ao bo : Option Addr) (xa xb : List Int) (sz : Nat) : Prop :=
  ∀ (a0 a1 b0 b1 : Nat) (fs : Value) (f r : Int → Int) (M : List (Nat × Nat)) (w : World), (a1 - a0) + (b1 - b0) ≤ sz → a0 ≤ a1 → b0 ≤ b1 → a1 ≤ xa.length → b1 ≤ xb.length → M.length + L (prt xa a0 a1) (prt xb b0 b1) ≤ 900 → Se S ga gb GF GR o N ca cb base ao bo xa xb fs f r M w →
    Calls Yba.prog 21 #[.pointer (some ⟨S, 0, none⟩), .int .i64 a0, .int .i64 a1, .int .i64 b0, .int .i64 b1] w (CmpPost S ga gb GF GR o N ca cb base ao bo xa xb M w a0 a1 b0 b1)

set_option maxRecDepth 20000 in
theorem cmid {sz i a1 j b1 s : Nat} (la : a1 ≤ xa.length) (lb : b1 ≤ xb.length) (hN : N = 2 * o + 1) (ho : xa.length + xb.length + 1 = o) (ho2 : o ≤ 900) (h1 : i + s ≤ a1) (h2 : j + s ≤ b1) (hsz : (a1 - i) + (b1 - j) ≤ sz)
    (IH : ∀ sz', sz' < sz → CmpHyp S ga gb GF GR o N ca cb base ao bo xa xb sz')
    (n1 : ¬ (i < a1 ∧ j < b1 ∧ xa[i]? = xb[j]?)) (n2 : ¬ (i < a1 - s ∧ j < b1 - s ∧ xa[a1 - s - 1]? = xb[b1 - s - 1]?))
    (h : Fc (.pointer (some ⟨S, 0, none⟩)) (.int .i64 i) (.int .i64 a1) (.int .i64 j) (.int .i64 b1) (.int .i64 s) v11 v12 v13 v14 v15 a) (hS : Se S ga gb GF GR o N ca cb base ao bo xa xb fs f r M w) (hM : M.length + L (prt xa i (a1 - s)) (prt xb j (b1 - s)) ≤ 900)
    (hQ : ∀ fs' f' r' M' v11 v12 v13 v14 w' a', Fc (.pointer (some ⟨S, 0, none⟩)) (.int .i64 i) (.int .i64 a1) (.int .i64 j) (.int .i64 b1) (.int .i64 s) v11 v12 v13 v14 v15 a' → Se S ga gb GF GR o N ca cb base ao bo xa xb fs' f' r' (M ++ M') w' → Kp base [S, GF, GR] w w' → Cmn xa xb (a1 - s) (b1 - s) i j M' → M'.length = L (prt xa i (a1 - s)) (prt xb j (b1 - s)) → Q .normal a' w') : Code.wp Yba.prog (pc21 [1, 1, 1, 0]) Q a w := by
  refine sq (x := pc21 [1, 1, 1, 0, 0]) (y := Code.cond (.tmp 105) (pc21 [1, 1, 1, 0, 1, 0]) .skip) rfl (cr6 (by omega) (by omega) (by omega) (by omega) h (fun a2 h2 hb => ?_))
  by_cases c : i < a1 - s ∧ j < b1 - s
  · rw [decide_eq_true c] at hb
    refine wp_cond_true hb ?_
    obtain ⟨c1, c2⟩ := c
    have l1 := prt_length xa i (a1 - s) (by omega)
    have l2 := prt_length xb j (b1 - s) (by omega)
    have he := e_part_two xa xb i (a1 - s) j (b1 - s) c1 c2 (by omega) (by omega) (fun e => n1 ⟨by omega, by omega, e⟩) (fun e => n2 ⟨c1, c2, e⟩)
    have C : Cx (prt xa i (a1 - s)) (prt xb j (b1 - s)) xa xb i j (a1 - s - i) (b1 - s - j) o N := ⟨l1, l2, fun t ht => (prt_get xa i (a1 - s) t ht).symm, fun t ht => (prt_get xb j (b1 - s) t ht).symm, by omega, by omega, by omega, by omega, hN, by omega, by omega⟩
    refine sq (x := pc21 [1, 1, 1, 0, 1, 0, 0]) (y := pc21 [1, 1, 1, 0, 1, 0, 1]) rfl (cr7 (p := a1 - s) (q := b1 - s) (n := a1 - s - i) (m := b1 - s - j) (by omega) (by omega) (by omega) (by omega) C he (by omega) (by omega) h2 hS (fun x y u v f1 r1 w3 a3 hsn h3 hS3 hK3 => ?_))
    have hsm := hsn.small
    have hlong := hsn.long
    have hxu := hsn.le
    have hu := hsn.hu
    have hv := hsn.hv
    have heq := hsn.eq
    rw [l1] at hu hsm
    rw [l2] at hv hsm
    rw [prt_take _ _ _ _ (by omega), prt_take _ _ _ _ (by omega), prt_drop, prt_drop] at hlong
    refine sq (x := pc21 [1, 1, 1, 0, 1, 0, 1, 0]) (y := pc21 [1, 1, 1, 0, 1, 0, 1, 1]) rfl (cr8 h3 (IH (x + y) (by omega) i (i + x) j (j + y) fs f1 r1 M w3 (by omega) (by omega) (by omega) (by omega) (by omega) (by omega) hS3) (fun en w4 hen => ?_))
    obtain ⟨rfl, fs4, f4, r4, M4, hS4, hK4, hC4, hL4⟩ := hen
    refine ⟨rfl, fun a4 h4 => ?_⟩
    refine sq (x := pc21 [1, 1, 1, 0, 1, 0, 1, 1, 0]) (y := pc21 [1, 1, 1, 0, 1, 0, 1, 1, 1]) rfl (cl3 (by omega) (by omega) (by omega) h4 hS4 (by rw [List.length_append]; omega) (fun fs5 v11 v12 w5 a5 h5 hS5 hK5 => ?_))
    have ez : i + u - (i + x) = u - x := by omega
    rw [ez] at hS5
    refine cr12 (p := a1 - s) (q := b1 - s) (by omega) (by omega) (by omega) (by omega) h5 (IH ((a1 - s - (i + u)) + (b1 - s - (j + v))) (by omega) (i + u) (a1 - s) (j + v) (b1 - s) fs5 f4 r4 _ w5 (Nat.le_refl _) (by omega) (by omega) (by omega) (by omega) (by rw [List.length_append, List.length_append, diag_length]; omega) hS5) (fun en w6 hen => ?_)
    obtain ⟨rfl, fs6, f6, r6, M6, hS6, hK6, hC6, hL6⟩ := hen
    refine ⟨rfl, fun a6 h6 => ?_⟩
    refine hQ fs6 f6 r6 (M4 ++ diag (i + x) (j + y) (u - x) ++ M6) _ _ _ _ w6 a6 h6 (by simpa [List.append_assoc] using hS6) (hK3.trans (hK4.trans (hK5.trans hK6))) ?_ ?_
    · have hd : Cmn xa xb (i + x + (u - x)) (j + y + (u - x)) (i + x) (j + y) (diag (i + x) (j + y) (u - x)) := by
        refine diag_cmn _ _ _ (fun q hq => ?_)
        have := (hsn.run q hq).part (by omega) (by omega)
        rw [← Nat.add_assoc, ← Nat.add_assoc] at this
        exact this
      have z1 : i + x + (u - x) = i + u := by omega
      have z2 : j + y + (u - x) = j + v := by omega
      rw [z1, z2] at hd
      exact (hC4.app hd (by omega) (by omega) (by omega) (by omega)).app hC6 (by omega) (by omega) (by omega) (by omega)
    · rw [List.length_append, List.length_append, diag_length, hL4, hL6, hlong]
  · rw [decide_eq_false c] at hb
    refine wp_cond_false hb (wp_skip ?_)
    have hz : L (prt xa i (a1 - s)) (prt xb j (b1 - s)) = 0 := by
      rcases (by omega : a1 - s ≤ i ∨ b1 - s ≤ j) with g | g
      · rw [prt_nil _ _ _ g, L_nil_left]
      · rw [prt_nil xb _ _ g, L_nil_right]
    exact hQ fs f r [] _ _ _ _ w a2 h2 (by rw [List.append_nil]; exact hS) (Kp.refl _ _ _) trivial (by rw [hz]; rfl)

set_option maxRecDepth 20000 in
theorem cmp_any (hN : N = 2 * o + 1) (ho : xa.length + xb.length + 1 = o) (ho2 : o ≤ 900) (sz : Nat) : CmpHyp S ga gb GF GR o N ca cb base ao bo xa xb sz := by
  induction sz using Nat.strongRecOn with
  | _ sz IH =>
  intro a0 a1 b0 b1 fs f r M w hsz ha hb la lb hM hS
  go_enter Yba.func21, Yba.ntmps21
  show Code.wp Yba.prog (pc21 []) _ _ w
  refine sq (x := pc21 [0]) (y := pc21 [1]) rfl (cl1 (v10 := undef) (v11 := undef) (v12 := undef) (v13 := undef) (v14 := undef) (v15 := undef) la lb (by omega) (by omega) ha hb ⟨rfl, rfl, rfl, rfl, rfl, rfl, rfl, rfl, rfl, rfl, rfl, rfl, rfl⟩ hS hM (fun i j fs1 M1 w1 a2 h2 hS1 hK1 g1 g2 g3 g4 hC1 hL1 n1 => ?_))
  refine sq (x := pc21 [1, 0]) (y := pc21 [1, 1]) rfl (cr3 h2 (fun a3 h3 => ?_))
  refine sq (x := pc21 [1, 1, 0]) (y := pc21 [1, 1, 1]) rfl (cl2 la lb (by omega) (by omega) g2 g4 h3 hS1 (fun s w4 a4 h4 hS4 hK4 g5 g6 hL4 hm4 n2 => ?_))
  have hlen : (M ++ M1).length = M.length + M1.length := List.length_append
  refine sq (x := pc21 [1, 1, 1, 0]) (y := pc21 [1, 1, 1, 1]) rfl (cmid la lb hN ho ho2 g5 g6 (by omega) IH n1 n2 h4 hS4 (by omega) (fun fs5 f5 r5 M5 v11 v12 v13 v14 w5 a5 h5 hS5 hK5 hC5 hL5 => ?_))
  have hlen5 : (M ++ M1 ++ M5).length = M.length + M1.length + M5.length := by rw [List.length_append, List.length_append]
  refine sq (x := pc21 [1, 1, 1, 1, 0]) (y := pc21 [1, 1, 1, 1, 1]) rfl (cr13 h5 (fun a6 h6 => ?_))
  refine cl4 (by omega) (by omega) (by omega) (by omega) h6 hS5 (by omega) (fun fs7 v15 w7 a7 h7 hS7 hK7 => ?_)
  refine ⟨h7.df, .tuple #[], by simp [results, Yba.results21, go_sem], rfl, fs7, f5, r5, M1 ++ M5 ++ diag (a1 - s) (b1 - s) s, by simpa [List.append_assoc] using hS7, hK1.trans (hK4.trans (hK5.trans hK7)), ?_, ?_⟩
  · have hd := diag_cmn (xa := xa) (xb := xb) (a1 - s) (b1 - s) s hm4
    have z1 : a1 - s + s = a1 := by omega
    have z2 : b1 - s + s = b1 := by omega
    rw [z1, z2] at hd
    exact (hC1.app hC5 (by omega) (by omega) (by omega) (by omega)).app hd (by omega) (by omega) (by omega) (by omega)
  · rw [List.length_append, List.length_append, diag_length]
    omega

end Go.Proofs.Ybulkacye
