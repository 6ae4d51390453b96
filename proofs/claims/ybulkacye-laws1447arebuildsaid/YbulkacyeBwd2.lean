import Derived.Test.YbulkacyeFr
import Derived.BigQuiet
namespace Go.Proofs.Ybulkacye
open Go.RowKit Go.Proofs.Ybulkacye.Lcs
set_option linter.unusedVariables false
set_option linter.unusedSectionVars false
variable {S ga gb GF GR o N ca cb : Nat} {ao bo : Option Addr} {xa xb : List Int} {fs : Value} {f r : Int → Int} {w : World} {a0 a1 b0 b1 n m : Nat} {dl : Int} {od : Bool} {v21 v22 v23 v24 v25 v26 v27 v28 v29 v30 v31 v32 v33 : Value} {a : Act} {Q : Exit → Act → World → Prop}

def RSlI (S ga gb GF GR o N ca cb : Nat) (ao bo : Option Addr) (xa xb : List Int) (fs : Value) (f r : Int → Int) (w : World) (a0 a1 b0 b1 n m : Nat) (dl : Int) (od : Bool) (v21 v22 v23 v24 v25 v26 v27 v28 v29 v30 : Value) (k px : Int) (A B : List Int) (a' : Act) (w' : World) : Prop :=
  ∃ sx : Int, Fr (.pointer (some ⟨S, 0, none⟩)) (.int .i64 a0) (.int .i64 a1) (.int .i64 b0) (.int .i64 b1) (.int .i64 n) (.int .i64 m) (.int .i64 dl) (.bool od) (.slice (some ⟨GF, 0, none⟩) N N) (.slice (some ⟨GR, 0, none⟩) N N) (.int .i64 o) v21 v22 v23 v24 v25 v26 v27 v28 v29 v30 (.int .i64 k) (.int .i64 px) (.int .i64 sx) a' ∧ Sea S ga gb GF GR o N ca cb ao bo xa xb fs f r w' ∧ Only w w' [GF, GR] ∧ sx ≤ px ∧ 0 ≤ sx ∧ 0 ≤ sx - k ∧ (∀ i : Int, sx ≤ i → i < px → Mt A B i (i - k))
def Mu33 (a' : Act) (_ : World) : Nat := (intOf (a'.tmps.getD 33 undef)).toNat
set_option maxRecDepth 20000 in
set_option maxHeartbeats 4000000 in
theorem rslide {k px : Int} {A B : List Int} (hA : A.length = n) (hB : B.length = m) (hxa : ∀ i, i < n → xa[a0 + i]? = A[i]?) (hxb : ∀ i, i < m → xb[b0 + i]? = B[i]?) (h : Fr (.pointer (some ⟨S, 0, none⟩)) (.int .i64 a0) (.int .i64 a1) (.int .i64 b0) (.int .i64 b1) (.int .i64 n) (.int .i64 m) (.int .i64 dl) (.bool od) (.slice (some ⟨GF, 0, none⟩) N N) (.slice (some ⟨GR, 0, none⟩) N N) (.int .i64 o) v21 v22 v23 v24 v25 v26 v27 v28 v29 v30 (.int .i64 k) (.int .i64 px) (.int .i64 px) a) (hS : Sea S ga gb GF GR o N ca cb ao bo xa xb fs f r w) (la : a0 + n ≤ xa.length) (lb : b0 + m ≤ xb.length) (la2 : xa.length ≤ 1000) (lb2 : xb.length ≤ 1000) (x1 : 0 ≤ px) (x2 : px ≤ n) (y1 : 0 ≤ px - k) (y2 : px - k ≤ m)
    (hQ : ∀ (sx : Int) w' a', Fr (.pointer (some ⟨S, 0, none⟩)) (.int .i64 a0) (.int .i64 a1) (.int .i64 b0) (.int .i64 b1) (.int .i64 n) (.int .i64 m) (.int .i64 dl) (.bool od) (.slice (some ⟨GF, 0, none⟩) N N) (.slice (some ⟨GR, 0, none⟩) N N) (.int .i64 o) v21 v22 v23 v24 v25 v26 v27 v28 v29 v30 (.int .i64 k) (.int .i64 px) (.int .i64 sx) a' → Sea S ga gb GF GR o N ca cb ao bo xa xb fs f r w' → Only w w' [GF, GR] → sx ≤ px → 0 ≤ sx → 0 ≤ sx - k → (∀ i : Int, sx ≤ i → i < px → Mt A B i (i - k)) → ¬ Mt A B (sx - 1) (sx - k - 1) → Q .normal a' w') : Code.wp Yba.prog (pc [1, 1, 1, 1, 1, 1, 1, 0, 1, 0, 0, 1, 0, 0, 1, 1, 1, 1, 0, 1, 0, 0, 1, 0, 0, 1, 1, 1, 1, 1, 1, 0]) Q a w := by
  show Code.wp Yba.prog (Code.block 8 (Code.loop (pc [1, 1, 1, 1, 1, 1, 1, 0, 1, 0, 0, 1, 0, 0, 1, 1, 1, 1, 0, 1, 0, 0, 1, 0, 0, 1, 1, 1, 1, 1, 1, 0, 0, 0]))) Q a w
  refine wp_block (wp_loop (RSlI S ga gb GF GR o N ca cb ao bo xa xb fs f r w a0 a1 b0 b1 n m dl od v21 v22 v23 v24 v25 v26 v27 v28 v29 v30 k px A B) Mu33 ⟨px, h, hS, Only.refl _ _, by omega, x1, y1, fun i h1 h2 => by omega⟩ ?_)
  clear h hS
  rintro a2 w1 ⟨sx, hF, hS, hO, e1, e2, e3, hM⟩
  have hμ : Mu33 a2 w1 = sx.toNat := by simp only [Mu33, hF.e33, intOf]
  rw [hμ]
  obtain ⟨q0, qb, _⟩ := hS.boxes
  by_cases c1 : 0 < sx
  · by_cases c2 : k < sx
    · obtain ⟨x, hx1⟩ : ∃ x : Nat, sx = (x : Int) + 1 := ⟨(sx - 1).toNat, by omega⟩
      obtain ⟨y, hy⟩ : ∃ y : Nat, sx - k - 1 = y := ⟨(sx - k - 1).toNat, by omega⟩
      have hx : x < A.length := by omega
      have hy2 : y < B.length := by omega
      obtain ⟨ha1, ha2⟩ := hS.ra (a0 + x) A[x] (by rw [hxa x (by omega)]; simp [hx])
      obtain ⟨hb1, hb2⟩ := hS.rb (b0 + y) B[y] (by rw [hxb y (by omega)]; simp [hy2])
      obtain ⟨i, hi⟩ : ∃ i : Nat, (a0 : Int) + sx - 1 = i := ⟨a0 + x, by omega⟩
      obtain ⟨j, hj⟩ : ∃ j : Nat, (b0 : Int) + sx - k - 1 = j := ⟨b0 + y, by omega⟩
      have hi' : a0 + x = i := by omega
      have hj' : b0 + y = j := by omega
      have ila : i < xa.length := by omega
      have jlb : j < xb.length := by omega
      rw [hi'] at ha2
      rw [hj'] at hb2
      obtain ⟨va, hva⟩ : ∃ va, A[x] = va := ⟨_, rfl⟩
      obtain ⟨vb, hvb⟩ : ∃ vb, B[y] = vb := ⟨_, rfl⟩
      rw [hva] at ha2
      rw [hvb] at hb2
      rw [ha1] at q0
      rw [hb1] at qb
      have d2 : decide (k < sx) = true := decide_eq_true c2
      have d1 : decide (0 < sx) = true := decide_eq_true c1
      by_cases c3 : va = vb
      · have hmt : Mt A B (sx - 1) (sx - k - 1) := ⟨x, y, hx, hy2, by omega, hy.symm, by rw [hva, hvb, c3]⟩
        have hbb : (va == vb) = true := by simp [c3]
        have hF2 := hF
        obtain ⟨u, rfl⟩ := hF2.lay
        clear hQ hva hvb hy hi' hj' hxa hxb hA hB hF hμ hx1
        conv => arg 2; whnf
        go_wp2
        go_quiet (fail)
        go_wp2
        refine ⟨⟨sx - 1, ⟨rfl, rfl, rfl, rfl, rfl, rfl, rfl, rfl, rfl, rfl, rfl, rfl, rfl, rfl, rfl, rfl, rfl, rfl, rfl, rfl, rfl, rfl, rfl, rfl, rfl, rfl, rfl⟩, hS.drewN _, hO.drewN _, by omega, by omega, by omega, fun t h1 h2 => ?_⟩, ?_⟩
        · rcases (by omega : sx ≤ t ∨ t = sx - 1) with g | g
          · exact hM t g h2
          · subst g; have e : sx - 1 - k = sx - k - 1 := by omega
            rw [e]; exact hmt
        · simp only [Mu33]
          show (sx - 1).toNat < _
          omega
      · have hmt : ¬ Mt A B (sx - 1) (sx - k - 1) := by
          rw [hy, show sx - 1 = (x : Int) from by omega]
          intro hm
          obtain ⟨_, _, h3⟩ := hm.to
          exact c3 (by rw [← hva, ← hvb]; exact h3)
        have hbb : (va == vb) = false := by simp [c3]
        have hQ1 := fun w' a' h1 h2 h3 => hQ sx w' a' h1 h2 h3 e1 e2 e3 hM hmt
        obtain ⟨u, rfl⟩ := hF.lay
        clear hQ hva hvb hy hi' hj' hxa hxb hA hB hF hμ hx1
        conv => arg 2; whnf
        go_wp2
        go_quiet (fail)
        go_wp2
        exact hQ1 _ _ ⟨rfl, rfl, rfl, rfl, rfl, rfl, rfl, rfl, rfl, rfl, rfl, rfl, rfl, rfl, rfl, rfl, rfl, rfl, rfl, rfl, rfl, rfl, rfl, rfl, rfl, rfl, rfl⟩ (hS.drewN _) (hO.drewN _)
    · have hmt : ¬ Mt A B (sx - 1) (sx - k - 1) := by
        rintro ⟨i, j, h1, h2, h3, h4, _⟩
        omega
      have hQ1 := fun w' a' h1 h2 h3 => hQ sx w' a' h1 h2 h3 e1 e2 e3 hM hmt
      obtain ⟨u, rfl⟩ := hF.lay
      clear hQ hxa hxb hA hB hF hμ
      have d2 : decide (k < sx) = false := decide_eq_false c2
      have d1 : decide (0 < sx) = true := decide_eq_true c1
      conv => arg 2; whnf
      go_wp2
      go_quiet (fail)
      go_wp2
      exact hQ1 _ _ ⟨rfl, rfl, rfl, rfl, rfl, rfl, rfl, rfl, rfl, rfl, rfl, rfl, rfl, rfl, rfl, rfl, rfl, rfl, rfl, rfl, rfl, rfl, rfl, rfl, rfl, rfl, rfl⟩ (hS.drewN _) (hO.drewN _)
  · have hmt : ¬ Mt A B (sx - 1) (sx - k - 1) := by
      rintro ⟨i, j, h1, h2, h3, h4, _⟩
      omega
    have hQ1 := fun w' a' h1 h2 h3 => hQ sx w' a' h1 h2 h3 e1 e2 e3 hM hmt
    obtain ⟨u, rfl⟩ := hF.lay
    clear hQ hxa hxb hA hB hF hμ
    have d1 : decide (0 < sx) = false := decide_eq_false c1
    conv => arg 2; whnf
    go_wp2
    go_quiet (fail)
    go_wp2
    exact hQ1 _ _ ⟨rfl, rfl, rfl, rfl, rfl, rfl, rfl, rfl, rfl, rfl, rfl, rfl, rfl, rfl, rfl, rfl, rfl, rfl, rfl, rfl, rfl, rfl, rfl, rfl, rfl, rfl, rfl⟩ (hS.drewN _) (hO.drewN _)

end Go.Proofs.Ybulkacye
