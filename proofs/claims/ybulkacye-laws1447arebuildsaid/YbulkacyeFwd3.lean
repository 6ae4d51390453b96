import Derived.Test.YbulkacyeFr
import Derived.BigQuiet
namespace Go.Proofs.Ybulkacye
open Go.RowKit Go.Proofs.Ybulkacye.Lcs
set_option linter.unusedVariables false
set_option linter.unusedSectionVars false
variable {S ga gb GF GR o N ca cb : Nat} {ao bo : Option Addr} {xa xb : List Int} {fs : Value} {f r : Int → Int} {w : World} {a0 a1 b0 b1 n m : Nat} {dl : Int} {od : Bool} {v21 v22 v23 v24 v25 v26 v27 v28 v29 v30 v31 v32 v33 : Value} {a : Act} {Q : Exit → Act → World → Prop}

/-- The frame at a return: the four results. -/
structure Ret (x y u v : Int) (a : Act) : Prop where
  sz : a.tmps.size = 465
  df : a.defers = []
  e10 : a.tmps.getD 10 undef = .int .i64 x
  e11 : a.tmps.getD 11 undef = .int .i64 y
  e12 : a.tmps.getD 12 undef = .int .i64 u
  e13 : a.tmps.getD 13 undef = .int .i64 v
def FHit (r : Int → Int) (od : Bool) (rlo rhi k ex : Int) : Prop := od = true ∧ rlo ≤ k ∧ k ≤ rhi ∧ r k ≠ U ∧ r k ≤ ex

set_option maxRecDepth 20000 in
set_option maxHeartbeats 4000000 in
theorem tailF {k px ex rlo rhi : Int} (h : Fr (.pointer (some ⟨S, 0, none⟩)) (.int .i64 a0) (.int .i64 a1) (.int .i64 b0) (.int .i64 b1) (.int .i64 n) (.int .i64 m) (.int .i64 dl) (.bool od) (.slice (some ⟨GF, 0, none⟩) N N) (.slice (some ⟨GR, 0, none⟩) N N) (.int .i64 o) v21 v22 (.int .i64 rlo) (.int .i64 rhi) v25 v26 v27 (.int .i64 k) (.int .i64 px) (.int .i64 ex) v31 v32 v33 a) (hS : Sea S ga gb GF GR o N ca cb ao bo xa xb fs f r w) (hN : N = 2 * o + 1) (ho : n + m + 1 ≤ o) (ho2 : o ≤ 1000) (k1 : -(m : Int) ≤ k) (k2 : k ≤ n) (la : a0 + n ≤ 1000) (lb : b0 + m ≤ 1000) (x1 : 0 ≤ px) (x2 : px ≤ n) (y1 : 0 ≤ px - k) (y2 : px - k ≤ m) (x3 : px ≤ ex) (x4 : ex ≤ n) (x5 : ex - k ≤ m) (hb : od = true → rlo ≤ k → k ≤ rhi → r k = U ∨ (0 ≤ r k ∧ r k ≤ n))
    (hR : FHit r od rlo rhi k ex → ∀ w' a', Ret (a0 + px) (b0 + px - k) (a0 + ex) (b0 + ex - k) a' → Sea S ga gb GF GR o N ca cb ao bo xa xb fs (upd f k ex) r w' → Only w w' [GF, GR] → Q .ret a' w')
    (hQ : ¬ FHit r od rlo rhi k ex → ∀ w' a', Fr (.pointer (some ⟨S, 0, none⟩)) (.int .i64 a0) (.int .i64 a1) (.int .i64 b0) (.int .i64 b1) (.int .i64 n) (.int .i64 m) (.int .i64 dl) (.bool od) (.slice (some ⟨GF, 0, none⟩) N N) (.slice (some ⟨GR, 0, none⟩) N N) (.int .i64 o) v21 v22 (.int .i64 rlo) (.int .i64 rhi) v25 v26 v27 (.int .i64 k) (.int .i64 px) (.int .i64 ex) v31 v32 v33 a' → Sea S ga gb GF GR o N ca cb ao bo xa xb fs (upd f k ex) r w' → Only w w' [GF, GR] → Q .normal a' w') : Code.wp Yba.prog (pc [1, 1, 1, 1, 1, 1, 1, 0, 1, 0, 0, 1, 0, 0, 1, 0, 1, 0, 0, 1, 0, 0, 1, 1, 1, 1, 1, 1, 1]) Q a w := by
  obtain ⟨u, rfl⟩ := h.lay
  obtain ⟨i, hi⟩ : ∃ i : Nat, (o : Int) + k = i := ⟨((o : Int) + k).toNat, by omega⟩
  have hiN : i < N := by omega
  have hi2 : (i : Int) - o = k := by omega
  obtain ⟨q1, q2⟩ := hS.cellF (k := k) hiN hi2
  have hS' := hS.setF hiN hi2 ex
  obtain ⟨q3, q4⟩ := hS'.cellR (k := k) hiN hi2
  have hO : Only w (w.setCell ⟨GF, i, none⟩ (.int .i64 ex)) [GF, GR] := (Only.refl w _).setCell _ _ (.inl (by simp))
  have hR := fun hh a' h1 => hR hh _ a' h1 hS' hO
  have hQ := fun hh a' h1 => hQ hh _ a' h1 hS' hO
  clear hS' hO hS hN hi2 h
  unfold FHit U at hR hQ
  unfold U at hb
  obtain ⟨g, hg⟩ : ∃ g, r k = g := ⟨_, rfl⟩
  rw [hg] at q3 hb hR hQ
  clear hg
  cases od with
  | false =>
    have hQ := hQ (by simp)
    clear hR
    conv => arg 2; whnf
    go_wp2
    exact ⟨rfl, rfl, rfl, rfl, rfl, rfl, rfl, rfl, rfl, rfl, rfl, rfl, rfl, rfl, rfl, rfl, rfl, rfl, rfl, rfl, rfl, rfl, rfl, rfl, rfl, rfl, rfl⟩
  | true =>
    by_cases c1 : rlo ≤ k
    · by_cases c2 : k ≤ rhi
      · have hb := hb rfl c1 c2
        by_cases c3 : g = 4611686018427387904
        · subst c3
          have hQ := hQ (by simp)
          clear hR
          conv => arg 2; whnf
          go_wp2
          exact ⟨rfl, rfl, rfl, rfl, rfl, rfl, rfl, rfl, rfl, rfl, rfl, rfl, rfl, rfl, rfl, rfl, rfl, rfl, rfl, rfl, rfl, rfl, rfl, rfl, rfl, rfl, rfl⟩
        · have hb : 0 ≤ g ∧ g ≤ n := by omega
          have c3b : (g != 4611686018427387904) = true := by simp [c3]
          by_cases c4 : g ≤ ex
          · have hR := hR ⟨rfl, c1, c2, c3, c4⟩
            clear hQ
            conv => arg 2; whnf
            go_wp2
            exact ⟨rfl, rfl, rfl, rfl, rfl, rfl⟩
          · have c4b : decide (g ≤ ex) = false := decide_eq_false c4
            have hQ := hQ (by simp [c4])
            clear hR
            conv => arg 2; whnf
            go_wp2
            exact ⟨rfl, rfl, rfl, rfl, rfl, rfl, rfl, rfl, rfl, rfl, rfl, rfl, rfl, rfl, rfl, rfl, rfl, rfl, rfl, rfl, rfl, rfl, rfl, rfl, rfl, rfl, rfl⟩
      · have c2b : decide (k ≤ rhi) = false := decide_eq_false c2
        have hQ := hQ (by simp [c2])
        clear hR
        conv => arg 2; whnf
        go_wp2
        exact ⟨rfl, rfl, rfl, rfl, rfl, rfl, rfl, rfl, rfl, rfl, rfl, rfl, rfl, rfl, rfl, rfl, rfl, rfl, rfl, rfl, rfl, rfl, rfl, rfl, rfl, rfl, rfl⟩
    · have c1b : decide (rlo ≤ k) = false := decide_eq_false c1
      have hQ := hQ (by simp [c1])
      clear hR
      conv => arg 2; whnf
      go_wp2
      exact ⟨rfl, rfl, rfl, rfl, rfl, rfl, rfl, rfl, rfl, rfl, rfl, rfl, rfl, rfl, rfl, rfl, rfl, rfl, rfl, rfl, rfl, rfl, rfl, rfl, rfl, rfl, rfl⟩
end Go.Proofs.Ybulkacye
