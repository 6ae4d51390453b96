import Derived.Test.YbulkacyeFr
import Derived.BigQuiet
namespace Go.Proofs.Ybulkacye
open Go.RowKit Go.Proofs.Ybulkacye.Lcs
set_option linter.unusedVariables false
set_option linter.unusedSectionVars false
variable {S ga gb GF GR o N ca cb : Nat} {ao bo : Option Addr} {xa xb : List Int} {fs : Value} {f r : Int → Int} {w : World} {a0 a1 b0 b1 n m : Nat} {dl : Int} {od : Bool} {v21 v22 v23 v24 v25 v26 v27 v28 v29 v30 v31 v32 v33 : Value} {a : Act} {Q : Exit → Act → World → Prop}

set_option maxRecDepth 20000 in
set_option maxHeartbeats 4000000 in
theorem p14 (h : Fr (.pointer (some ⟨S, 0, none⟩)) (.int .i64 a0) (.int .i64 a1) (.int .i64 b0) (.int .i64 b1) (.int .i64 n) (.int .i64 m) (.int .i64 dl) (.bool od) (.slice (some ⟨GF, 0, none⟩) N N) (.slice (some ⟨GR, 0, none⟩) N N) (.int .i64 o) v21 v22 v23 v24 v25 v26 v27 v28 v29 v30 v31 v32 v33 a) (hQ : ∀ a', Fr (.pointer (some ⟨S, 0, none⟩)) (.int .i64 a0) (.int .i64 a1) (.int .i64 b0) (.int .i64 b1) (.int .i64 n) (.int .i64 m) (.int .i64 dl) (.bool od) (.slice (some ⟨GF, 0, none⟩) N N) (.slice (some ⟨GR, 0, none⟩) N N) (.int .i64 o) v21 v22 v23 v24 v25 v26 v27 v28 (.int .i64 (-1)) v30 v31 v32 v33 a' → Q .normal a' w) : Code.wp Yba.prog (pc [1, 1, 1, 1, 1, 1, 1, 0, 1, 0, 0, 1, 0, 0, 1, 0, 1, 0, 0, 1, 0, 0, 0]) Q a w := by
  obtain ⟨u, rfl⟩ := h.lay
  conv => arg 2; whnf
  go_wp2
  exact ⟨rfl, rfl, rfl, rfl, rfl, rfl, rfl, rfl, rfl, rfl, rfl, rfl, rfl, rfl, rfl, rfl, rfl, rfl, rfl, rfl, rfl, rfl, rfl, rfl, rfl, rfl, rfl⟩
set_option maxRecDepth 20000 in
set_option maxHeartbeats 4000000 in
theorem c15 {d : Nat} (hd : d ≤ 100000) (h : Fr (.pointer (some ⟨S, 0, none⟩)) (.int .i64 a0) (.int .i64 a1) (.int .i64 b0) (.int .i64 b1) (.int .i64 n) (.int .i64 m) (.int .i64 dl) (.bool od) (.slice (some ⟨GF, 0, none⟩) N N) (.slice (some ⟨GR, 0, none⟩) N N) (.int .i64 o) v21 v22 v23 v24 (.int .i64 d) v26 v27 v28 (.int .i64 (-1)) v30 v31 v32 v33 a) (hQ : ∀ a', Fr (.pointer (some ⟨S, 0, none⟩)) (.int .i64 a0) (.int .i64 a1) (.int .i64 b0) (.int .i64 b1) (.int .i64 n) (.int .i64 m) (.int .i64 dl) (.bool od) (.slice (some ⟨GF, 0, none⟩) N N) (.slice (some ⟨GR, 0, none⟩) N N) (.int .i64 o) v21 v22 v23 v24 (.int .i64 d) v26 v27 v28 (.int .i64 (if d = 0 then 0 else -1)) v30 v31 v32 v33 a' → Q .normal a' w) : Code.wp Yba.prog (pc [1, 1, 1, 1, 1, 1, 1, 0, 1, 0, 0, 1, 0, 0, 1, 0, 1, 0, 0, 1, 0, 0, 1, 0]) Q a w := by
  obtain ⟨u, rfl⟩ := h.lay
  by_cases c1 : d = 0
  · rw [if_pos c1] at hQ
    subst c1
    conv => arg 2; whnf
    go_wp2
    exact ⟨rfl, rfl, rfl, rfl, rfl, rfl, rfl, rfl, rfl, rfl, rfl, rfl, rfl, rfl, rfl, rfl, rfl, rfl, rfl, rfl, rfl, rfl, rfl, rfl, rfl, rfl, rfl⟩
  · rw [if_neg c1] at hQ
    have c2 : ¬ ((d : Int) = 0) := by omega
    conv => arg 2; whnf
    go_wp2
    exact ⟨rfl, rfl, rfl, rfl, rfl, rfl, rfl, rfl, rfl, rfl, rfl, rfl, rfl, rfl, rfl, rfl, rfl, rfl, rfl, rfl, rfl, rfl, rfl, rfl, rfl, rfl, rfl⟩
def p1Of (g : Int → Int) (m lo hi p0 k : Int) : Int := if lo ≤ k + 1 ∧ k + 1 ≤ hi ∧ g (k + 1) ≠ -1 ∧ g (k + 1) - (k + 1) < m then g (k + 1) else p0
set_option maxRecDepth 20000 in
set_option maxHeartbeats 4000000 in
theorem c17 {flo fhi k p0 : Int} (h : Fr (.pointer (some ⟨S, 0, none⟩)) (.int .i64 a0) (.int .i64 a1) (.int .i64 b0) (.int .i64 b1) (.int .i64 n) (.int .i64 m) (.int .i64 dl) (.bool od) (.slice (some ⟨GF, 0, none⟩) N N) (.slice (some ⟨GR, 0, none⟩) N N) (.int .i64 o) (.int .i64 flo) (.int .i64 fhi) v23 v24 v25 v26 v27 (.int .i64 k) (.int .i64 p0) v30 v31 v32 v33 a) (hS : Sea S ga gb GF GR o N ca cb ao bo xa xb fs f r w) (hN : N = 2 * o + 1) (ho : n + m + 1 ≤ o) (ho2 : o ≤ 1000) (k1 : -(m : Int) ≤ k) (k2 : k ≤ n) (hb : flo ≤ k + 1 → k + 1 ≤ fhi → -1 ≤ f (k + 1) ∧ f (k + 1) ≤ n) (hQ : ∀ a', Fr (.pointer (some ⟨S, 0, none⟩)) (.int .i64 a0) (.int .i64 a1) (.int .i64 b0) (.int .i64 b1) (.int .i64 n) (.int .i64 m) (.int .i64 dl) (.bool od) (.slice (some ⟨GF, 0, none⟩) N N) (.slice (some ⟨GR, 0, none⟩) N N) (.int .i64 o) (.int .i64 flo) (.int .i64 fhi) v23 v24 v25 v26 v27 (.int .i64 k) (.int .i64 (p1Of f m flo fhi p0 k)) v30 v31 v32 v33 a' → Q .normal a' w) : Code.wp Yba.prog (pc [1, 1, 1, 1, 1, 1, 1, 0, 1, 0, 0, 1, 0, 0, 1, 0, 1, 0, 0, 1, 0, 0, 1, 1, 0]) Q a w := by
  obtain ⟨u, rfl⟩ := h.lay
  obtain ⟨i, hi⟩ : ∃ i : Nat, (o : Int) + k + 1 = i := ⟨((o : Int) + k + 1).toNat, by omega⟩
  have hiN : i < N := by omega
  obtain ⟨q1, q2⟩ := hS.cellF (k := k + 1) hiN (by omega)
  obtain ⟨g, hg⟩ : ∃ g, f (k + 1) = g := ⟨_, rfl⟩
  clear hN
  rw [hg] at q1 hb
  unfold p1Of at hQ
  rw [hg] at hQ
  clear hg
  by_cases c1 : flo ≤ k + 1
  · skip
    by_cases c2 : k + 1 ≤ fhi
    · skip
      by_cases c3 : g ≠ -1
      · skip
        by_cases c4 : g - (k + 1) < m
        · skip
          have hb := hb c1 c2
          rw [if_pos ⟨c1, c2, c3, c4⟩] at hQ
          conv => arg 2; whnf
          go_wp2
          exact ⟨rfl, rfl, rfl, rfl, rfl, rfl, rfl, rfl, rfl, rfl, rfl, rfl, rfl, rfl, rfl, rfl, rfl, rfl, rfl, rfl, rfl, rfl, rfl, rfl, rfl, rfl, rfl⟩
        · skip
          have hb := hb c1 c2
          rw [if_neg (by omega)] at hQ
          conv => arg 2; whnf
          go_wp2
          exact ⟨rfl, rfl, rfl, rfl, rfl, rfl, rfl, rfl, rfl, rfl, rfl, rfl, rfl, rfl, rfl, rfl, rfl, rfl, rfl, rfl, rfl, rfl, rfl, rfl, rfl, rfl, rfl⟩
      · skip
        have c3 : g = -1 := by omega
        subst c3
        rw [if_neg (by omega)] at hQ
        conv => arg 2; whnf
        go_wp2
        exact ⟨rfl, rfl, rfl, rfl, rfl, rfl, rfl, rfl, rfl, rfl, rfl, rfl, rfl, rfl, rfl, rfl, rfl, rfl, rfl, rfl, rfl, rfl, rfl, rfl, rfl, rfl, rfl⟩
    · skip
      rw [if_neg (by omega)] at hQ
      conv => arg 2; whnf
      go_wp2
      exact ⟨rfl, rfl, rfl, rfl, rfl, rfl, rfl, rfl, rfl, rfl, rfl, rfl, rfl, rfl, rfl, rfl, rfl, rfl, rfl, rfl, rfl, rfl, rfl, rfl, rfl, rfl, rfl⟩
  · skip
    rw [if_neg (by omega)] at hQ
    conv => arg 2; whnf
    go_wp2
    exact ⟨rfl, rfl, rfl, rfl, rfl, rfl, rfl, rfl, rfl, rfl, rfl, rfl, rfl, rfl, rfl, rfl, rfl, rfl, rfl, rfl, rfl, rfl, rfl, rfl, rfl, rfl, rfl⟩
set_option maxRecDepth 20000 in
set_option maxHeartbeats 4000000 in
theorem c19 {flo fhi k p0 : Int} (h : Fr (.pointer (some ⟨S, 0, none⟩)) (.int .i64 a0) (.int .i64 a1) (.int .i64 b0) (.int .i64 b1) (.int .i64 n) (.int .i64 m) (.int .i64 dl) (.bool od) (.slice (some ⟨GF, 0, none⟩) N N) (.slice (some ⟨GR, 0, none⟩) N N) (.int .i64 o) (.int .i64 flo) (.int .i64 fhi) v23 v24 v25 v26 v27 (.int .i64 k) (.int .i64 (p1Of f m flo fhi p0 k)) v30 v31 v32 v33 a) (hS : Sea S ga gb GF GR o N ca cb ao bo xa xb fs f r w) (hN : N = 2 * o + 1) (ho : n + m + 1 ≤ o) (ho2 : o ≤ 1000) (k1 : -(m : Int) ≤ k) (k2 : k ≤ n) (hb1 : -1 ≤ p1Of f m flo fhi p0 k ∧ p1Of f m flo fhi p0 k ≤ n) (hb : flo ≤ k - 1 → k - 1 ≤ fhi → -1 ≤ f (k - 1) ∧ f (k - 1) ≤ n) (hQ : ∀ a', Fr (.pointer (some ⟨S, 0, none⟩)) (.int .i64 a0) (.int .i64 a1) (.int .i64 b0) (.int .i64 b1) (.int .i64 n) (.int .i64 m) (.int .i64 dl) (.bool od) (.slice (some ⟨GF, 0, none⟩) N N) (.slice (some ⟨GR, 0, none⟩) N N) (.int .i64 o) (.int .i64 flo) (.int .i64 fhi) v23 v24 v25 v26 v27 (.int .i64 k) (.int .i64 (pxOf f n m flo fhi p0 k)) v30 v31 v32 v33 a' → Q .normal a' w) : Code.wp Yba.prog (pc [1, 1, 1, 1, 1, 1, 1, 0, 1, 0, 0, 1, 0, 0, 1, 0, 1, 0, 0, 1, 0, 0, 1, 1, 1, 0]) Q a w := by
  have hpx : pxOf f n m flo fhi p0 k = if flo ≤ k - 1 ∧ k - 1 ≤ fhi ∧ f (k - 1) ≠ -1 ∧ f (k - 1) < n then max (p1Of f m flo fhi p0 k) (f (k - 1) + 1) else p1Of f m flo fhi p0 k := rfl
  rw [hpx] at hQ
  clear hpx
  generalize p1Of f m flo fhi p0 k = z at *
  obtain ⟨u, rfl⟩ := h.lay
  obtain ⟨i, hi⟩ : ∃ i : Nat, (o : Int) + k - 1 = i := ⟨((o : Int) + k - 1).toNat, by omega⟩
  have hiN : i < N := by omega
  obtain ⟨q1, q2⟩ := hS.cellF (k := k - 1) hiN (by omega)
  obtain ⟨g, hg⟩ : ∃ g, f (k - 1) = g := ⟨_, rfl⟩
  clear hN
  rw [hg] at q1 hb hQ
  clear hg
  by_cases c1 : flo ≤ k - 1
  · skip
    by_cases c2 : k - 1 ≤ fhi
    · skip
      by_cases c3 : g ≠ -1
      · skip
        by_cases c4 : g < n
        · skip
          have hb := hb c1 c2
          rw [if_pos ⟨c1, c2, c3, c4⟩] at hQ
          obtain ⟨z2, hz2⟩ : ∃ z2, max z (g + 1) = z2 := ⟨_, rfl⟩
          rw [hz2] at hQ
          by_cases c5 : g + 1 ≤ z
          · have e5 : z2 = z := by omega
            subst e5
            conv => arg 2; whnf
            go_wp2
            exact ⟨rfl, rfl, rfl, rfl, rfl, rfl, rfl, rfl, rfl, rfl, rfl, rfl, rfl, rfl, rfl, rfl, rfl, rfl, rfl, rfl, rfl, rfl, rfl, rfl, rfl, rfl, rfl⟩
          · have e5 : z2 = g + 1 := by omega
            subst e5
            conv => arg 2; whnf
            go_wp2
            exact ⟨rfl, rfl, rfl, rfl, rfl, rfl, rfl, rfl, rfl, rfl, rfl, rfl, rfl, rfl, rfl, rfl, rfl, rfl, rfl, rfl, rfl, rfl, rfl, rfl, rfl, rfl, rfl⟩
        · skip
          have hb := hb c1 c2
          rw [if_neg (by omega)] at hQ
          conv => arg 2; whnf
          go_wp2
          exact ⟨rfl, rfl, rfl, rfl, rfl, rfl, rfl, rfl, rfl, rfl, rfl, rfl, rfl, rfl, rfl, rfl, rfl, rfl, rfl, rfl, rfl, rfl, rfl, rfl, rfl, rfl, rfl⟩
      · skip
        have c3 : g = -1 := by omega
        subst c3
        rw [if_neg (by omega)] at hQ
        conv => arg 2; whnf
        go_wp2
        exact ⟨rfl, rfl, rfl, rfl, rfl, rfl, rfl, rfl, rfl, rfl, rfl, rfl, rfl, rfl, rfl, rfl, rfl, rfl, rfl, rfl, rfl, rfl, rfl, rfl, rfl, rfl, rfl⟩
    · skip
      rw [if_neg (by omega)] at hQ
      conv => arg 2; whnf
      go_wp2
      exact ⟨rfl, rfl, rfl, rfl, rfl, rfl, rfl, rfl, rfl, rfl, rfl, rfl, rfl, rfl, rfl, rfl, rfl, rfl, rfl, rfl, rfl, rfl, rfl, rfl, rfl, rfl, rfl⟩
  · skip
    rw [if_neg (by omega)] at hQ
    conv => arg 2; whnf
    go_wp2
    exact ⟨rfl, rfl, rfl, rfl, rfl, rfl, rfl, rfl, rfl, rfl, rfl, rfl, rfl, rfl, rfl, rfl, rfl, rfl, rfl, rfl, rfl, rfl, rfl, rfl, rfl, rfl, rfl⟩
set_option maxRecDepth 20000 in
set_option maxHeartbeats 4000000 in
theorem c21 {k px : Int} (h : Fr (.pointer (some ⟨S, 0, none⟩)) (.int .i64 a0) (.int .i64 a1) (.int .i64 b0) (.int .i64 b1) (.int .i64 n) (.int .i64 m) (.int .i64 dl) (.bool od) (.slice (some ⟨GF, 0, none⟩) N N) (.slice (some ⟨GR, 0, none⟩) N N) (.int .i64 o) v21 v22 v23 v24 v25 v26 v27 (.int .i64 k) (.int .i64 px) v30 v31 v32 v33 a) (hS : Sea S ga gb GF GR o N ca cb ao bo xa xb fs f r w) (hN : N = 2 * o + 1) (ho : n + m + 1 ≤ o) (ho2 : o ≤ 1000) (k1 : -(m : Int) ≤ k) (k2 : k ≤ n) (hb : -1 ≤ px ∧ px ≤ n) (hE : px = -1 → ∀ w' a', Fr (.pointer (some ⟨S, 0, none⟩)) (.int .i64 a0) (.int .i64 a1) (.int .i64 b0) (.int .i64 b1) (.int .i64 n) (.int .i64 m) (.int .i64 dl) (.bool od) (.slice (some ⟨GF, 0, none⟩) N N) (.slice (some ⟨GR, 0, none⟩) N N) (.int .i64 o) v21 v22 v23 v24 v25 v26 v27 (.int .i64 k) (.int .i64 px) v30 v31 v32 v33 a' → Sea S ga gb GF GR o N ca cb ao bo xa xb fs (upd f k (-1)) r w' → Only w w' [GF, GR] → Q (.exit 3) a' w') (hQ : px ≠ -1 → ∀ a', Fr (.pointer (some ⟨S, 0, none⟩)) (.int .i64 a0) (.int .i64 a1) (.int .i64 b0) (.int .i64 b1) (.int .i64 n) (.int .i64 m) (.int .i64 dl) (.bool od) (.slice (some ⟨GF, 0, none⟩) N N) (.slice (some ⟨GR, 0, none⟩) N N) (.int .i64 o) v21 v22 v23 v24 v25 v26 v27 (.int .i64 k) (.int .i64 px) v30 v31 v32 v33 a' → Q .normal a' w) : Code.wp Yba.prog (pc [1, 1, 1, 1, 1, 1, 1, 0, 1, 0, 0, 1, 0, 0, 1, 0, 1, 0, 0, 1, 0, 0, 1, 1, 1, 1, 0]) Q a w := by
  obtain ⟨u, rfl⟩ := h.lay
  obtain ⟨i, hi⟩ : ∃ i : Nat, (o : Int) + k = i := ⟨((o : Int) + k).toNat, by omega⟩
  have hiN : i < N := by omega
  obtain ⟨q1, q2⟩ := hS.cellF (k := k) hiN (by omega)
  have hi2 : (i : Int) - o = k := by omega
  clear hN
  by_cases c : px = -1
  · have hS' := hS.setF hiN hi2 (-1)
    have hO : Only w (w.setCell ⟨GF, i, none⟩ (.int .i64 (-1))) [GF, GR] := (Only.refl w _).setCell _ _ (.inl (by simp))
    have hE := fun a' h1 => hE c _ a' h1 hS' hO
    clear hS' hO
    subst c
    clear hQ hb
    conv => arg 2; whnf
    go_wp2
    exact ⟨rfl, rfl, rfl, rfl, rfl, rfl, rfl, rfl, rfl, rfl, rfl, rfl, rfl, rfl, rfl, rfl, rfl, rfl, rfl, rfl, rfl, rfl, rfl, rfl, rfl, rfl, rfl⟩
  · have hQ := hQ c
    clear hE
    conv => arg 2; whnf
    go_wp2
    exact ⟨rfl, rfl, rfl, rfl, rfl, rfl, rfl, rfl, rfl, rfl, rfl, rfl, rfl, rfl, rfl, rfl, rfl, rfl, rfl, rfl, rfl, rfl, rfl, rfl, rfl, rfl, rfl⟩
set_option maxRecDepth 20000 in
set_option maxHeartbeats 4000000 in
theorem p23 {px : Int} (h : Fr (.pointer (some ⟨S, 0, none⟩)) (.int .i64 a0) (.int .i64 a1) (.int .i64 b0) (.int .i64 b1) (.int .i64 n) (.int .i64 m) (.int .i64 dl) (.bool od) (.slice (some ⟨GF, 0, none⟩) N N) (.slice (some ⟨GR, 0, none⟩) N N) (.int .i64 o) v21 v22 v23 v24 v25 v26 v27 v28 (.int .i64 px) v30 v31 v32 v33 a) (hQ : ∀ a', Fr (.pointer (some ⟨S, 0, none⟩)) (.int .i64 a0) (.int .i64 a1) (.int .i64 b0) (.int .i64 b1) (.int .i64 n) (.int .i64 m) (.int .i64 dl) (.bool od) (.slice (some ⟨GF, 0, none⟩) N N) (.slice (some ⟨GR, 0, none⟩) N N) (.int .i64 o) v21 v22 v23 v24 v25 v26 v27 v28 (.int .i64 px) (.int .i64 px) v31 v32 v33 a' → Q .normal a' w) : Code.wp Yba.prog (pc [1, 1, 1, 1, 1, 1, 1, 0, 1, 0, 0, 1, 0, 0, 1, 0, 1, 0, 0, 1, 0, 0, 1, 1, 1, 1, 1, 0]) Q a w := by
  obtain ⟨u, rfl⟩ := h.lay
  conv => arg 2; whnf
  go_wp2
  exact ⟨rfl, rfl, rfl, rfl, rfl, rfl, rfl, rfl, rfl, rfl, rfl, rfl, rfl, rfl, rfl, rfl, rfl, rfl, rfl, rfl, rfl, rfl, rfl, rfl, rfl, rfl, rfl⟩
end Go.Proofs.Ybulkacye
