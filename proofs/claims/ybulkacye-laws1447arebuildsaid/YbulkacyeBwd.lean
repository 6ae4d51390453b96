import Derived.Test.YbulkacyeFr
import Derived.BigQuiet
namespace Go.Proofs.Ybulkacye
open Go.RowKit Go.Proofs.Ybulkacye.Lcs
set_option linter.unusedVariables false
set_option linter.unusedSectionVars false
variable {S ga gb GF GR o N ca cb : Nat} {ao bo : Option Addr} {xa xb : List Int} {fs : Value} {f r : Int → Int} {w : World} {a0 a1 b0 b1 n m : Nat} {dl : Int} {od : Bool} {v21 v22 v23 v24 v25 v26 v27 v28 v29 v30 v31 v32 v33 : Value} {a : Act} {Q : Exit → Act → World → Prop}

set_option maxRecDepth 20000 in
set_option maxHeartbeats 4000000 in
theorem p34 (h : Fr (.pointer (some ⟨S, 0, none⟩)) (.int .i64 a0) (.int .i64 a1) (.int .i64 b0) (.int .i64 b1) (.int .i64 n) (.int .i64 m) (.int .i64 dl) (.bool od) (.slice (some ⟨GF, 0, none⟩) N N) (.slice (some ⟨GR, 0, none⟩) N N) (.int .i64 o) v21 v22 v23 v24 v25 v26 v27 v28 v29 v30 v31 v32 v33 a) (hQ : ∀ a', Fr (.pointer (some ⟨S, 0, none⟩)) (.int .i64 a0) (.int .i64 a1) (.int .i64 b0) (.int .i64 b1) (.int .i64 n) (.int .i64 m) (.int .i64 dl) (.bool od) (.slice (some ⟨GF, 0, none⟩) N N) (.slice (some ⟨GR, 0, none⟩) N N) (.int .i64 o) v21 v22 v23 v24 v25 v26 v27 v28 v29 v30 v31 (.int .i64 U) v33 a' → Q .normal a' w) : Code.wp Yba.prog (pc [1, 1, 1, 1, 1, 1, 1, 0, 1, 0, 0, 1, 0, 0, 1, 1, 1, 1, 0, 1, 0, 0, 1, 0, 0, 0]) Q a w := by
  obtain ⟨u, rfl⟩ := h.lay
  unfold U at hQ
  conv => arg 2; whnf
  go_wp2
  exact ⟨rfl, rfl, rfl, rfl, rfl, rfl, rfl, rfl, rfl, rfl, rfl, rfl, rfl, rfl, rfl, rfl, rfl, rfl, rfl, rfl, rfl, rfl, rfl, rfl, rfl, rfl, rfl⟩
set_option maxRecDepth 20000 in
set_option maxHeartbeats 4000000 in
theorem c35 {d : Nat} (hd : d ≤ 100000) (h : Fr (.pointer (some ⟨S, 0, none⟩)) (.int .i64 a0) (.int .i64 a1) (.int .i64 b0) (.int .i64 b1) (.int .i64 n) (.int .i64 m) (.int .i64 dl) (.bool od) (.slice (some ⟨GF, 0, none⟩) N N) (.slice (some ⟨GR, 0, none⟩) N N) (.int .i64 o) v21 v22 v23 v24 (.int .i64 d) v26 v27 v28 v29 v30 v31 (.int .i64 U) v33 a) (hQ : ∀ a', Fr (.pointer (some ⟨S, 0, none⟩)) (.int .i64 a0) (.int .i64 a1) (.int .i64 b0) (.int .i64 b1) (.int .i64 n) (.int .i64 m) (.int .i64 dl) (.bool od) (.slice (some ⟨GF, 0, none⟩) N N) (.slice (some ⟨GR, 0, none⟩) N N) (.int .i64 o) v21 v22 v23 v24 (.int .i64 d) v26 v27 v28 v29 v30 v31 (.int .i64 (if d = 0 then n else U)) v33 a' → Q .normal a' w) : Code.wp Yba.prog (pc [1, 1, 1, 1, 1, 1, 1, 0, 1, 0, 0, 1, 0, 0, 1, 1, 1, 1, 0, 1, 0, 0, 1, 0, 0, 1, 0]) Q a w := by
  obtain ⟨u, rfl⟩ := h.lay
  by_cases c1 : d = 0
  · rw [if_pos c1] at hQ
    subst c1
    conv => arg 2; whnf
    go_wp2
    exact ⟨rfl, rfl, rfl, rfl, rfl, rfl, rfl, rfl, rfl, rfl, rfl, rfl, rfl, rfl, rfl, rfl, rfl, rfl, rfl, rfl, rfl, rfl, rfl, rfl, rfl, rfl, rfl⟩
  · rw [if_neg c1] at hQ
    have c2 : ¬ ((d : Int) = 0) := by omega
    conv => arg 2; whnf
    go_wp2
    exact ⟨rfl, rfl, rfl, rfl, rfl, rfl, rfl, rfl, rfl, rfl, rfl, rfl, rfl, rfl, rfl, rfl, rfl, rfl, rfl, rfl, rfl, rfl, rfl, rfl, rfl, rfl, rfl⟩
def rp1Of (g : Int → Int) (lo hi p0 k : Int) : Int := if lo ≤ k - 1 ∧ k - 1 ≤ hi ∧ g (k - 1) ≠ U ∧ 0 < g (k - 1) - (k - 1) then g (k - 1) else p0
set_option maxRecDepth 20000 in
set_option maxHeartbeats 4000000 in
theorem c37 {rlo rhi k p0 : Int} (h : Fr (.pointer (some ⟨S, 0, none⟩)) (.int .i64 a0) (.int .i64 a1) (.int .i64 b0) (.int .i64 b1) (.int .i64 n) (.int .i64 m) (.int .i64 dl) (.bool od) (.slice (some ⟨GF, 0, none⟩) N N) (.slice (some ⟨GR, 0, none⟩) N N) (.int .i64 o) v21 v22 (.int .i64 rlo) (.int .i64 rhi) v25 v26 v27 v28 v29 v30 (.int .i64 k) (.int .i64 p0) v33 a) (hS : Sea S ga gb GF GR o N ca cb ao bo xa xb fs f r w) (hN : N = 2 * o + 1) (ho : n + m + 1 ≤ o) (ho2 : o ≤ 1000) (k1 : -(m : Int) ≤ k) (k2 : k ≤ n) (hb : rlo ≤ k - 1 → k - 1 ≤ rhi → r (k - 1) = U ∨ (0 ≤ r (k - 1) ∧ r (k - 1) ≤ n)) (hQ : ∀ a', Fr (.pointer (some ⟨S, 0, none⟩)) (.int .i64 a0) (.int .i64 a1) (.int .i64 b0) (.int .i64 b1) (.int .i64 n) (.int .i64 m) (.int .i64 dl) (.bool od) (.slice (some ⟨GF, 0, none⟩) N N) (.slice (some ⟨GR, 0, none⟩) N N) (.int .i64 o) v21 v22 (.int .i64 rlo) (.int .i64 rhi) v25 v26 v27 v28 v29 v30 (.int .i64 k) (.int .i64 (rp1Of r rlo rhi p0 k)) v33 a' → Q .normal a' w) : Code.wp Yba.prog (pc [1, 1, 1, 1, 1, 1, 1, 0, 1, 0, 0, 1, 0, 0, 1, 1, 1, 1, 0, 1, 0, 0, 1, 0, 0, 1, 1, 0]) Q a w := by
  obtain ⟨u, rfl⟩ := h.lay
  obtain ⟨i, hi⟩ : ∃ i : Nat, (o : Int) + k - 1 = i := ⟨((o : Int) + k - 1).toNat, by omega⟩
  have hiN : i < N := by omega
  obtain ⟨q1, q2⟩ := hS.cellR (k := k - 1) hiN (by omega)
  obtain ⟨g, hg⟩ : ∃ g, r (k - 1) = g := ⟨_, rfl⟩
  clear hN
  rw [hg] at q1 hb
  unfold rp1Of at hQ
  rw [hg] at hQ
  clear hg h
  unfold U at hb hQ
  by_cases c1 : rlo ≤ k - 1
  · skip
    by_cases c2 : k - 1 ≤ rhi
    · skip
      by_cases c3 : g ≠ 4611686018427387904
      · skip
        by_cases c4 : k - 1 < g
        · skip
          have hb := hb c1 c2
          have hb : 0 ≤ g ∧ g ≤ n := by omega
          have c3b : (g != 4611686018427387904) = true := by simp [c3]
          rw [if_pos ⟨c1, c2, c3, by omega⟩] at hQ
          conv => arg 2; whnf
          go_wp2
          exact ⟨rfl, rfl, rfl, rfl, rfl, rfl, rfl, rfl, rfl, rfl, rfl, rfl, rfl, rfl, rfl, rfl, rfl, rfl, rfl, rfl, rfl, rfl, rfl, rfl, rfl, rfl, rfl⟩
        · skip
          have hb := hb c1 c2
          have hb : 0 ≤ g ∧ g ≤ n := by omega
          have c3b : (g != 4611686018427387904) = true := by simp [c3]
          rw [if_neg (by omega)] at hQ
          conv => arg 2; whnf
          go_wp2
          exact ⟨rfl, rfl, rfl, rfl, rfl, rfl, rfl, rfl, rfl, rfl, rfl, rfl, rfl, rfl, rfl, rfl, rfl, rfl, rfl, rfl, rfl, rfl, rfl, rfl, rfl, rfl, rfl⟩
      · skip
        have c3 : g = 4611686018427387904 := by omega
        subst c3
        rw [if_neg (by omega)] at hQ
        conv => arg 2; whnf
        go_wp2
        exact ⟨rfl, rfl, rfl, rfl, rfl, rfl, rfl, rfl, rfl, rfl, rfl, rfl, rfl, rfl, rfl, rfl, rfl, rfl, rfl, rfl, rfl, rfl, rfl, rfl, rfl, rfl, rfl⟩
    · skip
      rw [if_neg (by omega)] at hQ
      conv => arg 2; whnf
      go_wp2
      exact ⟨rfl, rfl, rfl, rfl, rfl, rfl, rfl, rfl, rfl, rfl, rfl, rfl, rfl, rfl, rfl, rfl, rfl, rfl, rfl, rfl, rfl, rfl, rfl, rfl, rfl, rfl, rfl⟩
  · skip
    rw [if_neg (by omega)] at hQ
    conv => arg 2; whnf
    go_wp2
    exact ⟨rfl, rfl, rfl, rfl, rfl, rfl, rfl, rfl, rfl, rfl, rfl, rfl, rfl, rfl, rfl, rfl, rfl, rfl, rfl, rfl, rfl, rfl, rfl, rfl, rfl, rfl, rfl⟩
set_option maxRecDepth 20000 in
set_option maxHeartbeats 4000000 in
theorem c39 {rlo rhi k p0 : Int} (h : Fr (.pointer (some ⟨S, 0, none⟩)) (.int .i64 a0) (.int .i64 a1) (.int .i64 b0) (.int .i64 b1) (.int .i64 n) (.int .i64 m) (.int .i64 dl) (.bool od) (.slice (some ⟨GF, 0, none⟩) N N) (.slice (some ⟨GR, 0, none⟩) N N) (.int .i64 o) v21 v22 (.int .i64 rlo) (.int .i64 rhi) v25 v26 v27 v28 v29 v30 (.int .i64 k) (.int .i64 (rp1Of r rlo rhi p0 k)) v33 a) (hS : Sea S ga gb GF GR o N ca cb ao bo xa xb fs f r w) (hN : N = 2 * o + 1) (ho : n + m + 1 ≤ o) (ho2 : o ≤ 1000) (k1 : -(m : Int) ≤ k) (k2 : k ≤ n) (hb1 : 0 ≤ rp1Of r rlo rhi p0 k ∧ rp1Of r rlo rhi p0 k ≤ U) (hb : rlo ≤ k + 1 → k + 1 ≤ rhi → r (k + 1) = U ∨ (0 ≤ r (k + 1) ∧ r (k + 1) ≤ n)) (hQ : ∀ a', Fr (.pointer (some ⟨S, 0, none⟩)) (.int .i64 a0) (.int .i64 a1) (.int .i64 b0) (.int .i64 b1) (.int .i64 n) (.int .i64 m) (.int .i64 dl) (.bool od) (.slice (some ⟨GF, 0, none⟩) N N) (.slice (some ⟨GR, 0, none⟩) N N) (.int .i64 o) v21 v22 (.int .i64 rlo) (.int .i64 rhi) v25 v26 v27 v28 v29 v30 (.int .i64 k) (.int .i64 (rpxOf r rlo rhi p0 k)) v33 a' → Q .normal a' w) : Code.wp Yba.prog (pc [1, 1, 1, 1, 1, 1, 1, 0, 1, 0, 0, 1, 0, 0, 1, 1, 1, 1, 0, 1, 0, 0, 1, 0, 0, 1, 1, 1, 0]) Q a w := by
  have hpx : rpxOf r rlo rhi p0 k = if rlo ≤ k + 1 ∧ k + 1 ≤ rhi ∧ r (k + 1) ≠ U ∧ 0 < r (k + 1) then min (rp1Of r rlo rhi p0 k) (r (k + 1) - 1) else rp1Of r rlo rhi p0 k := rfl
  rw [hpx] at hQ
  clear hpx
  generalize rp1Of r rlo rhi p0 k = z at *
  obtain ⟨u, rfl⟩ := h.lay
  obtain ⟨i, hi⟩ : ∃ i : Nat, (o : Int) + k + 1 = i := ⟨((o : Int) + k + 1).toNat, by omega⟩
  have hiN : i < N := by omega
  obtain ⟨q1, q2⟩ := hS.cellR (k := k + 1) hiN (by omega)
  obtain ⟨g, hg⟩ : ∃ g, r (k + 1) = g := ⟨_, rfl⟩
  clear hN
  rw [hg] at q1 hb hQ
  clear hg h
  unfold U at hb hb1 hQ
  by_cases c1 : rlo ≤ k + 1
  · skip
    by_cases c2 : k + 1 ≤ rhi
    · skip
      by_cases c3 : g ≠ 4611686018427387904
      · skip
        by_cases c4 : 0 < g
        · skip
          have hb := hb c1 c2
          have hb : 0 ≤ g ∧ g ≤ n := by omega
          have c3b : (g != 4611686018427387904) = true := by simp [c3]
          rw [if_pos ⟨c1, c2, c3, by omega⟩] at hQ
          obtain ⟨z2, hz2⟩ : ∃ z2, min z (g - 1) = z2 := ⟨_, rfl⟩
          rw [hz2] at hQ
          by_cases c5 : z ≤ g - 1
          · have e5 : z2 = z := by omega
            subst e5
            conv => arg 2; whnf
            go_wp2
            exact ⟨rfl, rfl, rfl, rfl, rfl, rfl, rfl, rfl, rfl, rfl, rfl, rfl, rfl, rfl, rfl, rfl, rfl, rfl, rfl, rfl, rfl, rfl, rfl, rfl, rfl, rfl, rfl⟩
          · have e5 : z2 = g - 1 := by omega
            subst e5
            conv => arg 2; whnf
            go_wp2
            exact ⟨rfl, rfl, rfl, rfl, rfl, rfl, rfl, rfl, rfl, rfl, rfl, rfl, rfl, rfl, rfl, rfl, rfl, rfl, rfl, rfl, rfl, rfl, rfl, rfl, rfl, rfl, rfl⟩
        · skip
          have hb := hb c1 c2
          have hb : 0 ≤ g ∧ g ≤ n := by omega
          have c3b : (g != 4611686018427387904) = true := by simp [c3]
          rw [if_neg (by omega)] at hQ
          conv => arg 2; whnf
          go_wp2
          exact ⟨rfl, rfl, rfl, rfl, rfl, rfl, rfl, rfl, rfl, rfl, rfl, rfl, rfl, rfl, rfl, rfl, rfl, rfl, rfl, rfl, rfl, rfl, rfl, rfl, rfl, rfl, rfl⟩
      · skip
        have c3 : g = 4611686018427387904 := by omega
        subst c3
        rw [if_neg (by omega)] at hQ
        conv => arg 2; whnf
        go_wp2
        exact ⟨rfl, rfl, rfl, rfl, rfl, rfl, rfl, rfl, rfl, rfl, rfl, rfl, rfl, rfl, rfl, rfl, rfl, rfl, rfl, rfl, rfl, rfl, rfl, rfl, rfl, rfl, rfl⟩
    · skip
      rw [if_neg (by omega)] at hQ
      conv => arg 2; whnf
      go_wp2
      exact ⟨rfl, rfl, rfl, rfl, rfl, rfl, rfl, rfl, rfl, rfl, rfl, rfl, rfl, rfl, rfl, rfl, rfl, rfl, rfl, rfl, rfl, rfl, rfl, rfl, rfl, rfl, rfl⟩
  · skip
    rw [if_neg (by omega)] at hQ
    conv => arg 2; whnf
    go_wp2
    exact ⟨rfl, rfl, rfl, rfl, rfl, rfl, rfl, rfl, rfl, rfl, rfl, rfl, rfl, rfl, rfl, rfl, rfl, rfl, rfl, rfl, rfl, rfl, rfl, rfl, rfl, rfl, rfl⟩
set_option maxRecDepth 20000 in
set_option maxHeartbeats 4000000 in
theorem c41 {k px : Int} (h : Fr (.pointer (some ⟨S, 0, none⟩)) (.int .i64 a0) (.int .i64 a1) (.int .i64 b0) (.int .i64 b1) (.int .i64 n) (.int .i64 m) (.int .i64 dl) (.bool od) (.slice (some ⟨GF, 0, none⟩) N N) (.slice (some ⟨GR, 0, none⟩) N N) (.int .i64 o) v21 v22 v23 v24 v25 v26 v27 v28 v29 v30 (.int .i64 k) (.int .i64 px) v33 a) (hS : Sea S ga gb GF GR o N ca cb ao bo xa xb fs f r w) (hN : N = 2 * o + 1) (ho : n + m + 1 ≤ o) (ho2 : o ≤ 1000) (k1 : -(m : Int) ≤ k) (k2 : k ≤ n) (hb : px = U ∨ (0 ≤ px ∧ px ≤ n)) (hE : px = U → ∀ w' a', Fr (.pointer (some ⟨S, 0, none⟩)) (.int .i64 a0) (.int .i64 a1) (.int .i64 b0) (.int .i64 b1) (.int .i64 n) (.int .i64 m) (.int .i64 dl) (.bool od) (.slice (some ⟨GF, 0, none⟩) N N) (.slice (some ⟨GR, 0, none⟩) N N) (.int .i64 o) v21 v22 v23 v24 v25 v26 v27 v28 v29 v30 (.int .i64 k) (.int .i64 px) v33 a' → Sea S ga gb GF GR o N ca cb ao bo xa xb fs f (upd r k U) w' → Only w w' [GF, GR] → Q (.exit 7) a' w') (hQ : px ≠ U → ∀ a', Fr (.pointer (some ⟨S, 0, none⟩)) (.int .i64 a0) (.int .i64 a1) (.int .i64 b0) (.int .i64 b1) (.int .i64 n) (.int .i64 m) (.int .i64 dl) (.bool od) (.slice (some ⟨GF, 0, none⟩) N N) (.slice (some ⟨GR, 0, none⟩) N N) (.int .i64 o) v21 v22 v23 v24 v25 v26 v27 v28 v29 v30 (.int .i64 k) (.int .i64 px) v33 a' → Q .normal a' w) : Code.wp Yba.prog (pc [1, 1, 1, 1, 1, 1, 1, 0, 1, 0, 0, 1, 0, 0, 1, 1, 1, 1, 0, 1, 0, 0, 1, 0, 0, 1, 1, 1, 1, 0]) Q a w := by
  obtain ⟨u, rfl⟩ := h.lay
  obtain ⟨i, hi⟩ : ∃ i : Nat, (o : Int) + k = i := ⟨((o : Int) + k).toNat, by omega⟩
  have hiN : i < N := by omega
  obtain ⟨q1, q2⟩ := hS.cellR (k := k) hiN (by omega)
  have hi2 : (i : Int) - o = k := by omega
  clear hN h
  have hS' := hS.setR hiN hi2 U
  have hO : Only w (w.setCell ⟨GR, i, none⟩ (.int .i64 U)) [GF, GR] := (Only.refl w _).setCell _ _ (.inl (by simp))
  have hE := fun c a' h1 => hE c _ a' h1 hS' hO
  clear hS' hO
  unfold U at hb hE hQ
  by_cases c : px = 4611686018427387904
  · have hE := hE c
    subst c
    clear hQ hb
    conv => arg 2; whnf
    go_wp2
    exact ⟨rfl, rfl, rfl, rfl, rfl, rfl, rfl, rfl, rfl, rfl, rfl, rfl, rfl, rfl, rfl, rfl, rfl, rfl, rfl, rfl, rfl, rfl, rfl, rfl, rfl, rfl, rfl⟩
  · have hQ := hQ c
    have hb : 0 ≤ px ∧ px ≤ n := by omega
    clear hE
    conv => arg 2; whnf
    go_wp2
    exact ⟨rfl, rfl, rfl, rfl, rfl, rfl, rfl, rfl, rfl, rfl, rfl, rfl, rfl, rfl, rfl, rfl, rfl, rfl, rfl, rfl, rfl, rfl, rfl, rfl, rfl, rfl, rfl⟩
set_option maxRecDepth 20000 in
set_option maxHeartbeats 4000000 in
theorem p43 {px : Int} (h : Fr (.pointer (some ⟨S, 0, none⟩)) (.int .i64 a0) (.int .i64 a1) (.int .i64 b0) (.int .i64 b1) (.int .i64 n) (.int .i64 m) (.int .i64 dl) (.bool od) (.slice (some ⟨GF, 0, none⟩) N N) (.slice (some ⟨GR, 0, none⟩) N N) (.int .i64 o) v21 v22 v23 v24 v25 v26 v27 v28 v29 v30 v31 (.int .i64 px) v33 a) (hQ : ∀ a', Fr (.pointer (some ⟨S, 0, none⟩)) (.int .i64 a0) (.int .i64 a1) (.int .i64 b0) (.int .i64 b1) (.int .i64 n) (.int .i64 m) (.int .i64 dl) (.bool od) (.slice (some ⟨GF, 0, none⟩) N N) (.slice (some ⟨GR, 0, none⟩) N N) (.int .i64 o) v21 v22 v23 v24 v25 v26 v27 v28 v29 v30 v31 (.int .i64 px) (.int .i64 px) a' → Q .normal a' w) : Code.wp Yba.prog (pc [1, 1, 1, 1, 1, 1, 1, 0, 1, 0, 0, 1, 0, 0, 1, 1, 1, 1, 0, 1, 0, 0, 1, 0, 0, 1, 1, 1, 1, 1, 0]) Q a w := by
  obtain ⟨u, rfl⟩ := h.lay
  conv => arg 2; whnf
  go_wp2
  exact ⟨rfl, rfl, rfl, rfl, rfl, rfl, rfl, rfl, rfl, rfl, rfl, rfl, rfl, rfl, rfl, rfl, rfl, rfl, rfl, rfl, rfl, rfl, rfl, rfl, rfl, rfl, rfl⟩
end Go.Proofs.Ybulkacye
