import Derived.Test.YbulkacyeCmp
namespace Go.Proofs.Ybulkacye
open Go.RowKit Go.Proofs.Ybulkacye.Lcs
set_option linter.unusedVariables false
set_option linter.unusedSectionVars false
variable {S ga gb GF GR o N ca cb base : Nat} {ao bo : Option Addr} {xa xb : List Int} {fs : Value} {f r : Int → Int} {w : World} {v1 v2 v3 v4 v10 v11 v12 v13 v14 v15 : Value} {a : Act} {Q : Exit → Act → World → Prop} {M : List (Nat × Nat)}

set_option maxRecDepth 20000 in
set_option maxHeartbeats 4000000 in
theorem ch0 {i i1 j j1 : Nat} (h : Fc (.pointer (some ⟨S, 0, none⟩)) (.int .i64 i) (.int .i64 i1) (.int .i64 j) (.int .i64 j1) v10 v11 v12 v13 v14 v15 a) (hS : Se S ga gb GF GR o N ca cb base ao bo xa xb fs f r M w) (la : i1 ≤ xa.length) (lb : j1 ≤ xb.length) (la2 : xa.length ≤ 1000) (lb2 : xb.length ≤ 1000)
    (hE : ¬ (i < i1 ∧ j < j1 ∧ xa[i]? = xb[j]?) → ∀ k a', Fc (.pointer (some ⟨S, 0, none⟩)) (.int .i64 i) (.int .i64 i1) (.int .i64 j) (.int .i64 j1) v10 v11 v12 v13 v14 v15 a' → Q (.exit 0) a' (w.drewN k))
    (hQ : i < i1 → j < j1 → (∃ v, xa[i]? = some v ∧ xb[j]? = some v) → ∀ k a', Fc (.pointer (some ⟨S, 0, none⟩)) (.int .i64 i) (.int .i64 i1) (.int .i64 j) (.int .i64 j1) v10 v11 v12 v13 v14 v15 a' → Q .normal a' (w.drewN k)) : Code.wp Yba.prog (pc21 [0, 0, 0, 0]) Q a w := by
  obtain ⟨q0, qb, _⟩ := hS.sea.boxes
  obtain ⟨u, rfl⟩ := h.lay
  clear h
  by_cases c1 : i < i1
  · by_cases c2 : j < j1
    · obtain ⟨va, hva⟩ : ∃ v, xa[i]? = some v := ⟨xa[i], by simp⟩
      obtain ⟨vb, hvb⟩ : ∃ v, xb[j]? = some v := ⟨xb[j], by simp⟩
      obtain ⟨ha1, ha2⟩ := hS.sea.ra i va hva
      obtain ⟨hb1, hb2⟩ := hS.sea.rb j vb hvb
      rw [ha1] at q0
      rw [hb1] at qb
      have il : i < xa.length := by omega
      have jl : j < xb.length := by omega
      have d1 : decide ((i : Int) < i1) = true := decide_eq_true (by omega)
      have d2 : decide ((j : Int) < j1) = true := decide_eq_true (by omega)
      have d3 : decide (i < i1) = true := decide_eq_true (by omega)
      have d4 : decide (j < j1) = true := decide_eq_true (by omega)
      by_cases c3 : va = vb
      · have hQ := hQ c1 c2 ⟨va, hva, by rw [c3]; exact hvb⟩
        have hbb : (va == vb) = true := by simp [c3]
        clear hE hva hvb
        conv => arg 2; whnf
        go_wp2
        go_quiet (fail)
        go_wp2
        exact ⟨rfl, rfl, rfl, rfl, rfl, rfl, rfl, rfl, rfl, rfl, rfl, rfl, rfl⟩
      · have hE := hE (fun hh => c3 (by have := hh.2.2; rw [hva, hvb] at this; exact Option.some.inj this))
        have hbb : (va == vb) = false := by simp [c3]
        clear hQ hva hvb
        conv => arg 2; whnf
        go_wp2
        go_quiet (fail)
        go_wp2
        exact ⟨rfl, rfl, rfl, rfl, rfl, rfl, rfl, rfl, rfl, rfl, rfl, rfl, rfl⟩
    · have hE := hE (fun hh => c2 hh.2.1)
      have d1 : decide ((i : Int) < i1) = true := decide_eq_true (by omega)
      have d2 : decide ((j : Int) < j1) = false := decide_eq_false (by omega)
      have d3 : decide (i < i1) = true := decide_eq_true (by omega)
      have d4 : decide (j < j1) = false := decide_eq_false (by omega)
      clear hQ
      conv => arg 2; whnf
      go_wp2
      go_quiet (fail)
      go_wp2
      exact ⟨rfl, rfl, rfl, rfl, rfl, rfl, rfl, rfl, rfl, rfl, rfl, rfl, rfl⟩
  · have hE := hE (fun hh => c1 hh.1)
    have d1 : decide ((i : Int) < i1) = false := decide_eq_false (by omega)
    have d3 : decide (i < i1) = false := decide_eq_false (by omega)
    clear hQ
    conv => arg 2; whnf
    go_wp2
    go_quiet (fail)
    go_wp2
    exact ⟨rfl, rfl, rfl, rfl, rfl, rfl, rfl, rfl, rfl, rfl, rfl, rfl, rfl⟩
set_option maxRecDepth 20000 in
set_option maxHeartbeats 4000000 in
theorem ch4 {i i1 j j1 s p q : Nat} (hp : (i1 : Int) - s = p) (hq : (j1 : Int) - s = q) (h : Fc (.pointer (some ⟨S, 0, none⟩)) (.int .i64 i) (.int .i64 i1) (.int .i64 j) (.int .i64 j1) (.int .i64 s) v11 v12 v13 v14 v15 a) (hS : Se S ga gb GF GR o N ca cb base ao bo xa xb fs f r M w) (la : i1 ≤ xa.length) (lb : j1 ≤ xb.length) (la2 : xa.length ≤ 1000) (lb2 : xb.length ≤ 1000)
    (hE : ¬ (i < p ∧ j < q ∧ xa[p - 1]? = xb[q - 1]?) → ∀ k a', Fc (.pointer (some ⟨S, 0, none⟩)) (.int .i64 i) (.int .i64 i1) (.int .i64 j) (.int .i64 j1) (.int .i64 s) v11 v12 v13 v14 v15 a' → Q (.exit 2) a' (w.drewN k))
    (hQ : i < p → j < q → (∃ v, xa[p - 1]? = some v ∧ xb[q - 1]? = some v) → ∀ k a', Fc (.pointer (some ⟨S, 0, none⟩)) (.int .i64 i) (.int .i64 i1) (.int .i64 j) (.int .i64 j1) (.int .i64 s) v11 v12 v13 v14 v15 a' → Q .normal a' (w.drewN k)) : Code.wp Yba.prog (pc21 [1, 1, 0, 0, 0, 0]) Q a w := by
  obtain ⟨q0, qb, _⟩ := hS.sea.boxes
  obtain ⟨u, rfl⟩ := h.lay
  clear h
  by_cases c1 : i < p
  · by_cases c2 : j < q
    · obtain ⟨p', hp'⟩ : ∃ p' : Nat, (p : Int) - 1 = p' := ⟨p - 1, by omega⟩
      obtain ⟨q', hq'⟩ : ∃ q' : Nat, (q : Int) - 1 = q' := ⟨q - 1, by omega⟩
      have ep : p - 1 = p' := by omega
      have eq : q - 1 = q' := by omega
      rw [ep, eq] at hE hQ
      clear ep eq
      obtain ⟨va, hva⟩ : ∃ v, xa[p']? = some v := ⟨xa[p'], by simp⟩
      obtain ⟨vb, hvb⟩ : ∃ v, xb[q']? = some v := ⟨xb[q'], by simp⟩
      obtain ⟨ha1, ha2⟩ := hS.sea.ra p' va hva
      obtain ⟨hb1, hb2⟩ := hS.sea.rb q' vb hvb
      rw [ha1] at q0
      rw [hb1] at qb
      have il : p' < xa.length := by omega
      have jl : q' < xb.length := by omega
      have d1 : decide ((i : Int) < p) = true := decide_eq_true (by omega)
      have d2 : decide ((j : Int) < q) = true := decide_eq_true (by omega)
      have d3 : decide (i < p) = true := decide_eq_true (by omega)
      have d4 : decide (j < q) = true := decide_eq_true (by omega)
      by_cases c3 : va = vb
      · have hQ := hQ c1 c2 ⟨va, hva, by rw [c3]; exact hvb⟩
        have hbb : (va == vb) = true := by simp [c3]
        clear hE hva hvb
        conv => arg 2; whnf
        go_wp2
        go_quiet (fail)
        go_wp2
        exact ⟨rfl, rfl, rfl, rfl, rfl, rfl, rfl, rfl, rfl, rfl, rfl, rfl, rfl⟩
      · have hE := hE (fun hh => c3 (by have := hh.2.2; rw [hva, hvb] at this; exact Option.some.inj this))
        have hbb : (va == vb) = false := by simp [c3]
        clear hQ hva hvb
        conv => arg 2; whnf
        go_wp2
        go_quiet (fail)
        go_wp2
        exact ⟨rfl, rfl, rfl, rfl, rfl, rfl, rfl, rfl, rfl, rfl, rfl, rfl, rfl⟩
    · have hE := hE (fun hh => c2 hh.2.1)
      have d1 : decide ((i : Int) < p) = true := decide_eq_true (by omega)
      have d2 : decide ((j : Int) < q) = false := decide_eq_false (by omega)
      have d3 : decide (i < p) = true := decide_eq_true (by omega)
      have d4 : decide (j < q) = false := decide_eq_false (by omega)
      clear hQ
      conv => arg 2; whnf
      go_wp2
      go_quiet (fail)
      go_wp2
      exact ⟨rfl, rfl, rfl, rfl, rfl, rfl, rfl, rfl, rfl, rfl, rfl, rfl, rfl⟩
  · have hE := hE (fun hh => c1 hh.1)
    have d1 : decide ((i : Int) < p) = false := decide_eq_false (by omega)
    have d3 : decide (i < p) = false := decide_eq_false (by omega)
    clear hQ
    conv => arg 2; whnf
    go_wp2
    go_quiet (fail)
    go_wp2
    exact ⟨rfl, rfl, rfl, rfl, rfl, rfl, rfl, rfl, rfl, rfl, rfl, rfl, rfl⟩
end Go.Proofs.Ybulkacye
