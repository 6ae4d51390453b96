import Derived.Test.YbulkacyeFr
import Derived.BigQuiet
namespace Go.Proofs.Ybulkacye
open Go.RowKit Go.Proofs.Ybulkacye.Lcs
set_option linter.unusedVariables false
set_option linter.unusedSectionVars false
variable {S ga gb GF GR o N ca cb : Nat} {ao bo : Option Addr} {xa xb : List Int} {fs : Value} {f r : Int → Int} {w : World} {a0 a1 b0 b1 n m : Nat} {dl : Int} {od : Bool} {v21 v22 v23 v24 v25 v26 v27 v28 v29 v30 v31 v32 v33 : Value} {a : Act} {Q : Exit → Act → World → Prop}

set_option maxRecDepth 20000 in
set_option maxHeartbeats 4000000 in
theorem h12 {k hi : Int} (h : Fr (.pointer (some ⟨S, 0, none⟩)) (.int .i64 a0) (.int .i64 a1) (.int .i64 b0) (.int .i64 b1) (.int .i64 n) (.int .i64 m) (.int .i64 dl) (.bool od) (.slice (some ⟨GF, 0, none⟩) N N) (.slice (some ⟨GR, 0, none⟩) N N) (.int .i64 o) v21 v22 v23 v24 v25 v26 (.int .i64 hi) (.int .i64 k) v29 v30 v31 v32 v33 a) (hE : ¬ k ≤ hi → ∀ a', Fr (.pointer (some ⟨S, 0, none⟩)) (.int .i64 a0) (.int .i64 a1) (.int .i64 b0) (.int .i64 b1) (.int .i64 n) (.int .i64 m) (.int .i64 dl) (.bool od) (.slice (some ⟨GF, 0, none⟩) N N) (.slice (some ⟨GR, 0, none⟩) N N) (.int .i64 o) v21 v22 v23 v24 v25 v26 (.int .i64 hi) (.int .i64 k) v29 v30 v31 v32 v33 a' → Q (.exit 2) a' w) (hQ : k ≤ hi → ∀ a', Fr (.pointer (some ⟨S, 0, none⟩)) (.int .i64 a0) (.int .i64 a1) (.int .i64 b0) (.int .i64 b1) (.int .i64 n) (.int .i64 m) (.int .i64 dl) (.bool od) (.slice (some ⟨GF, 0, none⟩) N N) (.slice (some ⟨GR, 0, none⟩) N N) (.int .i64 o) v21 v22 v23 v24 v25 v26 (.int .i64 hi) (.int .i64 k) v29 v30 v31 v32 v33 a' → Q .normal a' w) : Code.wp Yba.prog (pc [1, 1, 1, 1, 1, 1, 1, 0, 1, 0, 0, 1, 0, 0, 1, 0, 1, 0, 0, 0]) Q a w := by
  obtain ⟨u, rfl⟩ := h.lay
  clear h
  by_cases c : k ≤ hi
  · have hQ := hQ c
    clear hE
    conv => arg 2; whnf
    go_wp2
    exact ⟨rfl, rfl, rfl, rfl, rfl, rfl, rfl, rfl, rfl, rfl, rfl, rfl, rfl, rfl, rfl, rfl, rfl, rfl, rfl, rfl, rfl, rfl, rfl, rfl, rfl, rfl, rfl⟩
  · have hE := hE c
    clear hQ
    conv => arg 2; whnf
    go_wp2
    exact ⟨rfl, rfl, rfl, rfl, rfl, rfl, rfl, rfl, rfl, rfl, rfl, rfl, rfl, rfl, rfl, rfl, rfl, rfl, rfl, rfl, rfl, rfl, rfl, rfl, rfl, rfl, rfl⟩
set_option maxRecDepth 20000 in
set_option maxHeartbeats 4000000 in
theorem r13 {k : Int} (h : Fr (.pointer (some ⟨S, 0, none⟩)) (.int .i64 a0) (.int .i64 a1) (.int .i64 b0) (.int .i64 b1) (.int .i64 n) (.int .i64 m) (.int .i64 dl) (.bool od) (.slice (some ⟨GF, 0, none⟩) N N) (.slice (some ⟨GR, 0, none⟩) N N) (.int .i64 o) v21 v22 v23 v24 v25 v26 v27 (.int .i64 k) v29 v30 v31 v32 v33 a) (k1 : -10000 ≤ k) (k2 : k ≤ 10000) (hQ : ∀ a', Fr (.pointer (some ⟨S, 0, none⟩)) (.int .i64 a0) (.int .i64 a1) (.int .i64 b0) (.int .i64 b1) (.int .i64 n) (.int .i64 m) (.int .i64 dl) (.bool od) (.slice (some ⟨GF, 0, none⟩) N N) (.slice (some ⟨GR, 0, none⟩) N N) (.int .i64 o) v21 v22 v23 v24 v25 v26 v27 (.int .i64 (k + 2)) v29 v30 v31 v32 v33 a' → Q .normal a' w) : Code.wp Yba.prog (pc [1, 1, 1, 1, 1, 1, 1, 0, 1, 0, 0, 1, 0, 0, 1, 0, 1, 0, 0, 1, 1]) Q a w := by
  obtain ⟨u, rfl⟩ := h.lay
  clear h
  conv => arg 2; whnf
  go_wp2
  exact ⟨rfl, rfl, rfl, rfl, rfl, rfl, rfl, rfl, rfl, rfl, rfl, rfl, rfl, rfl, rfl, rfl, rfl, rfl, rfl, rfl, rfl, rfl, rfl, rfl, rfl, rfl, rfl⟩
set_option maxRecDepth 20000 in
set_option maxHeartbeats 4000000 in
theorem h32 {k hi : Int} (h : Fr (.pointer (some ⟨S, 0, none⟩)) (.int .i64 a0) (.int .i64 a1) (.int .i64 b0) (.int .i64 b1) (.int .i64 n) (.int .i64 m) (.int .i64 dl) (.bool od) (.slice (some ⟨GF, 0, none⟩) N N) (.slice (some ⟨GR, 0, none⟩) N N) (.int .i64 o) v21 v22 v23 v24 v25 v26 (.int .i64 hi) v28 v29 v30 (.int .i64 k) v32 v33 a) (hE : ¬ k ≤ hi → ∀ a', Fr (.pointer (some ⟨S, 0, none⟩)) (.int .i64 a0) (.int .i64 a1) (.int .i64 b0) (.int .i64 b1) (.int .i64 n) (.int .i64 m) (.int .i64 dl) (.bool od) (.slice (some ⟨GF, 0, none⟩) N N) (.slice (some ⟨GR, 0, none⟩) N N) (.int .i64 o) v21 v22 v23 v24 v25 v26 (.int .i64 hi) v28 v29 v30 (.int .i64 k) v32 v33 a' → Q (.exit 6) a' w) (hQ : k ≤ hi → ∀ a', Fr (.pointer (some ⟨S, 0, none⟩)) (.int .i64 a0) (.int .i64 a1) (.int .i64 b0) (.int .i64 b1) (.int .i64 n) (.int .i64 m) (.int .i64 dl) (.bool od) (.slice (some ⟨GF, 0, none⟩) N N) (.slice (some ⟨GR, 0, none⟩) N N) (.int .i64 o) v21 v22 v23 v24 v25 v26 (.int .i64 hi) v28 v29 v30 (.int .i64 k) v32 v33 a' → Q .normal a' w) : Code.wp Yba.prog (pc [1, 1, 1, 1, 1, 1, 1, 0, 1, 0, 0, 1, 0, 0, 1, 1, 1, 1, 0, 1, 0, 0, 0]) Q a w := by
  obtain ⟨u, rfl⟩ := h.lay
  clear h
  by_cases c : k ≤ hi
  · have hQ := hQ c
    clear hE
    conv => arg 2; whnf
    go_wp2
    exact ⟨rfl, rfl, rfl, rfl, rfl, rfl, rfl, rfl, rfl, rfl, rfl, rfl, rfl, rfl, rfl, rfl, rfl, rfl, rfl, rfl, rfl, rfl, rfl, rfl, rfl, rfl, rfl⟩
  · have hE := hE c
    clear hQ
    conv => arg 2; whnf
    go_wp2
    exact ⟨rfl, rfl, rfl, rfl, rfl, rfl, rfl, rfl, rfl, rfl, rfl, rfl, rfl, rfl, rfl, rfl, rfl, rfl, rfl, rfl, rfl, rfl, rfl, rfl, rfl, rfl, rfl⟩
set_option maxRecDepth 20000 in
set_option maxHeartbeats 4000000 in
theorem r33 {k : Int} (h : Fr (.pointer (some ⟨S, 0, none⟩)) (.int .i64 a0) (.int .i64 a1) (.int .i64 b0) (.int .i64 b1) (.int .i64 n) (.int .i64 m) (.int .i64 dl) (.bool od) (.slice (some ⟨GF, 0, none⟩) N N) (.slice (some ⟨GR, 0, none⟩) N N) (.int .i64 o) v21 v22 v23 v24 v25 v26 v27 v28 v29 v30 (.int .i64 k) v32 v33 a) (k1 : -10000 ≤ k) (k2 : k ≤ 10000) (hQ : ∀ a', Fr (.pointer (some ⟨S, 0, none⟩)) (.int .i64 a0) (.int .i64 a1) (.int .i64 b0) (.int .i64 b1) (.int .i64 n) (.int .i64 m) (.int .i64 dl) (.bool od) (.slice (some ⟨GF, 0, none⟩) N N) (.slice (some ⟨GR, 0, none⟩) N N) (.int .i64 o) v21 v22 v23 v24 v25 v26 v27 v28 v29 v30 (.int .i64 (k + 2)) v32 v33 a' → Q .normal a' w) : Code.wp Yba.prog (pc [1, 1, 1, 1, 1, 1, 1, 0, 1, 0, 0, 1, 0, 0, 1, 1, 1, 1, 0, 1, 0, 0, 1, 1]) Q a w := by
  obtain ⟨u, rfl⟩ := h.lay
  clear h
  conv => arg 2; whnf
  go_wp2
  exact ⟨rfl, rfl, rfl, rfl, rfl, rfl, rfl, rfl, rfl, rfl, rfl, rfl, rfl, rfl, rfl, rfl, rfl, rfl, rfl, rfl, rfl, rfl, rfl, rfl, rfl, rfl, rfl⟩
set_option maxRecDepth 20000 in
set_option maxHeartbeats 4000000 in
theorem h8 {d : Nat} (hd : d ≤ 10000) (hn : n ≤ 1000) (hm : m ≤ 1000) (h : Fr (.pointer (some ⟨S, 0, none⟩)) (.int .i64 a0) (.int .i64 a1) (.int .i64 b0) (.int .i64 b1) (.int .i64 n) (.int .i64 m) (.int .i64 dl) (.bool od) (.slice (some ⟨GF, 0, none⟩) N N) (.slice (some ⟨GR, 0, none⟩) N N) (.int .i64 o) v21 v22 v23 v24 (.int .i64 d) v26 v27 v28 v29 v30 v31 v32 v33 a) (hE : ¬ d ≤ (n + m + 1) / 2 → ∀ a', Fr (.pointer (some ⟨S, 0, none⟩)) (.int .i64 a0) (.int .i64 a1) (.int .i64 b0) (.int .i64 b1) (.int .i64 n) (.int .i64 m) (.int .i64 dl) (.bool od) (.slice (some ⟨GF, 0, none⟩) N N) (.slice (some ⟨GR, 0, none⟩) N N) (.int .i64 o) v21 v22 v23 v24 (.int .i64 d) v26 v27 v28 v29 v30 v31 v32 v33 a' → Q (.exit 0) a' w) (hQ : d ≤ (n + m + 1) / 2 → ∀ a', Fr (.pointer (some ⟨S, 0, none⟩)) (.int .i64 a0) (.int .i64 a1) (.int .i64 b0) (.int .i64 b1) (.int .i64 n) (.int .i64 m) (.int .i64 dl) (.bool od) (.slice (some ⟨GF, 0, none⟩) N N) (.slice (some ⟨GR, 0, none⟩) N N) (.int .i64 o) v21 v22 v23 v24 (.int .i64 d) v26 v27 v28 v29 v30 v31 v32 v33 a' → Q .normal a' w) : Code.wp Yba.prog (pc [1, 1, 1, 1, 1, 1, 1, 0, 1, 0, 0, 0]) Q a w := by
  obtain ⟨u, rfl⟩ := h.lay
  clear h
  obtain ⟨H, hH1⟩ : ∃ H : Nat, (n + m + 1) / 2 = H := ⟨_, rfl⟩
  have hH : ((n : Int) + m + 1) / 2 = H := by omega
  have hH2 : ((n : Int) + m + 1).tdiv 2 = H := by rw [Int.tdiv_eq_ediv_of_nonneg (by omega)]; omega
  rw [hH1] at hE hQ
  by_cases c : d ≤ H
  · have hQ := hQ c
    clear hE hH1
    conv => arg 2; whnf
    go_wp2
    exact ⟨rfl, rfl, rfl, rfl, rfl, rfl, rfl, rfl, rfl, rfl, rfl, rfl, rfl, rfl, rfl, rfl, rfl, rfl, rfl, rfl, rfl, rfl, rfl, rfl, rfl, rfl, rfl⟩
  · have hE := hE c
    clear hQ hH1
    conv => arg 2; whnf
    go_wp2
    exact ⟨rfl, rfl, rfl, rfl, rfl, rfl, rfl, rfl, rfl, rfl, rfl, rfl, rfl, rfl, rfl, rfl, rfl, rfl, rfl, rfl, rfl, rfl, rfl, rfl, rfl, rfl, rfl⟩
set_option maxRecDepth 20000 in
set_option maxHeartbeats 4000000 in
theorem r11 {lo : Int} (h : Fr (.pointer (some ⟨S, 0, none⟩)) (.int .i64 a0) (.int .i64 a1) (.int .i64 b0) (.int .i64 b1) (.int .i64 n) (.int .i64 m) (.int .i64 dl) (.bool od) (.slice (some ⟨GF, 0, none⟩) N N) (.slice (some ⟨GR, 0, none⟩) N N) (.int .i64 o) v21 v22 v23 v24 v25 (.int .i64 lo) v27 v28 v29 v30 v31 v32 v33 a)  (hQ : ∀ a', Fr (.pointer (some ⟨S, 0, none⟩)) (.int .i64 a0) (.int .i64 a1) (.int .i64 b0) (.int .i64 b1) (.int .i64 n) (.int .i64 m) (.int .i64 dl) (.bool od) (.slice (some ⟨GF, 0, none⟩) N N) (.slice (some ⟨GR, 0, none⟩) N N) (.int .i64 o) v21 v22 v23 v24 v25 (.int .i64 lo) v27 (.int .i64 lo) v29 v30 v31 v32 v33 a' → Q .normal a' w) : Code.wp Yba.prog (pc [1, 1, 1, 1, 1, 1, 1, 0, 1, 0, 0, 1, 0, 0, 1, 0, 0]) Q a w := by
  obtain ⟨u, rfl⟩ := h.lay
  clear h
  conv => arg 2; whnf
  go_wp2
  exact ⟨rfl, rfl, rfl, rfl, rfl, rfl, rfl, rfl, rfl, rfl, rfl, rfl, rfl, rfl, rfl, rfl, rfl, rfl, rfl, rfl, rfl, rfl, rfl, rfl, rfl, rfl, rfl⟩
set_option maxRecDepth 20000 in
set_option maxHeartbeats 4000000 in
theorem r29 {lo hi : Int} (h : Fr (.pointer (some ⟨S, 0, none⟩)) (.int .i64 a0) (.int .i64 a1) (.int .i64 b0) (.int .i64 b1) (.int .i64 n) (.int .i64 m) (.int .i64 dl) (.bool od) (.slice (some ⟨GF, 0, none⟩) N N) (.slice (some ⟨GR, 0, none⟩) N N) (.int .i64 o) v21 v22 v23 v24 v25 (.int .i64 lo) (.int .i64 hi) v28 v29 v30 v31 v32 v33 a)  (hQ : ∀ a', Fr (.pointer (some ⟨S, 0, none⟩)) (.int .i64 a0) (.int .i64 a1) (.int .i64 b0) (.int .i64 b1) (.int .i64 n) (.int .i64 m) (.int .i64 dl) (.bool od) (.slice (some ⟨GF, 0, none⟩) N N) (.slice (some ⟨GR, 0, none⟩) N N) (.int .i64 o) (.int .i64 lo) (.int .i64 hi) v23 v24 v25 (.int .i64 lo) (.int .i64 hi) v28 v29 v30 v31 v32 v33 a' → Q .normal a' w) : Code.wp Yba.prog (pc [1, 1, 1, 1, 1, 1, 1, 0, 1, 0, 0, 1, 0, 0, 1, 1, 0]) Q a w := by
  obtain ⟨u, rfl⟩ := h.lay
  clear h
  conv => arg 2; whnf
  go_wp2
  exact ⟨rfl, rfl, rfl, rfl, rfl, rfl, rfl, rfl, rfl, rfl, rfl, rfl, rfl, rfl, rfl, rfl, rfl, rfl, rfl, rfl, rfl, rfl, rfl, rfl, rfl, rfl, rfl⟩
set_option maxRecDepth 20000 in
set_option maxHeartbeats 4000000 in
theorem r31 {lo : Int} (h : Fr (.pointer (some ⟨S, 0, none⟩)) (.int .i64 a0) (.int .i64 a1) (.int .i64 b0) (.int .i64 b1) (.int .i64 n) (.int .i64 m) (.int .i64 dl) (.bool od) (.slice (some ⟨GF, 0, none⟩) N N) (.slice (some ⟨GR, 0, none⟩) N N) (.int .i64 o) v21 v22 v23 v24 v25 (.int .i64 lo) v27 v28 v29 v30 v31 v32 v33 a)  (hQ : ∀ a', Fr (.pointer (some ⟨S, 0, none⟩)) (.int .i64 a0) (.int .i64 a1) (.int .i64 b0) (.int .i64 b1) (.int .i64 n) (.int .i64 m) (.int .i64 dl) (.bool od) (.slice (some ⟨GF, 0, none⟩) N N) (.slice (some ⟨GR, 0, none⟩) N N) (.int .i64 o) v21 v22 v23 v24 v25 (.int .i64 lo) v27 v28 v29 v30 (.int .i64 lo) v32 v33 a' → Q .normal a' w) : Code.wp Yba.prog (pc [1, 1, 1, 1, 1, 1, 1, 0, 1, 0, 0, 1, 0, 0, 1, 1, 1, 1, 0, 0]) Q a w := by
  obtain ⟨u, rfl⟩ := h.lay
  clear h
  conv => arg 2; whnf
  go_wp2
  exact ⟨rfl, rfl, rfl, rfl, rfl, rfl, rfl, rfl, rfl, rfl, rfl, rfl, rfl, rfl, rfl, rfl, rfl, rfl, rfl, rfl, rfl, rfl, rfl, rfl, rfl, rfl, rfl⟩
set_option maxRecDepth 20000 in
set_option maxHeartbeats 4000000 in
theorem r49 {lo hi : Int} (h : Fr (.pointer (some ⟨S, 0, none⟩)) (.int .i64 a0) (.int .i64 a1) (.int .i64 b0) (.int .i64 b1) (.int .i64 n) (.int .i64 m) (.int .i64 dl) (.bool od) (.slice (some ⟨GF, 0, none⟩) N N) (.slice (some ⟨GR, 0, none⟩) N N) (.int .i64 o) v21 v22 v23 v24 v25 (.int .i64 lo) (.int .i64 hi) v28 v29 v30 v31 v32 v33 a)  (hQ : ∀ a', Fr (.pointer (some ⟨S, 0, none⟩)) (.int .i64 a0) (.int .i64 a1) (.int .i64 b0) (.int .i64 b1) (.int .i64 n) (.int .i64 m) (.int .i64 dl) (.bool od) (.slice (some ⟨GF, 0, none⟩) N N) (.slice (some ⟨GR, 0, none⟩) N N) (.int .i64 o) v21 v22 (.int .i64 lo) (.int .i64 hi) v25 (.int .i64 lo) (.int .i64 hi) v28 v29 v30 v31 v32 v33 a' → Q .normal a' w) : Code.wp Yba.prog (pc [1, 1, 1, 1, 1, 1, 1, 0, 1, 0, 0, 1, 0, 0, 1, 1, 1, 1, 1]) Q a w := by
  obtain ⟨u, rfl⟩ := h.lay
  clear h
  conv => arg 2; whnf
  go_wp2
  exact ⟨rfl, rfl, rfl, rfl, rfl, rfl, rfl, rfl, rfl, rfl, rfl, rfl, rfl, rfl, rfl, rfl, rfl, rfl, rfl, rfl, rfl, rfl, rfl, rfl, rfl, rfl, rfl⟩
set_option maxRecDepth 20000 in
set_option maxHeartbeats 4000000 in
theorem r9 {d : Nat} (h : Fr (.pointer (some ⟨S, 0, none⟩)) (.int .i64 a0) (.int .i64 a1) (.int .i64 b0) (.int .i64 b1) (.int .i64 n) (.int .i64 m) (.int .i64 dl) (.bool od) (.slice (some ⟨GF, 0, none⟩) N N) (.slice (some ⟨GR, 0, none⟩) N N) (.int .i64 o) v21 v22 v23 v24 (.int .i64 d) v26 v27 v28 v29 v30 v31 v32 v33 a) (hd : d ≤ 10000) (hQ : ∀ a', Fr (.pointer (some ⟨S, 0, none⟩)) (.int .i64 a0) (.int .i64 a1) (.int .i64 b0) (.int .i64 b1) (.int .i64 n) (.int .i64 m) (.int .i64 dl) (.bool od) (.slice (some ⟨GF, 0, none⟩) N N) (.slice (some ⟨GR, 0, none⟩) N N) (.int .i64 o) v21 v22 v23 v24 (.int .i64 ((d + 1 : Nat) : Int)) v26 v27 v28 v29 v30 v31 v32 v33 a' → Q .normal a' w) : Code.wp Yba.prog (pc [1, 1, 1, 1, 1, 1, 1, 0, 1, 0, 0, 1, 1]) Q a w := by
  obtain ⟨u, rfl⟩ := h.lay
  clear h
  have e : ((d + 1 : Nat) : Int) = (d : Int) + 1 := by omega
  rw [e] at hQ
  clear e
  conv => arg 2; whnf
  go_wp2
  exact ⟨rfl, rfl, rfl, rfl, rfl, rfl, rfl, rfl, rfl, rfl, rfl, rfl, rfl, rfl, rfl, rfl, rfl, rfl, rfl, rfl, rfl, rfl, rfl, rfl, rfl, rfl, rfl⟩
set_option maxRecDepth 20000 in
set_option maxHeartbeats 4000000 in
theorem r10 {d : Nat} (hd : d ≤ 10000) (hn : n ≤ 1000) (hm : m ≤ 1000) (h : Fr (.pointer (some ⟨S, 0, none⟩)) (.int .i64 a0) (.int .i64 a1) (.int .i64 b0) (.int .i64 b1) (.int .i64 n) (.int .i64 m) (.int .i64 dl) (.bool od) (.slice (some ⟨GF, 0, none⟩) N N) (.slice (some ⟨GR, 0, none⟩) N N) (.int .i64 o) v21 v22 v23 v24 (.int .i64 d) v26 v27 v28 v29 v30 v31 v32 v33 a) (hQ : ∀ a', Fr (.pointer (some ⟨S, 0, none⟩)) (.int .i64 a0) (.int .i64 a1) (.int .i64 b0) (.int .i64 b1) (.int .i64 n) (.int .i64 m) (.int .i64 dl) (.bool od) (.slice (some ⟨GF, 0, none⟩) N N) (.slice (some ⟨GR, 0, none⟩) N N) (.int .i64 o) v21 v22 v23 v24 (.int .i64 d) (.int .i64 (loOf (-(d : Int)) (-(m : Int)))) (.int .i64 (hiOf d n)) v28 v29 v30 v31 v32 v33 a' → Q .normal a' w) : Code.wp Yba.prog (pc [1, 1, 1, 1, 1, 1, 1, 0, 1, 0, 0, 1, 0, 0, 0]) Q a w := by
  obtain ⟨u, rfl⟩ := h.lay
  clear h
  conv => arg 2; whnf
  go_wp2_with fail
  refine (diag_any (-(d : Int)) d (-(m : Int)) n _ (by omega) (by omega) (by omega) (by omega) (by omega) (by omega) (by omega) (by omega)).mono ?_
  rintro _ _ ⟨rfl, rfl⟩
  go_wp2
  exact ⟨rfl, rfl, rfl, rfl, rfl, rfl, rfl, rfl, rfl, rfl, rfl, rfl, rfl, rfl, rfl, rfl, rfl, rfl, rfl, rfl, rfl, rfl, rfl, rfl, rfl, rfl, rfl⟩
set_option maxRecDepth 20000 in
set_option maxHeartbeats 4000000 in
theorem r30 {d : Nat} (hd : d ≤ 10000) (hn : n ≤ 1000) (hm : m ≤ 1000) (d1 : -1000 ≤ dl) (d2 : dl ≤ 1000) (h : Fr (.pointer (some ⟨S, 0, none⟩)) (.int .i64 a0) (.int .i64 a1) (.int .i64 b0) (.int .i64 b1) (.int .i64 n) (.int .i64 m) (.int .i64 dl) (.bool od) (.slice (some ⟨GF, 0, none⟩) N N) (.slice (some ⟨GR, 0, none⟩) N N) (.int .i64 o) v21 v22 v23 v24 (.int .i64 d) v26 v27 v28 v29 v30 v31 v32 v33 a) (hQ : ∀ a', Fr (.pointer (some ⟨S, 0, none⟩)) (.int .i64 a0) (.int .i64 a1) (.int .i64 b0) (.int .i64 b1) (.int .i64 n) (.int .i64 m) (.int .i64 dl) (.bool od) (.slice (some ⟨GF, 0, none⟩) N N) (.slice (some ⟨GR, 0, none⟩) N N) (.int .i64 o) v21 v22 v23 v24 (.int .i64 d) (.int .i64 (loOf (dl - d) (-(m : Int)))) (.int .i64 (hiOf (dl + d) n)) v28 v29 v30 v31 v32 v33 a' → Q .normal a' w) : Code.wp Yba.prog (pc [1, 1, 1, 1, 1, 1, 1, 0, 1, 0, 0, 1, 0, 0, 1, 1, 1, 0]) Q a w := by
  obtain ⟨u, rfl⟩ := h.lay
  clear h
  conv => arg 2; whnf
  go_wp2_with fail
  refine (diag_any (dl - d) (dl + d) (-(m : Int)) n _ (by omega) (by omega) (by omega) (by omega) (by omega) (by omega) (by omega) (by omega)).mono ?_
  rintro _ _ ⟨rfl, rfl⟩
  go_wp2
  exact ⟨rfl, rfl, rfl, rfl, rfl, rfl, rfl, rfl, rfl, rfl, rfl, rfl, rfl, rfl, rfl, rfl, rfl, rfl, rfl, rfl, rfl, rfl, rfl, rfl, rfl, rfl, rfl⟩
end Go.Proofs.Ybulkacye
