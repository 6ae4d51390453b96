/-
  Plain theory: distances in the edit graph of two lists, and what the rows of furthest points hold. No Go in sight.
-/
import Derived.Test.YbulkacyeLcs
namespace Go.Proofs.Ybulkacye.Lcs
set_option linter.unusedSectionVars false
variable {α : Type} [DecidableEq α]

/-- The length of a shortest edit script. -/
def e (a b : List α) : Int := a.length + b.length - 2 * L a b

theorem e_nonneg (a b : List α) : 0 ≤ e a b := by
  have h1 := L_len_left a b
  have h2 := L_len_right a b
  unfold e; omega
theorem e_le (a b : List α) : e a b ≤ a.length + b.length := by unfold e; omega
theorem e_abs (a b : List α) : (a.length : Int) - b.length ≤ e a b ∧ (b.length : Int) - a.length ≤ e a b := by
  have h1 := L_len_left a b
  have h2 := L_len_right a b
  unfold e; omega
theorem e_parity (a b : List α) : (e a b - a.length - b.length) % 2 = 0 := by unfold e; omega
theorem e_nil_left (b : List α) : e [] b = b.length := by unfold e; rw [L_nil_left]; simp
theorem e_nil_right (a : List α) : e a [] = a.length := by unfold e; rw [L_nil_right]; simp
theorem e_app (a b a' b' : List α) : e (a ++ a') (b ++ b') ≤ e a b + e a' b' := by
  have := L_app a b a' b'
  unfold e
  rw [List.length_append, List.length_append]
  omega
theorem e_rev (a b : List α) : e a.reverse b.reverse = e a b := by
  unfold e; rw [L_rev, List.length_reverse, List.length_reverse]
theorem e_cons_eq (x : α) (a b : List α) : e (x :: a) (x :: b) = e a b := by
  unfold e; rw [L_cons_eq, List.length_cons, List.length_cons]; omega
theorem e_cons_ne {x y : α} (a b : List α) (h : x ≠ y) : e (x :: a) (y :: b) = 1 + min (e a (y :: b)) (e (x :: a) b) := by
  unfold e; rw [L_cons_ne a b h]; simp only [List.length_cons]; omega
theorem e_diag (x y : α) (a b : List α) : e a b ≤ e (x :: a) (y :: b) := by
  have := L_diag x y a b
  unfold e; simp only [List.length_cons]; omega
theorem e_left (x : α) (a b : List α) : e (x :: a) b ≤ e a b + 1 ∧ e a b ≤ e (x :: a) b + 1 := by
  have := L_left x a b
  unfold e; simp only [List.length_cons]; omega
theorem e_right (y : α) (a b : List α) : e a (y :: b) ≤ e a b + 1 ∧ e a b ≤ e a (y :: b) + 1 := by
  have := L_right y a b
  unfold e; simp only [List.length_cons]; omega

/-- From the start to (x, y), and from (x, y) to the end. -/
def F (a b : List α) (x y : Nat) : Int := e (a.take x) (b.take y)
def R (a b : List α) (x y : Nat) : Int := e (a.drop x) (b.drop y)

theorem R_eq (a b : List α) (x y : Nat) (hx : x < a.length) (hy : y < b.length) (h : a[x] = b[y]) : R a b x y = R a b (x + 1) (y + 1) := by
  unfold R
  rw [List.drop_eq_getElem_cons hx, List.drop_eq_getElem_cons hy, h, e_cons_eq]
theorem R_ne (a b : List α) (x y : Nat) (hx : x < a.length) (hy : y < b.length) (h : a[x] ≠ b[y]) : R a b x y = 1 + min (R a b (x + 1) y) (R a b x (y + 1)) := by
  unfold R
  rw [List.drop_eq_getElem_cons hx, List.drop_eq_getElem_cons hy, e_cons_ne _ _ h]
theorem R_diag (a b : List α) (x y : Nat) (hx : x < a.length) (hy : y < b.length) : R a b (x + 1) (y + 1) ≤ R a b x y := by
  unfold R
  rw [List.drop_eq_getElem_cons hx, List.drop_eq_getElem_cons hy]
  exact e_diag _ _ _ _
theorem R_left (a b : List α) (x y : Nat) (hx : x < a.length) : R a b x y ≤ R a b (x + 1) y + 1 := by
  unfold R
  rw [List.drop_eq_getElem_cons hx]
  exact (e_left _ _ _).1
theorem R_right (a b : List α) (x y : Nat) (hy : y < b.length) : R a b x y ≤ R a b x (y + 1) + 1 := by
  unfold R
  rw [List.drop_eq_getElem_cons hy]
  exact (e_right _ _ _).1
theorem R_end_left (a b : List α) (y : Nat) (hy : y ≤ b.length) : R a b a.length y = b.length - y := by
  unfold R
  rw [List.drop_length, e_nil_left, List.length_drop]
  omega
theorem R_end_right (a b : List α) (x : Nat) (hx : x ≤ a.length) : R a b x b.length = a.length - x := by
  unfold R
  rw [List.drop_length, e_nil_right, List.length_drop]
  omega
/-- Along a diagonal. -/
theorem R_diags (a b : List α) (x y s : Nat) (hx : x + s ≤ a.length) (hy : y + s ≤ b.length) : R a b (x + s) (y + s) ≤ R a b x y := by
  induction s with
  | zero => exact Int.le_refl _
  | succ s ih =>
    have h1 := R_diag a b (x + s) (y + s) (by omega) (by omega)
    have h2 := ih (by omega) (by omega)
    show R a b (x + s + 1) (y + s + 1) ≤ _
    omega

theorem take_rev (a : List α) (x : Nat) : (a.take x).reverse = a.reverse.drop (a.length - x) := List.reverse_take
theorem F_rev (a b : List α) (x y : Nat) : F a b x y = R a.reverse b.reverse (a.length - x) (b.length - y) := by
  unfold F R
  rw [← e_rev, take_rev, take_rev]
theorem R_rev (a b : List α) (x y : Nat) : R a b x y = F a.reverse b.reverse (a.length - x) (b.length - y) := by
  unfold F R
  rw [← e_rev, List.reverse_drop, List.reverse_drop]

theorem rev_at (a : List α) (x : Nat) (hx : x < a.length) (h : a.length - (x + 1) < a.reverse.length) : a.reverse[a.length - (x + 1)] = a[x] := by
  rw [List.getElem_reverse]
  congr 1
  omega

theorem F_eq (a b : List α) (x y : Nat) (hx : x < a.length) (hy : y < b.length) (h : a[x] = b[y]) : F a b (x + 1) (y + 1) = F a b x y := by
  rw [F_rev, F_rev]
  have h1 : a.length - x = a.length - (x + 1) + 1 := by omega
  have h2 : b.length - y = b.length - (y + 1) + 1 := by omega
  rw [h1, h2]
  apply R_eq _ _ _ _ (by simp; omega) (by simp; omega)
  rw [rev_at a x hx, rev_at b y hy, h]
theorem F_ne (a b : List α) (x y : Nat) (hx : x < a.length) (hy : y < b.length) (h : a[x] ≠ b[y]) : F a b (x + 1) (y + 1) = 1 + min (F a b x (y + 1)) (F a b (x + 1) y) := by
  rw [F_rev, F_rev a b x, F_rev a b (x + 1) y]
  have h1 : a.length - x = a.length - (x + 1) + 1 := by omega
  have h2 : b.length - y = b.length - (y + 1) + 1 := by omega
  rw [h1, h2]
  apply R_ne _ _ _ _ (by simp; omega) (by simp; omega)
  rw [rev_at a x hx, rev_at b y hy]
  exact h
theorem F_left (a b : List α) (x y : Nat) (hx : x < a.length) : F a b (x + 1) y ≤ F a b x y + 1 := by
  rw [F_rev, F_rev a b x]
  have h1 : a.length - x = a.length - (x + 1) + 1 := by omega
  rw [h1]
  exact R_left _ _ _ _ (by simp; omega)
theorem F_right (a b : List α) (x y : Nat) (hy : y < b.length) : F a b x (y + 1) ≤ F a b x y + 1 := by
  rw [F_rev, F_rev a b x y]
  have h1 : b.length - y = b.length - (y + 1) + 1 := by omega
  rw [h1]
  exact R_right _ _ _ _ (by simp; omega)
theorem F_zero_left (a b : List α) (y : Nat) (hy : y ≤ b.length) : F a b 0 y = y := by
  unfold F; rw [List.take_zero, e_nil_left, List.length_take]; omega
theorem F_zero_right (a b : List α) (x : Nat) (hx : x ≤ a.length) : F a b x 0 = x := by
  unfold F; rw [List.take_zero, e_nil_right, List.length_take]; omega
theorem F_nonneg (a b : List α) (x y : Nat) : 0 ≤ F a b x y := e_nonneg _ _
theorem R_nonneg (a b : List α) (x y : Nat) : 0 ≤ R a b x y := e_nonneg _ _
theorem F_abs (a b : List α) (x y : Nat) (hx : x ≤ a.length) (hy : y ≤ b.length) : (x : Int) - y ≤ F a b x y ∧ (y : Int) - x ≤ F a b x y := by
  have := e_abs (a.take x) (b.take y)
  rw [List.length_take, List.length_take, Nat.min_eq_left hx, Nat.min_eq_left hy] at this
  exact this
theorem F_parity (a b : List α) (x y : Nat) (hx : x ≤ a.length) (hy : y ≤ b.length) : (F a b x y - x - y) % 2 = 0 := by
  have := e_parity (a.take x) (b.take y)
  rw [List.length_take, List.length_take, Nat.min_eq_left hx, Nat.min_eq_left hy] at this
  exact this
theorem tri (a b : List α) (x y : Nat) : e a b ≤ F a b x y + R a b x y := by
  have := e_app (a.take x) (b.take y) (a.drop x) (b.drop y)
  rw [List.take_append_drop, List.take_append_drop] at this
  exact this
theorem F_end (a b : List α) : F a b a.length b.length = e a b := by unfold F; rw [List.take_length, List.take_length]
theorem R_start (a b : List α) : R a b 0 0 = e a b := by unfold R; simp
theorem R_end (a b : List α) : R a b a.length b.length = 0 := by rw [R_end_left _ _ _ (Nat.le_refl _)]; omega
theorem F_start (a b : List α) : F a b 0 0 = 0 := by rw [F_zero_left _ _ _ (Nat.zero_le _)]; rfl

/-- A point that a shortest script passes. -/
structure Opt (a b : List α) (x y : Nat) : Prop where
  hx : x ≤ a.length
  hy : y ≤ b.length
  sum : F a b x y + R a b x y = e a b

/-- Where a point of a shortest script came from: a run of matches, and one edit ahead of it. -/
theorem Opt.pred {a b : List α} : ∀ (y : Nat) {x : Nat}, Opt a b x y → 1 ≤ F a b x y →
    ∃ s x0 y0, x = x0 + s ∧ y = y0 + s ∧ (∀ i, i < s → ∃ (h1 : x0 + i < a.length) (h2 : y0 + i < b.length), a[x0 + i] = b[y0 + i]) ∧ F a b x0 y0 = F a b x y ∧ R a b x0 y0 = R a b x y ∧
      ((∃ x1, x0 = x1 + 1 ∧ Opt a b x1 y0 ∧ F a b x1 y0 = F a b x y - 1) ∨ (∃ y1, y0 = y1 + 1 ∧ Opt a b x0 y1 ∧ F a b x0 y1 = F a b x y - 1))
  | 0, x, h, h1 => by
    have hx := h.hx
    cases x with
    | zero => rw [F_start] at h1; omega
    | succ x =>
      refine ⟨0, x + 1, 0, rfl, rfl, fun i hi => absurd hi (by omega), rfl, rfl, Or.inl ⟨x, rfl, ?_⟩⟩
      have e1 := F_zero_right a b x (by omega)
      have e2 := F_zero_right a b (x + 1) (by omega)
      have e3 := R_left a b x 0 (by omega)
      have e4 := tri a b x 0
      have e5 := h.sum
      exact ⟨⟨by omega, by omega, by omega⟩, by omega⟩
  | y + 1, x, h, h1 => by
    have hx := h.hx
    have hy := h.hy
    cases x with
    | zero =>
      refine ⟨0, 0, y + 1, rfl, rfl, fun i hi => absurd hi (by omega), rfl, rfl, Or.inr ⟨y, rfl, ?_⟩⟩
      have e1 := F_zero_left a b y (by omega)
      have e2 := F_zero_left a b (y + 1) (by omega)
      have e3 := R_right a b 0 y (by omega)
      have e4 := tri a b 0 y
      have e5 := h.sum
      exact ⟨⟨by omega, by omega, by omega⟩, by omega⟩
    | succ x =>
      by_cases hm : a[x] = b[y]
      · have f1 := F_eq a b x y (by omega) (by omega) hm
        have r1 := R_eq a b x y (by omega) (by omega) hm
        have ho : Opt a b x y := ⟨by omega, by omega, by have := h.sum; omega⟩
        obtain ⟨s, x0, y0, rfl, rfl, hs, e1, e2, e3⟩ := Opt.pred y ho (by omega)
        refine ⟨s + 1, x0, y0, rfl, rfl, fun i hi => ?_, by omega, by omega, ?_⟩
        · by_cases his : i < s
          · exact hs i his
          · have : i = s := by omega
            subst this
            exact ⟨by omega, by omega, hm⟩
        · rw [f1]; exact e3
      · have f1 := F_ne a b x y (by omega) (by omega) hm
        have e5 := h.sum
        by_cases hc : F a b x (y + 1) ≤ F a b (x + 1) y
        · have e3 := R_left a b x (y + 1) (by omega)
          have e4 := tri a b x (y + 1)
          exact ⟨0, x + 1, y + 1, rfl, rfl, fun i hi => absurd hi (by omega), rfl, rfl, Or.inl ⟨x, rfl, ⟨by omega, by omega, by omega⟩, by omega⟩⟩
        · have e3 := R_right a b (x + 1) y (by omega)
          have e4 := tri a b (x + 1) y
          exact ⟨0, x + 1, y + 1, rfl, rfl, fun i hi => absurd hi (by omega), rfl, rfl, Or.inr ⟨y, rfl, ⟨by omega, by omega, by omega⟩, by omega⟩⟩

/-- At each number of edits a shortest script has a point. -/
theorem Opt.at (a b : List α) (t : Nat) (ht : (t : Int) ≤ e a b) : ∃ x y, Opt a b x y ∧ F a b x y = t := by
  obtain ⟨u, hu⟩ : ∃ u : Nat, e a b = t + u := ⟨(e a b - t).toNat, by omega⟩
  clear ht
  induction u generalizing t with
  | zero => exact ⟨a.length, b.length, ⟨Nat.le_refl _, Nat.le_refl _, by rw [F_end, R_end]; omega⟩, by rw [F_end]; omega⟩
  | succ u ih =>
    obtain ⟨x, y, ho, hf⟩ := ih (t + 1) (by omega)
    obtain ⟨s, x0, y0, _, _, _, _, _, h | h⟩ := Opt.pred y ho (by omega)
    · obtain ⟨x1, _, h1, h2⟩ := h
      exact ⟨x1, y0, h1, by omega⟩
    · obtain ⟨y1, _, h1, h2⟩ := h
      exact ⟨x0, y1, h1, by omega⟩
end Go.Proofs.Ybulkacye.Lcs
