/-
  Plain theory: the length of a longest common sublist of two lists. No Go in sight.
-/
import Init
namespace Go.Proofs.Ybulkacye.Lcs
variable {α β : Type} [DecidableEq α] [DecidableEq β]

/-- The length of a longest common sublist. -/
def L : List α → List α → Nat
  | [], _ => 0
  | _ :: _, [] => 0
  | x :: a, y :: b => if x = y then L a b + 1 else max (L a (y :: b)) (L (x :: a) b)
termination_by a b => a.length + b.length

theorem L_nil_left (b : List α) : L [] b = 0 := by unfold L; rfl
theorem L_nil_right (a : List α) : L a [] = 0 := by
  cases a with
  | nil => exact L_nil_left []
  | cons x a => unfold L; rfl
theorem L_cons_eq (x : α) (a b : List α) : L (x :: a) (x :: b) = L a b + 1 := by rw [L]; simp
theorem L_cons_ne {x y : α} (a b : List α) (h : x ≠ y) : L (x :: a) (y :: b) = max (L a (y :: b)) (L (x :: a) b) := by rw [L]; simp [h]

/-- No common sublist is longer. -/
theorem L_le (a b s : List α) (ha : s.Sublist a) (hb : s.Sublist b) : s.length ≤ L a b := by
  match a, b with
  | [], b =>
    have : s = [] := List.sublist_nil.1 ha
    subst this; simp
  | x :: a, [] =>
    have : s = [] := List.sublist_nil.1 hb
    subst this; simp
  | x :: a, y :: b =>
    by_cases h : x = y
    · subst h
      rw [L_cons_eq]
      have h1 : s.tail.Sublist a := by simpa using ha.tail
      have h2 : s.tail.Sublist b := by simpa using hb.tail
      have := L_le a b s.tail h1 h2
      have e : s.tail.length = s.length - 1 := by simp
      omega
    · rw [L_cons_ne a b h]
      rcases List.sublist_cons_iff.1 ha with h1 | ⟨r, rfl, h1⟩
      · have := L_le a (y :: b) s h1 hb
        omega
      · rcases List.sublist_cons_iff.1 hb with h2 | ⟨r', e, h2⟩
        · have := L_le (x :: a) b (x :: r) ha h2
          omega
        · simp at e
          exact absurd e.1 h
termination_by a.length + b.length

/-- One is that long. -/
theorem L_ex (a b : List α) : ∃ s : List α, s.Sublist a ∧ s.Sublist b ∧ s.length = L a b := by
  match a, b with
  | [], b => exact ⟨[], by simp, by simp, by rw [L_nil_left]; rfl⟩
  | x :: a, [] => exact ⟨[], by simp, by simp, by rw [L_nil_right]; rfl⟩
  | x :: a, y :: b =>
    by_cases h : x = y
    · subst h
      obtain ⟨s, h1, h2, h3⟩ := L_ex a b
      exact ⟨x :: s, h1.cons_cons x, h2.cons_cons x, by rw [L_cons_eq]; simp [h3]⟩
    · rw [L_cons_ne a b h]
      obtain ⟨s, h1, h2, h3⟩ := L_ex a (y :: b)
      obtain ⟨t, g1, g2, g3⟩ := L_ex (x :: a) b
      by_cases hm : L a (y :: b) ≤ L (x :: a) b
      · exact ⟨t, g1, g2.cons y, by omega⟩
      · exact ⟨s, h1.cons x, h2, by omega⟩
termination_by a.length + b.length

theorem L_app (a b a' b' : List α) : L a b + L a' b' ≤ L (a ++ a') (b ++ b') := by
  obtain ⟨s, h1, h2, h3⟩ := L_ex a b
  obtain ⟨t, g1, g2, g3⟩ := L_ex a' b'
  have := L_le (a ++ a') (b ++ b') (s ++ t) (h1.append g1) (h2.append g2)
  rw [List.length_append] at this
  omega
theorem L_rev_le (a b : List α) : L a b ≤ L a.reverse b.reverse := by
  obtain ⟨s, h1, h2, h3⟩ := L_ex a b
  have := L_le a.reverse b.reverse s.reverse h1.reverse h2.reverse
  rw [List.length_reverse] at this
  omega
theorem L_rev (a b : List α) : L a.reverse b.reverse = L a b := by
  have h1 := L_rev_le a b
  have h2 := L_rev_le a.reverse b.reverse
  rw [List.reverse_reverse, List.reverse_reverse] at h2
  omega
theorem L_len_left (a b : List α) : L a b ≤ a.length := by
  obtain ⟨s, h1, h2, h3⟩ := L_ex a b
  have := h1.length_le
  omega
theorem L_len_right (a b : List α) : L a b ≤ b.length := by
  obtain ⟨s, h1, h2, h3⟩ := L_ex a b
  have := h2.length_le
  omega
theorem L_left (x : α) (a b : List α) : L a b ≤ L (x :: a) b ∧ L (x :: a) b ≤ L a b + 1 := by
  constructor
  · obtain ⟨s, h1, h2, h3⟩ := L_ex a b
    have := L_le (x :: a) b s (h1.cons x) h2
    omega
  · obtain ⟨s, h1, h2, h3⟩ := L_ex (x :: a) b
    have h1' : s.tail.Sublist a := by simpa using h1.tail
    have := L_le a b s.tail h1' ((List.tail_sublist s).trans h2)
    have e : s.tail.length = s.length - 1 := by simp
    omega
theorem L_right (y : α) (a b : List α) : L a b ≤ L a (y :: b) ∧ L a (y :: b) ≤ L a b + 1 := by
  constructor
  · obtain ⟨s, h1, h2, h3⟩ := L_ex a b
    have := L_le a (y :: b) s h1 (h2.cons y)
    omega
  · obtain ⟨s, h1, h2, h3⟩ := L_ex a (y :: b)
    have h2' : s.tail.Sublist b := by simpa using h2.tail
    have := L_le a b s.tail ((List.tail_sublist s).trans h1) h2'
    have e : s.tail.length = s.length - 1 := by simp
    omega
theorem L_diag (x y : α) (a b : List α) : L (x :: a) (y :: b) ≤ L a b + 1 := by
  by_cases h : x = y
  · subst h; rw [L_cons_eq]; exact Nat.le_refl _
  · rw [L_cons_ne a b h]
    have h1 := (L_right y a b).2
    have h2 := (L_left x a b).2
    omega

/-- An injection of the elements keeps it. -/
theorem L_map (f : α → β) (a b : List α) (h : ∀ x ∈ a, ∀ y ∈ b, f x = f y → x = y) : L (a.map f) (b.map f) = L a b := by
  match a, b with
  | [], b => rw [List.map_nil, L_nil_left, L_nil_left]
  | x :: a, [] => rw [List.map_nil, L_nil_right, L_nil_right]
  | x :: a, y :: b =>
    rw [List.map_cons, List.map_cons]
    by_cases e : x = y
    · subst e
      rw [L_cons_eq, L_cons_eq, L_map f a b (fun u hu v hv => h u (by simp [hu]) v (by simp [hv]))]
    · have e' : f x ≠ f y := fun hf => e (h x (by simp) y (by simp) hf)
      rw [L_cons_ne _ _ e, L_cons_ne _ _ e']
      have h1 := L_map f a (y :: b) (fun u hu v hv => h u (by simp [hu]) v hv)
      have h2 := L_map f (x :: a) b (fun u hu v hv => h u hu v (by simp [hv]))
      rw [List.map_cons] at h1 h2
      rw [h1, h2]
termination_by a.length + b.length

/-- What occurs in one list only may be set aside. -/
theorem L_filter (a b : List α) (p q : α → Bool) (hp : ∀ x ∈ b, p x = true) (hq : ∀ x ∈ a, q x = true) : L (a.filter p) (b.filter q) = L a b := by
  apply Nat.le_antisymm
  · obtain ⟨s, h1, h2, h3⟩ := L_ex (a.filter p) (b.filter q)
    have := L_le a b s (h1.trans List.filter_sublist) (h2.trans List.filter_sublist)
    omega
  · obtain ⟨s, h1, h2, h3⟩ := L_ex a b
    have e1 : s.filter p = s := List.filter_eq_self.2 (fun x hx => hp x (h2.subset hx))
    have e2 : s.filter q = s := List.filter_eq_self.2 (fun x hx => hq x (h1.subset hx))
    have g1 := h1.filter p
    have g2 := h2.filter q
    rw [e1] at g1
    rw [e2] at g2
    have := L_le _ _ s g1 g2
    omega
end Go.Proofs.Ybulkacye.Lcs
