/-
  Plain theory: the rows of furthest points. No Go in sight.
-/
import Derived.Test.YbulkacyeSnake
namespace Go.Proofs.Ybulkacye.Lcs
set_option linter.unusedSectionVars false
variable {α : Type} [DecidableEq α]

/-- The elements at these places are there and equal. -/
def Mt (a b : List α) (x y : Int) : Prop := ∃ (i j : Nat) (h1 : i < a.length) (h2 : j < b.length), (i : Int) = x ∧ (j : Int) = y ∧ a[i] = b[j]
theorem Mt.mk {a b : List α} {i j : Nat} (h1 : i < a.length) (h2 : j < b.length) (h : a[i] = b[j]) : Mt a b i j := ⟨i, j, h1, h2, rfl, rfl, h⟩
theorem Mt.to {a b : List α} {i j : Nat} (h : Mt a b i j) : ∃ (h1 : i < a.length) (h2 : j < b.length), a[i] = b[j] := by
  obtain ⟨i', j', h1, h2, e1, e2, e3⟩ := h
  have e1' : i' = i := by omega
  have e2' : j' = j := by omega
  subst e1' e2'
  exact ⟨h1, h2, e3⟩

/-- x is a point of diagonal k, reached by d edits or fewer. -/
def Pt (a b : List α) (d k v : Int) : Prop := ∃ x y : Nat, v = x ∧ (x : Int) - y = k ∧ x ≤ a.length ∧ y ≤ b.length ∧ F a b x y ≤ d
/-- Every point of a shortest script on diagonal k at d edits lies behind a run of matches that begins at or ahead of p. -/
def Run (a b : List α) (d k p : Int) : Prop := ∀ x y : Nat, Opt a b x y → F a b x y = d → (x : Int) - y = k → ∃ s x0 y0 : Nat, x = x0 + s ∧ y = y0 + s ∧ (∀ i : Nat, i < s → Mt a b ((x0 + i : Nat) : Int) ((y0 + i : Nat) : Int)) ∧ (x0 : Int) ≤ p

/-- What the row of d edits holds at diagonal k. -/
structure Ent (a b : List α) (d k v : Int) : Prop where
  sound : v = -1 ∨ Pt a b d k v
  full : ∀ x y : Nat, Opt a b x y → F a b x y = d → (x : Int) - y = k → (x : Int) ≤ v

/-- The start of the run on diagonal k, from the row ahead. -/
def pxOf (g : Int → Int) (n m lo hi p0 k : Int) : Int :=
  let p1 := if lo ≤ k + 1 ∧ k + 1 ≤ hi ∧ g (k + 1) ≠ -1 ∧ g (k + 1) - (k + 1) < m then g (k + 1) else p0
  if lo ≤ k - 1 ∧ k - 1 ≤ hi ∧ g (k - 1) ≠ -1 ∧ g (k - 1) < n then max p1 (g (k - 1) + 1) else p1

theorem Pt.down {a b : List α} {d k v : Int} (h : Pt a b d (k + 1) v) (hm : v - (k + 1) < b.length) : Pt a b (d + 1) k v := by
  obtain ⟨x, y, rfl, h1, h2, h3, h4⟩ := h
  have := F_right a b x y (by omega)
  exact ⟨x, y + 1, rfl, by omega, h2, by omega, by omega⟩
theorem Pt.over {a b : List α} {d k v : Int} (h : Pt a b d (k - 1) v) (hn : v < a.length) : Pt a b (d + 1) k (v + 1) := by
  obtain ⟨x, y, rfl, h1, h2, h3, h4⟩ := h
  have := F_left a b x y (by omega)
  exact ⟨x + 1, y, by omega, by omega, by omega, h3, by omega⟩

theorem px_sound {a b : List α} {g : Int → Int} {d k lo hi : Int} (hrow : ∀ k', lo ≤ k' → k' ≤ hi → (k' - d) % 2 = 0 → Ent a b d k' (g k')) (hk : (k - (d + 1)) % 2 = 0) :
    pxOf g a.length b.length lo hi (-1) k = -1 ∨ Pt a b (d + 1) k (pxOf g a.length b.length lo hi (-1) k) := by
  unfold pxOf
  have h1 : ∀ p1, (p1 = if lo ≤ k + 1 ∧ k + 1 ≤ hi ∧ g (k + 1) ≠ -1 ∧ g (k + 1) - (k + 1) < b.length then g (k + 1) else -1) → p1 = -1 ∨ Pt a b (d + 1) k p1 := by
    intro p1 hp
    split at hp
    · rename_i hc
      obtain ⟨c1, c2, c3, c4⟩ := hc
      have := (hrow (k + 1) c1 c2 (by omega)).sound
      rw [hp]
      rcases this with h | h
      · exact absurd h c3
      · exact Or.inr (h.down c4)
    · exact Or.inl hp
  generalize hp : (if lo ≤ k + 1 ∧ k + 1 ≤ hi ∧ g (k + 1) ≠ -1 ∧ g (k + 1) - (k + 1) < b.length then g (k + 1) else -1) = p1
  have h1' := h1 p1 hp.symm
  simp only
  split
  · rename_i hc
    obtain ⟨c1, c2, c3, c4⟩ := hc
    have := (hrow (k - 1) c1 c2 (by omega)).sound
    rcases this with h | h
    · exact absurd h c3
    · have h2 := h.over c4
      rcases h1' with e | e
      · subst e
        obtain ⟨x, y, ex, _⟩ := h2
        have : max (-1) (g (k - 1) + 1) = g (k - 1) + 1 := by omega
        rw [this]
        exact Or.inr (h.over c4)
      · by_cases hle : p1 ≤ g (k - 1) + 1
        · rw [Int.max_eq_right hle]; exact Or.inr h2
        · rw [Int.max_eq_left (by omega)]; exact Or.inr e
  · exact h1'

/-- The guards lose no point of a shortest script. -/
theorem px_full {a b : List α} {g : Int → Int} {d : Int} {k lo hi : Int} (hd : 0 ≤ d) (hrow : ∀ k', lo ≤ k' → k' ≤ hi → (k' - d) % 2 = 0 → Ent a b d k' (g k'))
    (hrange : ∀ k', (k' - d) % 2 = 0 → -d ≤ k' → k' ≤ d → -(b.length : Int) ≤ k' → k' ≤ a.length → lo ≤ k' ∧ k' ≤ hi) (hk : (k - (d + 1)) % 2 = 0) :
    Run a b (d + 1) k (pxOf g a.length b.length lo hi (-1) k) := by
  intro x y ho hf hxy
  obtain ⟨s, x0, y0, rfl, rfl, hs, f0, r0, h⟩ := Opt.pred y ho (by omega)
  refine ⟨s, x0, y0, rfl, rfl, fun i hi => ?_, ?_⟩
  · obtain ⟨h1, h2, h3⟩ := hs i hi
    exact Mt.mk h1 h2 h3
  have hsum := ho.sum
  have hX := ho.hx
  have hY := ho.hy
  rcases h with ⟨x1, rfl, ho1, hf1⟩ | ⟨y1, rfl, ho1, hf1⟩
  · -- a step over, from diagonal k - 1
    have hf1' : F a b x1 y0 = d := by omega
    have habs := F_abs a b x1 y0 ho1.hx ho1.hy
    have hpar := F_parity a b x1 y0 ho1.hx ho1.hy
    obtain ⟨c1, c2⟩ := hrange (k - 1) (by omega) (by omega) (by omega) (by have := ho1.hy; omega) (by have := ho1.hx; omega)
    have hE := hrow (k - 1) c1 c2 (by omega)
    have hv := hE.full x1 y0 ho1 hf1' (by omega)
    rcases hE.sound with h | ⟨X, Y, hXv, hXY, hXn, hYm, hFX⟩
    · omega
    · have hlt : X < a.length := by
        rcases Nat.lt_or_ge X a.length with h | h
        · exact h
        · exfalso
          have hXe : X = a.length := by omega
          subst hXe
          -- the end of diagonal k - 1 lies on the edge
          obtain ⟨t, ht⟩ : ∃ t : Nat, a.length = x1 + t := ⟨a.length - x1, by have := ho1.hx; omega⟩
          have ht1 : 1 ≤ t := by omega
          have hYt : Y = y0 + t := by omega
          have m1 := R_diags a b x1 y0 t (by omega) (by omega)
          rw [← ht, ← hYt] at m1
          have m2 := R_diags a b (x1 + 1) y0 (t - 1) (by omega) (by omega)
          have e1 : x1 + 1 + (t - 1) = a.length := by omega
          have e2 : y0 + (t - 1) = Y - 1 := by omega
          rw [e1, e2, R_end_left a b (Y - 1) (by omega)] at m2
          rw [R_end_left a b Y hYm] at m1
          have t1 := tri a b a.length Y
          rw [R_end_left a b Y hYm] at t1
          have s1 := ho1.sum
          omega
      unfold pxOf
      simp only
      rw [if_pos (c := lo ≤ k - 1 ∧ k - 1 ≤ hi ∧ g (k - 1) ≠ -1 ∧ g (k - 1) < a.length) ⟨c1, c2, by omega, by omega⟩]
      omega
  · -- a step down, from diagonal k + 1
    have hf1' : F a b x0 y1 = d := by omega
    have habs := F_abs a b x0 y1 ho1.hx ho1.hy
    have hpar := F_parity a b x0 y1 ho1.hx ho1.hy
    obtain ⟨c1, c2⟩ := hrange (k + 1) (by omega) (by omega) (by omega) (by have := ho1.hy; omega) (by have := ho1.hx; omega)
    have hE := hrow (k + 1) c1 c2 (by omega)
    have hv := hE.full x0 y1 ho1 hf1' (by omega)
    rcases hE.sound with h | ⟨X, Y, hXv, hXY, hXn, hYm, hFX⟩
    · omega
    · have hlt : Y < b.length := by
        rcases Nat.lt_or_ge Y b.length with h | h
        · exact h
        · exfalso
          have hYe : Y = b.length := by omega
          subst hYe
          obtain ⟨t, ht⟩ : ∃ t : Nat, b.length = y1 + t := ⟨b.length - y1, by have := ho1.hy; omega⟩
          have ht1 : 1 ≤ t := by omega
          have hXt : X = x0 + t := by omega
          have m1 := R_diags a b x0 y1 t (by omega) (by omega)
          rw [← ht, ← hXt] at m1
          have m2 := R_diags a b x0 (y1 + 1) (t - 1) (by omega) (by omega)
          have e1 : y1 + 1 + (t - 1) = b.length := by omega
          have e2 : x0 + (t - 1) = X - 1 := by omega
          rw [e1, e2, R_end_right a b (X - 1) (by omega)] at m2
          rw [R_end_right a b X hXn] at m1
          have t1 := tri a b X b.length
          rw [R_end_right a b X hXn] at t1
          have s1 := ho1.sum
          omega
      have hp1 : (if lo ≤ k + 1 ∧ k + 1 ≤ hi ∧ g (k + 1) ≠ -1 ∧ g (k + 1) - (k + 1) < b.length then g (k + 1) else -1) = g (k + 1) := if_pos ⟨c1, c2, by omega, by omega⟩
      unfold pxOf
      simp only
      rw [hp1]
      split <;> omega

/-- The first round. -/
theorem run_zero (a b : List α) : Run a b 0 0 0 := by
  intro x y ho hf hxy
  have hxy' : x = y := by omega
  subst hxy'
  refine ⟨x, 0, 0, by omega, by omega, fun i hi => ?_, by omega⟩
  have key : ∀ x : Nat, x ≤ a.length → x ≤ b.length → F a b x x = 0 → ∀ i, i < x → Mt a b (i : Int) (i : Int) := by
    intro x
    induction x with
    | zero => intro _ _ _ i hi; omega
    | succ x ih =>
      intro h1 h2 h3 i hi
      by_cases hm : a[x] = b[x]
      · have := F_eq a b x x (by omega) (by omega) hm
        by_cases hix : i < x
        · exact ih (by omega) (by omega) (by omega) i hix
        · have : i = x := by omega
          subst this
          exact Mt.mk (by omega) (by omega) hm
      · have := F_ne a b x x (by omega) (by omega) hm
        have n1 := F_nonneg a b x (x + 1)
        have n2 := F_nonneg a b (x + 1) x
        omega
  have := key x ho.hx ho.hy hf i hi
  simpa using this
theorem pt_zero (a b : List α) : Pt a b 0 0 0 := ⟨0, 0, rfl, rfl, Nat.zero_le _, Nat.zero_le _, by rw [F_start]; exact Int.le_refl _⟩

/-- Behind the run: the row's entry. -/
theorem ent_slide {a b : List α} {d k p ex : Int} (hp : Pt a b d k p) (hr : Run a b d k p) (hle : p ≤ ex) (hm : ∀ i : Int, p ≤ i → i < ex → Mt a b i (i - k)) (stop : ¬ Mt a b ex (ex - k)) : Pt a b d k ex ∧ Ent a b d k ex := by
  have hpt : Pt a b d k ex := by
    obtain ⟨t, ht⟩ : ∃ t : Nat, ex = p + t := ⟨(ex - p).toNat, by omega⟩
    subst ht
    clear stop hr hle
    induction t with
    | zero => simpa using hp
    | succ t ih =>
      obtain ⟨x, y, h1, h2, h3, h4, h5⟩ := ih (fun i h1 h2 => hm i h1 (by omega))
      have hmt := hm (p + t) (by omega) (by omega)
      have e1 : p + (t : Int) = (x : Int) := h1
      have e2 : (x : Int) - k = (y : Int) := by omega
      rw [e1, e2] at hmt
      obtain ⟨g1, g2, g3⟩ := hmt.to
      have := F_eq a b x y g1 g2 g3
      exact ⟨x + 1, y + 1, by omega, by omega, by omega, by omega, by omega⟩
  refine ⟨hpt, Or.inr hpt, fun x y ho hf hxy => ?_⟩
  obtain ⟨s, x0, y0, rfl, rfl, hs, h0⟩ := hr x y ho hf hxy
  rcases (by omega : ex < ((x0 + s : Nat) : Int) ∨ ((x0 + s : Nat) : Int) ≤ ex) with h | h
  · exfalso
    obtain ⟨i, hi⟩ : ∃ i : Nat, ex = ((x0 + i : Nat) : Int) := ⟨(ex - x0).toNat, by omega⟩
    apply stop
    have := hs i (by omega)
    have e : ((y0 + i : Nat) : Int) = ex - k := by omega
    rw [← hi, e] at this
    exact this
  · exact h
/-- .. and where no path comes. -/
theorem ent_none {a b : List α} {d k : Int} (hr : Run a b d k (-1)) : Ent a b d k (-1) :=
  ⟨Or.inl rfl, fun x y ho hf hxy => by
    obtain ⟨s, x0, y0, rfl, rfl, hs, h0⟩ := hr x y ho hf hxy
    omega⟩
end Go.Proofs.Ybulkacye.Lcs
