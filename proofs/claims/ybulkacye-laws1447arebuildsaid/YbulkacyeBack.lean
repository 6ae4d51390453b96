/-
  Plain theory: the rows from the end, and where the two meet. No Go in sight.
-/
import Derived.Test.YbulkacyeRow
namespace Go.Proofs.Ybulkacye.Lcs
set_option linter.unusedSectionVars false
variable {α : Type} [DecidableEq α]

theorem F_diag (a b : List α) (x y : Nat) (hx : x < a.length) (hy : y < b.length) : F a b x y ≤ F a b (x + 1) (y + 1) := by
  rw [F_rev, F_rev a b (x + 1)]
  have h1 : a.length - x = a.length - (x + 1) + 1 := by omega
  have h2 : b.length - y = b.length - (y + 1) + 1 := by omega
  rw [h1, h2]
  exact R_diag _ _ _ _ (by simp; omega) (by simp; omega)
theorem F_diags (a b : List α) (x y s : Nat) (hx : x + s ≤ a.length) (hy : y + s ≤ b.length) : F a b x y ≤ F a b (x + s) (y + s) := by
  induction s with
  | zero => exact Int.le_refl _
  | succ s ih =>
    have h1 := F_diag a b (x + s) (y + s) (by omega) (by omega)
    have h2 := ih (by omega) (by omega)
    show _ ≤ F a b (x + s + 1) (y + s + 1)
    omega
theorem R_abs (a b : List α) (x y : Nat) (hx : x ≤ a.length) (hy : y ≤ b.length) : ((a.length : Int) - x) - (b.length - y) ≤ R a b x y ∧ ((b.length : Int) - y) - (a.length - x) ≤ R a b x y := by
  have := e_abs (a.drop x) (b.drop y)
  rw [List.length_drop, List.length_drop] at this
  unfold R
  omega
theorem R_parity (a b : List α) (x y : Nat) (hx : x ≤ a.length) (hy : y ≤ b.length) : (R a b x y - (a.length - x) - (b.length - y)) % 2 = 0 := by
  have := e_parity (a.drop x) (b.drop y)
  rw [List.length_drop, List.length_drop] at this
  unfold R
  omega

/-- Where a point of a shortest script goes: a run of matches, and one edit behind it. -/
theorem Opt.succ {a b : List α} : ∀ (t : Nat) {x y : Nat}, b.length - y = t → Opt a b x y → 1 ≤ R a b x y →
    ∃ s x1 y1, x1 = x + s ∧ y1 = y + s ∧ (∀ i, i < s → ∃ (h1 : x + i < a.length) (h2 : y + i < b.length), a[x + i] = b[y + i]) ∧ F a b x1 y1 = F a b x y ∧ R a b x1 y1 = R a b x y ∧
      ((x1 < a.length ∧ Opt a b (x1 + 1) y1 ∧ R a b (x1 + 1) y1 = R a b x y - 1) ∨ (y1 < b.length ∧ Opt a b x1 (y1 + 1) ∧ R a b x1 (y1 + 1) = R a b x y - 1))
  | 0, x, y, ht, h, h1 => by
    have hx := h.hx
    have hy := h.hy
    have hye : y = b.length := by omega
    subst hye
    have e2 := R_end_right a b x hx
    have e1 := R_end_right a b (x + 1) (by omega)
    have e3 := F_left a b x b.length (by omega)
    have e4 := tri a b (x + 1) b.length
    have e5 := h.sum
    exact ⟨0, x, b.length, rfl, rfl, fun i hi => absurd hi (by omega), rfl, rfl, Or.inl ⟨by omega, ⟨by omega, by omega, by omega⟩, by omega⟩⟩
  | t + 1, x, y, ht, h, h1 => by
    have hx := h.hx
    have hy := h.hy
    rcases Nat.lt_or_ge x a.length with hlt | hge
    · by_cases hm : a[x] = b[y]'(by omega)
      · have f1 := F_eq a b x y (by omega) (by omega) hm
        have r1 := R_eq a b x y (by omega) (by omega) hm
        have ho : Opt a b (x + 1) (y + 1) := ⟨by omega, by omega, by have := h.sum; omega⟩
        obtain ⟨s, x1, y1, rfl, rfl, hs, e1, e2, e3⟩ := Opt.succ t (by omega) ho (by omega)
        refine ⟨s + 1, x + 1 + s, y + 1 + s, by omega, by omega, fun i hi => ?_, by omega, by omega, ?_⟩
        · cases i with
          | zero => exact ⟨by omega, by omega, hm⟩
          | succ i =>
            obtain ⟨g1, g2, g3⟩ := hs i (by omega)
            have q1 : x + (i + 1) = x + 1 + i := by omega
            have q2 : y + (i + 1) = y + 1 + i := by omega
            refine ⟨by omega, by omega, ?_⟩
            simp only [q1, q2]
            exact g3
        · rw [r1]; exact e3
      · have f1 := R_ne a b x y (by omega) (by omega) hm
        have e5 := h.sum
        by_cases hc : R a b (x + 1) y ≤ R a b x (y + 1)
        · have e3 := F_left a b x y (by omega)
          have e4 := tri a b (x + 1) y
          exact ⟨0, x, y, rfl, rfl, fun i hi => absurd hi (by omega), rfl, rfl, Or.inl ⟨by omega, ⟨by omega, by omega, by omega⟩, by omega⟩⟩
        · have e3 := F_right a b x y (by omega)
          have e4 := tri a b x (y + 1)
          exact ⟨0, x, y, rfl, rfl, fun i hi => absurd hi (by omega), rfl, rfl, Or.inr ⟨by omega, ⟨by omega, by omega, by omega⟩, by omega⟩⟩
    · have hxe : x = a.length := by omega
      subst hxe
      have e2 := R_end_left a b y hy
      have e1 := R_end_left a b (y + 1) (by omega)
      have e3 := F_right a b a.length y (by omega)
      have e4 := tri a b a.length (y + 1)
      have e5 := h.sum
      exact ⟨0, a.length, y, rfl, rfl, fun i hi => absurd hi (by omega), rfl, rfl, Or.inr ⟨by omega, ⟨by omega, by omega, by omega⟩, by omega⟩⟩

/-- The mark of a diagonal that no path from the end reaches. -/
def U : Int := 4611686018427387904
def RPt (a b : List α) (d k v : Int) : Prop := ∃ x y : Nat, v = x ∧ (x : Int) - y = k ∧ x ≤ a.length ∧ y ≤ b.length ∧ R a b x y ≤ d
def RRun (a b : List α) (d k p : Int) : Prop := ∀ x y : Nat, Opt a b x y → R a b x y = d → (x : Int) - y = k → ∃ s : Nat, (∀ i : Nat, i < s → Mt a b ((x + i : Nat) : Int) ((y + i : Nat) : Int)) ∧ p ≤ ((x + s : Nat) : Int)
structure REnt (a b : List α) (d k v : Int) : Prop where
  sound : v = U ∨ RPt a b d k v
  full : ∀ x y : Nat, Opt a b x y → R a b x y = d → (x : Int) - y = k → v ≤ (x : Int)

def rpxOf (g : Int → Int) (lo hi p0 k : Int) : Int :=
  let p1 := if lo ≤ k - 1 ∧ k - 1 ≤ hi ∧ g (k - 1) ≠ U ∧ 0 < g (k - 1) - (k - 1) then g (k - 1) else p0
  if lo ≤ k + 1 ∧ k + 1 ≤ hi ∧ g (k + 1) ≠ U ∧ 0 < g (k + 1) then min p1 (g (k + 1) - 1) else p1

theorem RPt.up {a b : List α} {d k v : Int} (h : RPt a b d (k - 1) v) (hm : 0 < v - (k - 1)) : RPt a b (d + 1) k v := by
  obtain ⟨x, y, rfl, h1, h2, h3, h4⟩ := h
  obtain ⟨y', rfl⟩ : ∃ y', y = y' + 1 := ⟨y - 1, by omega⟩
  have := R_right a b x y' (by omega)
  exact ⟨x, y', rfl, by omega, h2, by omega, by omega⟩
theorem RPt.back {a b : List α} {d k v : Int} (h : RPt a b d (k + 1) v) (hn : 0 < v) : RPt a b (d + 1) k (v - 1) := by
  obtain ⟨x, y, rfl, h1, h2, h3, h4⟩ := h
  obtain ⟨x', rfl⟩ : ∃ x', x = x' + 1 := ⟨x - 1, by omega⟩
  have := R_left a b x' y (by omega)
  exact ⟨x', y, by omega, by omega, by omega, h3, by omega⟩

theorem rpx_sound {a b : List α} {g : Int → Int} {d k lo hi : Int} (hn : (a.length : Int) < U) (hrow : ∀ k', lo ≤ k' → k' ≤ hi → (k' - (a.length - b.length) - d) % 2 = 0 → REnt a b d k' (g k')) (hk : (k - (a.length - b.length) - (d + 1)) % 2 = 0) :
    rpxOf g lo hi U k = U ∨ RPt a b (d + 1) k (rpxOf g lo hi U k) := by
  unfold rpxOf
  have h1 : ∀ p1, (p1 = if lo ≤ k - 1 ∧ k - 1 ≤ hi ∧ g (k - 1) ≠ U ∧ 0 < g (k - 1) - (k - 1) then g (k - 1) else U) → p1 = U ∨ RPt a b (d + 1) k p1 := by
    intro p1 hp
    split at hp
    · rename_i hc
      obtain ⟨c1, c2, c3, c4⟩ := hc
      have := (hrow (k - 1) c1 c2 (by omega)).sound
      rw [hp]
      rcases this with h | h
      · exact absurd h c3
      · exact Or.inr (h.up c4)
    · exact Or.inl hp
  generalize hp : (if lo ≤ k - 1 ∧ k - 1 ≤ hi ∧ g (k - 1) ≠ U ∧ 0 < g (k - 1) - (k - 1) then g (k - 1) else U) = p1
  have h1' := h1 p1 hp.symm
  simp only
  split
  · rename_i hc
    obtain ⟨c1, c2, c3, c4⟩ := hc
    have := (hrow (k + 1) c1 c2 (by omega)).sound
    rcases this with h | h
    · exact absurd h c3
    · have h2 := h.back c4
      rcases h1' with e | e
      · subst e
        obtain ⟨x, y, ex, _, hxn, _⟩ := h
        have : min U (g (k + 1) - 1) = g (k + 1) - 1 := by omega
        rw [this]
        exact Or.inr h2
      · by_cases hle : g (k + 1) - 1 ≤ p1
        · rw [Int.min_eq_right hle]; exact Or.inr h2
        · rw [Int.min_eq_left (by omega)]; exact Or.inr e
  · exact h1'

theorem rpx_full {a b : List α} {g : Int → Int} {d : Int} {k lo hi : Int} (hd : 0 ≤ d) (hn : (a.length : Int) < U) (hrow : ∀ k', lo ≤ k' → k' ≤ hi → (k' - (a.length - b.length) - d) % 2 = 0 → REnt a b d k' (g k'))
    (hrange : ∀ k', (k' - (a.length - b.length) - d) % 2 = 0 → (a.length - b.length : Int) - d ≤ k' → k' ≤ (a.length - b.length : Int) + d → -(b.length : Int) ≤ k' → k' ≤ a.length → lo ≤ k' ∧ k' ≤ hi) (hk : (k - (a.length - b.length) - (d + 1)) % 2 = 0) :
    RRun a b (d + 1) k (rpxOf g lo hi U k) := by
  intro x y ho hf hxy
  obtain ⟨s, x1, y1, rfl, rfl, hs, f0, r0, h⟩ := Opt.succ _ rfl ho (by omega)
  refine ⟨s, fun i hi => ?_, ?_⟩
  · obtain ⟨h1, h2, h3⟩ := hs i hi
    exact Mt.mk h1 h2 h3
  have hsum := ho.sum
  have hX := ho.hx
  have hY := ho.hy
  rcases h with ⟨hlt1, ho1, hf1⟩ | ⟨hlt1, ho1, hf1⟩
  · have hf1' : R a b (x + s + 1) (y + s) = d := by omega
    have habs := R_abs a b (x + s + 1) (y + s) ho1.hx ho1.hy
    have hpar := R_parity a b (x + s + 1) (y + s) ho1.hx ho1.hy
    have hoy := ho1.hy
    have hox := ho1.hx
    obtain ⟨c1, c2⟩ := hrange (k + 1) (by omega) (by omega) (by omega) (by omega) (by omega)
    have hE := hrow (k + 1) c1 c2 (by omega)
    have hv := hE.full (x + s + 1) (y + s) ho1 hf1' (by omega)
    rcases hE.sound with h | ⟨X, Y, hXv, hXY, hXn, hYm, hFX⟩
    · omega
    · have hpos : 0 < X := by
        rcases Nat.eq_zero_or_pos X with h | h
        · exfalso
          subst h
          have hYe : Y + (x + s + 1) = y + s := by omega
          have m1 := F_diags a b 0 Y (x + s + 1) (by omega) (by omega)
          rw [Nat.zero_add, hYe, F_zero_left a b Y hYm] at m1
          have m2 := F_diags a b 0 (Y + 1) (x + s) (by omega) (by omega)
          have e2 : Y + 1 + (x + s) = y + s := by omega
          rw [Nat.zero_add, e2, F_zero_left a b (Y + 1) (by omega)] at m2
          have t1 := tri a b 0 Y
          rw [F_zero_left a b Y hYm] at t1
          have s1 := ho1.sum
          omega
        · exact h
      unfold rpxOf
      simp only
      rw [if_pos (c := lo ≤ k + 1 ∧ k + 1 ≤ hi ∧ g (k + 1) ≠ U ∧ 0 < g (k + 1)) ⟨c1, c2, by omega, by omega⟩]
      omega
  · have hf1' : R a b (x + s) (y + s + 1) = d := by omega
    have habs := R_abs a b (x + s) (y + s + 1) ho1.hx ho1.hy
    have hpar := R_parity a b (x + s) (y + s + 1) ho1.hx ho1.hy
    have hoy := ho1.hy
    have hox := ho1.hx
    obtain ⟨c1, c2⟩ := hrange (k - 1) (by omega) (by omega) (by omega) (by omega) (by omega)
    have hE := hrow (k - 1) c1 c2 (by omega)
    have hv := hE.full (x + s) (y + s + 1) ho1 hf1' (by omega)
    rcases hE.sound with h | ⟨X, Y, hXv, hXY, hXn, hYm, hFX⟩
    · omega
    · have hpos : 0 < Y := by
        rcases Nat.eq_zero_or_pos Y with h | h
        · exfalso
          subst h
          have hXe : X + (y + s + 1) = x + s := by omega
          have m1 := F_diags a b X 0 (y + s + 1) (by omega) (by omega)
          rw [Nat.zero_add, hXe, F_zero_right a b X hXn] at m1
          have m2 := F_diags a b (X + 1) 0 (y + s) (by omega) (by omega)
          have e2 : X + 1 + (y + s) = x + s := by omega
          rw [Nat.zero_add, e2, F_zero_right a b (X + 1) (by omega)] at m2
          have t1 := tri a b X 0
          rw [F_zero_right a b X hXn] at t1
          have s1 := ho1.sum
          omega
        · exact h
      have hp1 : (if lo ≤ k - 1 ∧ k - 1 ≤ hi ∧ g (k - 1) ≠ U ∧ 0 < g (k - 1) - (k - 1) then g (k - 1) else U) = g (k - 1) := if_pos ⟨c1, c2, by omega, by omega⟩
      unfold rpxOf
      simp only
      rw [hp1]
      split <;> omega

theorem rrun_zero (a b : List α) : RRun a b 0 ((a.length : Int) - b.length) a.length := by
  intro x y ho hf hxy
  have hx := ho.hx
  have hy := ho.hy
  obtain ⟨s, hs⟩ : ∃ s, a.length = x + s := ⟨a.length - x, by omega⟩
  refine ⟨s, fun i hi => ?_, by omega⟩
  have key : ∀ (s x y : Nat), a.length = x + s → b.length = y + s → R a b x y = 0 → ∀ i, i < s → Mt a b ((x + i : Nat) : Int) ((y + i : Nat) : Int) := by
    intro s
    induction s with
    | zero => intro _ _ _ _ _ i hi; omega
    | succ s ih =>
      intro x y h1 h2 h3 i hi
      by_cases hm : a[x]'(by omega) = b[y]'(by omega)
      · have := R_eq a b x y (by omega) (by omega) hm
        cases i with
        | zero => exact Mt.mk (by omega) (by omega) hm
        | succ i =>
          have := ih (x + 1) (y + 1) (by omega) (by omega) (by omega) i (by omega)
          have q1 : x + (i + 1) = x + 1 + i := by omega
          have q2 : y + (i + 1) = y + 1 + i := by omega
          rw [q1, q2]
          exact this
      · have := R_ne a b x y (by omega) (by omega) hm
        have n1 := R_nonneg a b x (y + 1)
        have n2 := R_nonneg a b (x + 1) y
        omega
  exact key s x y hs (by omega) hf i hi
theorem rpt_zero (a b : List α) : RPt a b 0 ((a.length : Int) - b.length) a.length := ⟨a.length, b.length, rfl, rfl, Nat.le_refl _, Nat.le_refl _, by rw [R_end]; exact Int.le_refl _⟩

theorem rent_slide {a b : List α} {d k p sx : Int} (hp : RPt a b d k p) (hr : RRun a b d k p) (hle : sx ≤ p) (hm : ∀ i : Int, sx ≤ i → i < p → Mt a b i (i - k)) (stop : ¬ Mt a b (sx - 1) (sx - k - 1)) : RPt a b d k sx ∧ REnt a b d k sx := by
  have hpt : RPt a b d k sx := by
    obtain ⟨t, ht⟩ : ∃ t : Nat, p = sx + t := ⟨(p - sx).toNat, by omega⟩
    subst ht
    clear stop hr hle
    induction t generalizing sx with
    | zero => simpa using hp
    | succ t ih =>
      have := ih (sx := sx + 1) (by have e : sx + 1 + (t : Int) = sx + ((t + 1 : Nat) : Int) := by omega
                                    rw [e]; exact hp) (fun i h1 h2 => hm i (by omega) (by omega))
      obtain ⟨x, y, h1, h2, h3, h4, h5⟩ := this
      obtain ⟨i, j, g1, g2, e1, e2, e3⟩ := hm sx (by omega) (by omega)
      have hx : x = i + 1 := by omega
      have hy : y = j + 1 := by omega
      subst hx hy
      have := R_eq a b i j g1 g2 e3
      exact ⟨i, j, by omega, by omega, by omega, by omega, by omega⟩
  refine ⟨hpt, Or.inr hpt, fun x y ho hf hxy => ?_⟩
  obtain ⟨s, hs, h0⟩ := hr x y ho hf hxy
  rcases (by omega : (x : Int) < sx ∨ sx ≤ x) with h | h
  · exfalso
    obtain ⟨i, hi⟩ : ∃ i : Nat, sx - 1 = ((x + i : Nat) : Int) := ⟨(sx - 1 - x).toNat, by omega⟩
    apply stop
    have := hs i (by omega)
    have e : ((y + i : Nat) : Int) = sx - k - 1 := by omega
    rw [← hi, e] at this
    exact this
  · exact h
theorem rent_none {a b : List α} {d k : Int} (hn : (a.length : Int) < U) (hr : RRun a b d k U) : REnt a b d k U :=
  ⟨Or.inl rfl, fun x y ho hf hxy => by
    obtain ⟨s, hs, h0⟩ := hr x y ho hf hxy
    have hx := ho.hx
    cases s with
    | zero => omega
    | succ s =>
      obtain ⟨h1, h2, _⟩ := (hs s (by omega)).to
      omega⟩
end Go.Proofs.Ybulkacye.Lcs
