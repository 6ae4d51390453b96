import Derived.Test.YbulkacyeDiag
namespace Go.Proofs.Ybulkacye
open Go.Proofs.Ybulkacye.Lcs
set_option linter.unusedVariables false

/-- The forward row ahead of round d. -/
def Ahead (A B : List Int) (d : Nat) (g : Int → Int) (lo hi : Int) : Prop :=
  (d = 0 → lo = 1 ∧ hi = 0) ∧ ∀ e : Nat, d = e + 1 → (∀ k' : Int, lo ≤ k' → k' ≤ hi → (k' - e) % 2 = 0 → Ent A B e k' (g k')) ∧ (∀ k' : Int, (k' - e) % 2 = 0 → -(e : Int) ≤ k' → k' ≤ e → -(B.length : Int) ≤ k' → k' ≤ A.length → lo ≤ k' ∧ k' ≤ hi)
/-- The backward row ahead of round d. -/
def RAhead (A B : List Int) (d : Nat) (g : Int → Int) (lo hi : Int) : Prop :=
  (d = 0 → lo = 1 ∧ hi = 0) ∧ ∀ e : Nat, d = e + 1 → (∀ k' : Int, lo ≤ k' → k' ≤ hi → (k' - (A.length - B.length) - e) % 2 = 0 → REnt A B e k' (g k')) ∧ (∀ k' : Int, (k' - (A.length - B.length) - e) % 2 = 0 → (A.length - B.length : Int) - e ≤ k' → k' ≤ (A.length - B.length : Int) + e → -(B.length : Int) ≤ k' → k' ≤ A.length → lo ≤ k' ∧ k' ≤ hi)

theorem pt_bd {A B : List Int} {d k v : Int} (h : Pt A B d k v) : 0 ≤ v ∧ v ≤ A.length ∧ 0 ≤ v - k ∧ v - k ≤ B.length := by
  obtain ⟨x, y, rfl, h1, h2, h3, h4⟩ := h
  omega
theorem rpt_bd {A B : List Int} {d k v : Int} (h : RPt A B d k v) : 0 ≤ v ∧ v ≤ A.length ∧ 0 ≤ v - k ∧ v - k ≤ B.length := by
  obtain ⟨x, y, rfl, h1, h2, h3, h4⟩ := h
  omega

theorem Ahead.px {A B : List Int} {d : Nat} {g : Int → Int} {lo hi k : Int} (h : Ahead A B d g lo hi) (hk : (k - d) % 2 = 0) (h0 : d = 0 → k = 0) :
    (pxOf g A.length B.length lo hi (if d = 0 then 0 else -1) k = -1 ∨ Pt A B d k (pxOf g A.length B.length lo hi (if d = 0 then 0 else -1) k)) ∧ Run A B d k (pxOf g A.length B.length lo hi (if d = 0 then 0 else -1) k) := by
  cases d with
  | zero =>
    obtain ⟨h1, h2⟩ := h.1 rfl
    have hk0 := h0 rfl
    subst hk0 h1 h2
    have e : pxOf g A.length B.length 1 0 (if (0 : Nat) = 0 then 0 else -1) 0 = 0 := by
      unfold pxOf
      simp
    rw [e]
    exact ⟨.inr (pt_zero A B), run_zero A B⟩
  | succ d =>
    obtain ⟨h1, h2⟩ := h.2 d rfl
    rw [if_neg (by omega)]
    have hk' : (k - ((d : Int) + 1)) % 2 = 0 := by omega
    have e1 := px_sound h1 hk'
    have e2 := px_full (by omega) h1 h2 hk'
    exact ⟨e1, e2⟩
theorem Ahead.bound {A B : List Int} {d : Nat} {g : Int → Int} {lo hi k : Int} (h : Ahead A B d g lo hi) (hk : (k - d) % 2 = 1) (h1 : lo ≤ k) (h2 : k ≤ hi) : -1 ≤ g k ∧ g k ≤ A.length := by
  cases d with
  | zero =>
    have := h.1 rfl
    omega
  | succ d =>
    obtain ⟨h3, h4⟩ := h.2 d rfl
    rcases (h3 k h1 h2 (by omega)).sound with e | e
    · omega
    · have := pt_bd e; omega
theorem RAhead.px {A B : List Int} {d : Nat} {g : Int → Int} {lo hi k : Int} (hn : (A.length : Int) < U) (h : RAhead A B d g lo hi) (hk : (k - (A.length - B.length) - d) % 2 = 0) (h0 : d = 0 → k = A.length - B.length) :
    (rpxOf g lo hi (if d = 0 then A.length else U) k = U ∨ RPt A B d k (rpxOf g lo hi (if d = 0 then A.length else U) k)) ∧ RRun A B d k (rpxOf g lo hi (if d = 0 then A.length else U) k) := by
  cases d with
  | zero =>
    obtain ⟨h1, h2⟩ := h.1 rfl
    have hk0 := h0 rfl
    subst hk0 h1 h2
    have e : rpxOf g 1 0 (if (0 : Nat) = 0 then (A.length : Int) else U) ((A.length : Int) - B.length) = A.length := by
      unfold rpxOf
      have c1 : ¬ (1 ≤ (A.length : Int) - B.length - 1 ∧ (A.length : Int) - B.length - 1 ≤ 0 ∧ g ((A.length : Int) - B.length - 1) ≠ U ∧ 0 < g ((A.length : Int) - B.length - 1) - ((A.length : Int) - B.length - 1)) := by omega
      have c2 : ¬ (1 ≤ (A.length : Int) - B.length + 1 ∧ (A.length : Int) - B.length + 1 ≤ 0 ∧ g ((A.length : Int) - B.length + 1) ≠ U ∧ 0 < g ((A.length : Int) - B.length + 1)) := by omega
      rw [if_neg c1, if_neg c2, if_pos rfl]
    rw [e]
    exact ⟨.inr (rpt_zero A B), rrun_zero A B⟩
  | succ d =>
    obtain ⟨h1, h2⟩ := h.2 d rfl
    rw [if_neg (by omega)]
    have hk' : (k - (A.length - B.length) - ((d : Int) + 1)) % 2 = 0 := by omega
    have e1 := rpx_sound hn h1 hk'
    have e2 := rpx_full (by omega) hn h1 h2 hk'
    exact ⟨e1, e2⟩
theorem RAhead.bound {A B : List Int} {d : Nat} {g : Int → Int} {lo hi k : Int} (h : RAhead A B d g lo hi) (hk : (k - (A.length - B.length) - d) % 2 = 1) (h1 : lo ≤ k) (h2 : k ≤ hi) : g k = U ∨ RPt A B (d - 1) k (g k) := by
  cases d with
  | zero =>
    have := h.1 rfl
    omega
  | succ d =>
    obtain ⟨h3, h4⟩ := h.2 d rfl
    have := (h3 k h1 h2 (by omega)).sound
    have e : ((d + 1 : Nat) : Int) - 1 = d := by omega
    rw [e]; exact this
theorem Ahead.bound2 {A B : List Int} {d : Nat} {g : Int → Int} {lo hi k : Int} (h : Ahead A B d g lo hi) (hk : (k - d) % 2 = 1) (h1 : lo ≤ k) (h2 : k ≤ hi) : g k = -1 ∨ Pt A B (d - 1) k (g k) := by
  cases d with
  | zero =>
    have := h.1 rfl
    omega
  | succ d =>
    obtain ⟨h3, h4⟩ := h.2 d rfl
    have := (h3 k h1 h2 (by omega)).sound
    have e : ((d + 1 : Nat) : Int) - 1 = d := by omega
    rw [e]; exact this

/-- Two rows that meet tell how far the ends are at most. -/
theorem meet_le {A B : List Int} {d d' k ex rv : Int} (hx : Pt A B d k ex) (hr : RPt A B d' k rv) (hge : rv ≤ ex) : e A B ≤ d + d' := by
  obtain ⟨u, v, rfl, q1, q2, q3, q4⟩ := hx
  obtain ⟨X, Y, rfl, r1, r2, r3, r4⟩ := hr
  obtain ⟨t, ht⟩ : ∃ t : Nat, u = X + t := ⟨u - X, by omega⟩
  have hR := R_diags A B X Y t (by omega) (by omega)
  have e1 : Y + t = v := by omega
  rw [← ht, e1] at hR
  have t1 := tri A B u v
  omega

theorem lo_par (d m : Nat) : (loOf (-(d : Int)) (-(m : Int)) - d) % 2 = 0 ∧ -(m : Int) ≤ loOf (-(d : Int)) (-(m : Int)) ∧ -(d : Int) ≤ loOf (-(d : Int)) (-(m : Int)) := by
  unfold loOf; split <;> omega
theorem hi_par (d n : Nat) : hiOf d n ≤ n ∧ hiOf d n ≤ d := by
  unfold hiOf; split <;> omega
theorem lohi_all (d m n : Nat) (k : Int) (h : (k - d) % 2 = 0) (h1 : -(d : Int) ≤ k) (h2 : k ≤ d) (h3 : -(m : Int) ≤ k) (h4 : k ≤ n) : loOf (-(d : Int)) (-(m : Int)) ≤ k ∧ k ≤ hiOf d n := by
  unfold loOf hiOf; split <;> split <;> omega
theorem rlo_par (d m n : Nat) : (loOf ((n : Int) - m - d) (-(m : Int)) - (n - m) - d) % 2 = 0 ∧ -(m : Int) ≤ loOf ((n : Int) - m - d) (-(m : Int)) ∧ (n : Int) - m - d ≤ loOf ((n : Int) - m - d) (-(m : Int)) := by
  unfold loOf; split <;> omega
theorem rhi_par (d m n : Nat) : hiOf ((n : Int) - m + d) n ≤ n ∧ hiOf ((n : Int) - m + d) n ≤ n - m + d := by
  unfold hiOf; split <;> omega
theorem rlohi_all (d m n : Nat) (k : Int) (h : (k - (n - m) - d) % 2 = 0) (h1 : (n : Int) - m - d ≤ k) (h2 : k ≤ (n : Int) - m + d) (h3 : -(m : Int) ≤ k) (h4 : k ≤ n) : loOf ((n : Int) - m - d) (-(m : Int)) ≤ k ∧ k ≤ hiOf ((n : Int) - m + d) n := by
  unfold loOf hiOf; split <;> split <;> omega

/-- The forward phase of round d, ahead of diagonal k. -/
structure FInv (A B : List Int) (d : Nat) (lo hi k : Int) (f0 f r : Int → Int) (od : Bool) (rlo rhi : Int) : Prop where
  k1 : lo ≤ k
  k2 : (k - d) % 2 = 0
  k3 : k ≤ hi + 2 ∨ k = lo
  old : ∀ k' : Int, (k' - d) % 2 = 1 → f k' = f0 k'
  ent : ∀ k' : Int, lo ≤ k' → k' < k → (k' - d) % 2 = 0 → Ent A B d k' (f k')
  not : od = true → ∀ k' : Int, lo ≤ k' → k' < k → (k' - d) % 2 = 0 → rlo ≤ k' → k' ≤ rhi → f k' ≠ -1 → r k' ≠ U → f k' < r k'

theorem FInv.step {A B : List Int} {d : Nat} {lo hi k : Int} {f0 f r : Int → Int} {od : Bool} {rlo rhi v : Int} (h : FInv A B d lo hi k f0 f r od rlo rhi) (hk : k ≤ hi) (he : Ent A B d k v) (hn : od = true → rlo ≤ k → k ≤ rhi → v ≠ -1 → r k ≠ U → v < r k) :
    FInv A B d lo hi (k + 2) f0 (fun x => if x = k then v else f x) r od rlo rhi := by
  have k2 := h.k2
  have k1 := h.k1
  refine ⟨by omega, by omega, by omega, fun k' hk' => ?_, fun k' h1 h2 h3 => ?_, fun ho k' h1 h2 h3 h4 h5 h6 h7 => ?_⟩
  · have : k' ≠ k := by intro e; subst e; omega
    simp only [this, if_false]
    exact h.old k' hk'
  · by_cases e : k' = k
    · subst e; simp only [if_true]; exact he
    · simp only [e, if_false]
      exact h.ent k' h1 (by omega) h3
  · by_cases e : k' = k
    · subst e; simp only [if_true] at h6 ⊢; exact hn ho h4 h5 h6 h7
    · simp only [e, if_false] at h6 ⊢
      exact h.not ho k' h1 (by omega) h3 h4 h5 h6 h7

theorem FInv.done {A B : List Int} {d : Nat} {k : Int} {f0 f r : Int → Int} {od : Bool} {rlo rhi : Int} (h : FInv A B d (loOf (-(d : Int)) (-(B.length : Int))) (hiOf d A.length) k f0 f r od rlo rhi) (hk : hiOf d A.length < k) :
    Ahead A B (d + 1) f (loOf (-(d : Int)) (-(B.length : Int))) (hiOf d A.length) := by
  refine ⟨fun e => by omega, fun e he => ?_⟩
  obtain rfl : e = d := by omega
  exact ⟨fun k' h1 h2 h3 => h.ent k' h1 (by omega) h3, fun k' h1 h2 h3 h4 h5 => lohi_all _ _ _ _ h1 h2 h3 h4 h5⟩

/-- No meeting in an odd round: the ends are farther apart. -/
theorem FInv.far {A B : List Int} {d : Nat} {k : Int} {f0 f r : Int → Int} {od : Bool} {rlo rhi : Int} (h : FInv A B d (loOf (-(d : Int)) (-(B.length : Int))) (hiOf d A.length) k f0 f r od rlo rhi) (hk : hiOf d A.length < k) (hn : (A.length : Int) < U) (hr : RAhead A B d r rlo rhi)
    (ho : od = true) (hp : ((A.length : Int) - B.length) % 2 = 1) (he : 2 * (d : Int) - 1 ≤ e A B) : 2 * (d : Int) + 1 ≤ e A B := by
  have hpar := e_parity A B
  cases d with
  | zero => have := e_abs A B; omega
  | succ d =>
    obtain ⟨r1, r2⟩ := hr.2 d rfl
    have hno : e A B ≠ ((d + 1 : Nat) : Int) + (d : Int) := by
      refine no_meet (f := f) (r := r) (by omega) (by omega) hn (fun k' h1 h2 h3 h4 h5 => ?_) (fun k' h1 h2 h3 h4 h5 => ?_) (fun k' h1 h2 h3 h4 h5 h6 h7 h8 h9 h10 => ?_)
      · have := lohi_all (d + 1) B.length A.length k' h1 h2 h3 h4 h5
        exact h.ent k' this.1 (by omega) h1
      · have := r2 k' h1 h2 h3 h4 h5
        exact r1 k' this.1 this.2 h1
      · have g1 := lohi_all (d + 1) B.length A.length k' h1 h2 h3 h4 h5
        have g2 := r2 k' h6 h7 h8 h4 h5
        exact h.not ho k' g1.1 (by omega) h1 g2.1 g2.2 h9 h10
    omega

/-- The backward phase of round d, ahead of diagonal k. -/
structure RInv (A B : List Int) (d : Nat) (lo hi k : Int) (r0 r f : Int → Int) (od : Bool) (flo fhi : Int) : Prop where
  k1 : lo ≤ k
  k2 : (k - (A.length - B.length) - d) % 2 = 0
  k3 : k ≤ hi + 2 ∨ k = lo
  old : ∀ k' : Int, (k' - (A.length - B.length) - d) % 2 = 1 → r k' = r0 k'
  ent : ∀ k' : Int, lo ≤ k' → k' < k → (k' - (A.length - B.length) - d) % 2 = 0 → REnt A B d k' (r k')
  not : od = false → ∀ k' : Int, lo ≤ k' → k' < k → (k' - (A.length - B.length) - d) % 2 = 0 → flo ≤ k' → k' ≤ fhi → f k' ≠ -1 → r k' ≠ U → f k' < r k'

theorem RInv.step {A B : List Int} {d : Nat} {lo hi k : Int} {r0 r f : Int → Int} {od : Bool} {flo fhi v : Int} (h : RInv A B d lo hi k r0 r f od flo fhi) (hk : k ≤ hi) (he : REnt A B d k v) (hn : od = false → flo ≤ k → k ≤ fhi → f k ≠ -1 → v ≠ U → f k < v) :
    RInv A B d lo hi (k + 2) r0 (fun x => if x = k then v else r x) f od flo fhi := by
  have k2 := h.k2
  have k1 := h.k1
  refine ⟨by omega, by omega, by omega, fun k' hk' => ?_, fun k' h1 h2 h3 => ?_, fun ho k' h1 h2 h3 h4 h5 h6 h7 => ?_⟩
  · have : k' ≠ k := by intro e; subst e; omega
    simp only [this, if_false]
    exact h.old k' hk'
  · by_cases e : k' = k
    · subst e; simp only [if_true]; exact he
    · simp only [e, if_false]
      exact h.ent k' h1 (by omega) h3
  · by_cases e : k' = k
    · subst e; simp only [if_true] at h7 ⊢; exact hn ho h4 h5 h6 h7
    · simp only [e, if_false] at h7 ⊢
      exact h.not ho k' h1 (by omega) h3 h4 h5 h6 h7

theorem RInv.done {A B : List Int} {d : Nat} {k : Int} {r0 r f : Int → Int} {od : Bool} {flo fhi : Int} (h : RInv A B d (loOf ((A.length : Int) - B.length - d) (-(B.length : Int))) (hiOf ((A.length : Int) - B.length + d) A.length) k r0 r f od flo fhi) (hk : hiOf ((A.length : Int) - B.length + d) A.length < k) :
    RAhead A B (d + 1) r (loOf ((A.length : Int) - B.length - d) (-(B.length : Int))) (hiOf ((A.length : Int) - B.length + d) A.length) := by
  refine ⟨fun e => by omega, fun e he => ?_⟩
  obtain rfl : e = d := by omega
  exact ⟨fun k' h1 h2 h3 => h.ent k' h1 (by omega) h3, fun k' h1 h2 h3 h4 h5 => rlohi_all _ _ _ _ h1 h2 h3 h4 h5⟩

theorem RInv.far {A B : List Int} {d : Nat} {k : Int} {r0 r f : Int → Int} {od : Bool} {flo fhi : Int} (h : RInv A B d (loOf ((A.length : Int) - B.length - d) (-(B.length : Int))) (hiOf ((A.length : Int) - B.length + d) A.length) k r0 r f od flo fhi) (hk : hiOf ((A.length : Int) - B.length + d) A.length < k) (hn : (A.length : Int) < U) (hf : Ahead A B (d + 1) f flo fhi)
    (ho : od = false) (hp : ((A.length : Int) - B.length) % 2 = 0) (he : 2 * (d : Int) ≤ e A B) : 2 * (d : Int) + 2 ≤ e A B := by
  have hpar := e_parity A B
  obtain ⟨f1, f2⟩ := hf.2 d rfl
  have hno : e A B ≠ (d : Int) + (d : Int) := by
    refine no_meet (f := f) (r := r) (by omega) (by omega) hn (fun k' h1 h2 h3 h4 h5 => ?_) (fun k' h1 h2 h3 h4 h5 => ?_) (fun k' h1 h2 h3 h4 h5 h6 h7 h8 h9 h10 => ?_)
    · have := f2 k' h1 h2 h3 h4 h5
      exact f1 k' this.1 this.2 h1
    · have := rlohi_all d B.length A.length k' h1 h2 h3 h4 h5
      exact h.ent k' this.1 (by omega) h1
    · have g1 := rlohi_all d B.length A.length k' h6 h7 h8 h4 h5
      have g2 := f2 k' h1 h2 h3 h4 h5
      exact h.not ho k' g1.1 (by omega) h6 g2.1 g2.2 h9 h10
  omega
end Go.Proofs.Ybulkacye
