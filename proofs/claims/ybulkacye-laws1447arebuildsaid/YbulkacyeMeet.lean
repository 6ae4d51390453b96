/-
  Plain theory: where the rows from both ends meet. No Go in sight.
-/
import Derived.Test.YbulkacyeBack
namespace Go.Proofs.Ybulkacye.Lcs
set_option linter.unusedSectionVars false
variable {α : Type} [DecidableEq α]

/-- What middleSnake hands back: a run of matches on a shortest script, with edits on both sides. -/
structure Snake (a b : List α) (x y u v : Nat) : Prop where
  hu : u ≤ a.length
  hv : v ≤ b.length
  le : x ≤ u
  eq : u + y = v + x
  run : ∀ i : Nat, i < u - x → Mt a b ((x + i : Nat) : Int) ((y + i : Nat) : Int)
  o1 : Opt a b x y
  o2 : Opt a b u v
  r1 : 1 ≤ R a b x y
  f1 : 1 ≤ F a b u v

theorem Opt.split {a b : List α} {x y : Nat} (h : Opt a b x y) : L a b = L (a.take x) (b.take y) + L (a.drop x) (b.drop y) := by
  have hs := h.sum
  have hx := h.hx
  have hy := h.hy
  unfold F R e at hs
  rw [List.length_take, List.length_take, List.length_drop, List.length_drop] at hs
  omega
theorem R_run {a b : List α} {x y : Nat} : ∀ s, (∀ i : Nat, i < s → Mt a b ((x + i : Nat) : Int) ((y + i : Nat) : Int)) → R a b (x + s) (y + s) = R a b x y
  | 0, _ => rfl
  | s + 1, h => by
    have h1 := R_run s (fun i hi => h i (by omega))
    obtain ⟨g1, g2, g3⟩ := (h s (by omega)).to
    have := R_eq a b (x + s) (y + s) g1 g2 g3
    show R a b (x + s + 1) (y + s + 1) = _
    omega
theorem F_run {a b : List α} {x y : Nat} : ∀ s, (∀ i : Nat, i < s → Mt a b ((x + i : Nat) : Int) ((y + i : Nat) : Int)) → F a b (x + s) (y + s) = F a b x y
  | 0, _ => rfl
  | s + 1, h => by
    have h1 := F_run s (fun i hi => h i (by omega))
    obtain ⟨g1, g2, g3⟩ := (h s (by omega)).to
    have := F_eq a b (x + s) (y + s) g1 g2 g3
    show F a b (x + s + 1) (y + s + 1) = _
    omega
theorem Snake.long {a b : List α} {x y u v : Nat} (h : Snake a b x y u v) : L a b = L (a.take x) (b.take y) + (u - x) + L (a.drop u) (b.drop v) := by
  have h1 := h.o1.split
  have hle := h.le
  have heq := h.eq
  have hr := R_run (u - x) h.run
  have e1 : x + (u - x) = u := by omega
  have e2 : y + (u - x) = v := by omega
  rw [e1, e2] at hr
  have hu := h.hu
  have hv := h.hv
  have hx := h.o1.hx
  have hy := h.o1.hy
  unfold R e at hr
  simp only [List.length_drop] at hr
  omega
theorem Snake.small {a b : List α} {x y u v : Nat} (h : Snake a b x y u v) : x + y < a.length + b.length ∧ 0 < u + v := by
  have hx := h.o1.hx
  have hy := h.o1.hy
  constructor
  · rcases Nat.lt_or_ge (x + y) (a.length + b.length) with g | g
    · exact g
    · exfalso
      have e1 : x = a.length := by omega
      have e2 : y = b.length := by omega
      have := h.r1
      rw [e1, e2, R_end] at this
      omega
  · rcases Nat.eq_zero_or_pos (u + v) with g | g
    · exfalso
      have e1 : u = 0 := by omega
      have e2 : v = 0 := by omega
      have := h.f1
      rw [e1, e2, F_start] at this
      omega
    · exact g

theorem e_zero {a b : List α} (h : e a b = 0) : a = b := by
  obtain ⟨s, h1, h2, h3⟩ := L_ex a b
  have l1 := L_len_left a b
  have l2 := L_len_right a b
  unfold e at h
  have e1 := h1.eq_of_length (by omega)
  have e2 := h2.eq_of_length (by omega)
  rw [← e1, ← e2]
/-- Two lists that are not empty and differ at both ends are two edits apart at least. -/
theorem e_two {a b : List α} (ha : 0 < a.length) (hb : 0 < b.length) (h0 : a[0] ≠ b[0]) (h1 : a[a.length - 1] ≠ b[b.length - 1]) : 2 ≤ e a b := by
  have hr := R_ne a b 0 0 ha hb h0
  rw [R_start, Nat.zero_add] at hr
  have n1 := R_nonneg a b 1 0
  have n2 := R_nonneg a b 0 1
  rcases (by omega : 2 ≤ e a b ∨ R a b 1 0 = 0 ∨ R a b 0 1 = 0) with h | h | h
  · exact h
  · exfalso
    unfold R at h
    have hab := e_zero h
    simp only [List.drop_zero] at hab
    apply h1
    have hlen : b.length = a.length - 1 := by rw [← hab, List.length_drop]
    have : b[b.length - 1] = (a.drop 1)[b.length - 1]'(by rw [hab]; omega) := by simp only [hab]
    rw [this, List.getElem_drop]
    congr 1
    omega
  · exfalso
    unfold R at h
    have hab := e_zero h
    simp only [List.drop_zero] at hab
    apply h1
    have hlen : a.length = b.length - 1 := by rw [hab, List.length_drop]
    have : a[a.length - 1] = (b.drop 1)[a.length - 1]'(by rw [← hab]; omega) := by simp only [hab]
    rw [this, List.getElem_drop]
    congr 1
    omega

/-- The forward row comes to the backward row on diagonal k. -/
theorem meet_fwd {a b : List α} {d d' k px ex rv : Int} (hp : Pt a b d k px) (hx : Pt a b d k ex) (hle : px ≤ ex) (hm : ∀ i : Int, px ≤ i → i < ex → Mt a b i (i - k)) (hr : RPt a b d' k rv) (hge : rv ≤ ex) (hD : d + d' ≤ e a b) (h1 : 1 ≤ d) (h2 : 1 ≤ d') :
    ∃ x y u v : Nat, px = x ∧ px - k = y ∧ ex = u ∧ ex - k = v ∧ Snake a b x y u v := by
  obtain ⟨x, y, rfl, p1, p2, p3, p4⟩ := hp
  obtain ⟨u, v, rfl, q1, q2, q3, q4⟩ := hx
  obtain ⟨X, Y, rfl, r1, r2, r3, r4⟩ := hr
  obtain ⟨t, ht⟩ : ∃ t : Nat, u = X + t := ⟨u - X, by omega⟩
  have hR := R_diags a b X Y t (by omega) (by omega)
  have e1 : Y + t = v := by omega
  rw [← ht, e1] at hR
  have hrun : ∀ i : Nat, i < u - x → Mt a b ((x + i : Nat) : Int) ((y + i : Nat) : Int) := by
    intro i hi
    have := hm ((x + i : Nat) : Int) (by omega) (by omega)
    have e : ((x + i : Nat) : Int) - k = ((y + i : Nat) : Int) := by omega
    rw [e] at this
    exact this
  have f1 := F_run (u - x) hrun
  have g1 := R_run (u - x) hrun
  have e2 : x + (u - x) = u := by omega
  have e3 : y + (u - x) = v := by omega
  rw [e2, e3] at f1 g1
  have t1 := tri a b u v
  have t2 := tri a b x y
  exact ⟨x, y, u, v, rfl, by omega, rfl, by omega, ⟨q2, q3, by omega, by omega, hrun, ⟨p2, p3, by omega⟩, ⟨q2, q3, by omega⟩, by omega, by omega⟩⟩
/-- The backward row comes to the forward row on diagonal k. -/
theorem meet_rev {a b : List α} {d d' k px sx fv : Int} (hp : RPt a b d' k px) (hx : RPt a b d' k sx) (hle : sx ≤ px) (hm : ∀ i : Int, sx ≤ i → i < px → Mt a b i (i - k)) (hf : Pt a b d k fv) (hge : sx ≤ fv) (hD : d + d' ≤ e a b) (h1 : 1 ≤ d) (h2 : 1 ≤ d') :
    ∃ x y u v : Nat, sx = x ∧ sx - k = y ∧ px = u ∧ px - k = v ∧ Snake a b x y u v := by
  obtain ⟨u, v, rfl, p1, p2, p3, p4⟩ := hp
  obtain ⟨x, y, rfl, q1, q2, q3, q4⟩ := hx
  obtain ⟨X, Y, rfl, r1, r2, r3, r4⟩ := hf
  obtain ⟨t, ht⟩ : ∃ t : Nat, X = x + t := ⟨X - x, by omega⟩
  have hF := F_diags a b x y t (by omega) (by omega)
  have e1 : y + t = Y := by omega
  rw [← ht, e1] at hF
  have hrun : ∀ i : Nat, i < u - x → Mt a b ((x + i : Nat) : Int) ((y + i : Nat) : Int) := by
    intro i hi
    have := hm ((x + i : Nat) : Int) (by omega) (by omega)
    have e : ((x + i : Nat) : Int) - k = ((y + i : Nat) : Int) := by omega
    rw [e] at this
    exact this
  have f1 := F_run (u - x) hrun
  have g1 := R_run (u - x) hrun
  have e2 : x + (u - x) = u := by omega
  have e3 : y + (u - x) = v := by omega
  rw [e2, e3] at f1 g1
  have t1 := tri a b u v
  have t2 := tri a b x y
  exact ⟨x, y, u, v, rfl, by omega, rfl, by omega, ⟨p2, p3, by omega, by omega, hrun, ⟨q2, q3, by omega⟩, ⟨p2, p3, by omega⟩, by omega, by omega⟩⟩

/-- Where they never met they are further apart. -/
theorem no_meet {a b : List α} {f r : Int → Int} {d d' : Int} (hd : 0 ≤ d) (hd' : 0 ≤ d') (hn : (a.length : Int) < U)
    (hf : ∀ k, (k - d) % 2 = 0 → -d ≤ k → k ≤ d → -(b.length : Int) ≤ k → k ≤ a.length → Ent a b d k (f k))
    (hr : ∀ k, (k - (a.length - b.length) - d') % 2 = 0 → (a.length - b.length : Int) - d' ≤ k → k ≤ (a.length - b.length : Int) + d' → -(b.length : Int) ≤ k → k ≤ a.length → REnt a b d' k (r k))
    (hno : ∀ k, (k - d) % 2 = 0 → -d ≤ k → k ≤ d → -(b.length : Int) ≤ k → k ≤ a.length → (k - (a.length - b.length) - d') % 2 = 0 → (a.length - b.length : Int) - d' ≤ k → k ≤ (a.length - b.length : Int) + d' → f k ≠ -1 → r k ≠ U → f k < r k) :
    e a b ≠ d + d' := by
  intro hD
  obtain ⟨t, ht⟩ : ∃ t : Nat, d = t := ⟨d.toNat, by omega⟩
  subst ht
  obtain ⟨x, y, ho, hF⟩ := Opt.at a b t (by omega)
  have hsum := ho.sum
  have hx := ho.hx
  have hy := ho.hy
  have a1 := F_abs a b x y hx hy
  have a2 := R_abs a b x y hx hy
  have p1 := F_parity a b x y hx hy
  have p2 := R_parity a b x y hx hy
  have E1 := hf ((x : Int) - y) (by omega) (by omega) (by omega) (by omega) (by omega)
  have E2 := hr ((x : Int) - y) (by omega) (by omega) (by omega) (by omega) (by omega)
  have g1 := E1.full x y ho hF rfl
  have g2 := E2.full x y ho (by omega) rfl
  have := hno ((x : Int) - y) (by omega) (by omega) (by omega) (by omega) (by omega) (by omega) (by omega) (by omega) (by omega) (by omega)
  omega
end Go.Proofs.Ybulkacye.Lcs
