import Derived.Test.YbulkacyeMeet
namespace Go.Proofs.Ybulkacye.Lcs
set_option linter.unusedVariables false

theorem L_snoc (x : Int) (a b : List Int) : L (a ++ [x]) (b ++ [x]) = L a b + 1 := by
  rw [← L_rev, List.reverse_append, List.reverse_append]
  show L (x :: a.reverse) (x :: b.reverse) = _
  rw [L_cons_eq, L_rev]

/-- A part of a sequence: the elements from a up to b. -/
def prt (x : List Int) (a b : Nat) : List Int := (x.drop a).take (b - a)
theorem prt_length (x : List Int) (a b : Nat) (h : b ≤ x.length) : (prt x a b).length = b - a := by
  unfold prt; rw [List.length_take, List.length_drop]; omega
theorem prt_get (x : List Int) (a b i : Nat) (hi : i < b - a) : (prt x a b)[i]? = x[a + i]? := by
  unfold prt; rw [List.getElem?_take, if_pos hi, List.getElem?_drop]
theorem prt_take (x : List Int) (a b t : Nat) (h : a + t ≤ b) : (prt x a b).take t = prt x a (a + t) := by
  unfold prt; rw [List.take_take]; congr 1; omega
theorem prt_drop (x : List Int) (a b t : Nat) : (prt x a b).drop t = prt x (a + t) b := by
  unfold prt; rw [List.drop_take, List.drop_drop]; congr 1; omega
theorem prt_nil (x : List Int) (a b : Nat) (h : b ≤ a) : prt x a b = [] := by
  unfold prt
  have : b - a = 0 := by omega
  rw [this, List.take_zero]
theorem prt_cons (x : List Int) (a b : Nat) (v : Int) (h : a < b) (hv : x[a]? = some v) : prt x a b = v :: prt x (a + 1) b := by
  obtain ⟨ha, rfl⟩ := List.getElem?_eq_some_iff.1 hv
  unfold prt
  rw [List.drop_eq_getElem_cons ha]
  have : b - a = (b - (a + 1)) + 1 := by omega
  rw [this, List.take_succ_cons]
theorem prt_snoc (x : List Int) (a b : Nat) (v : Int) (h : a ≤ b) (hv : x[b]? = some v) : prt x a (b + 1) = prt x a b ++ [v] := by
  obtain ⟨hb, rfl⟩ := List.getElem?_eq_some_iff.1 hv
  unfold prt
  have : b + 1 - a = (b - a) + 1 := by omega
  rw [this, List.take_add_one, List.getElem?_drop]
  have e : a + (b - a) = b := by omega
  rw [e, hv]
  rfl

/-- A common subsequence by its places, in increasing order of both. -/
def Cmn {α : Type} (xa xb : List α) (a1 b1 : Nat) : Nat → Nat → List (Nat × Nat) → Prop
  | _, _, [] => True
  | a0, b0, p :: M => a0 ≤ p.1 ∧ b0 ≤ p.2 ∧ p.1 < a1 ∧ p.2 < b1 ∧ (∃ v, xa[p.1]? = some v ∧ xb[p.2]? = some v) ∧ Cmn xa xb a1 b1 (p.1 + 1) (p.2 + 1) M

theorem Cmn.low {α : Type} {xa xb : List α} {a1 b1 a0 b0 a0' b0' : Nat} {M : List (Nat × Nat)} (h : Cmn xa xb a1 b1 a0 b0 M) (ha : a0' ≤ a0) (hb : b0' ≤ b0) : Cmn xa xb a1 b1 a0' b0' M := by
  cases M with
  | nil => trivial
  | cons p M => obtain ⟨h1, h2, h3, h4, h5, h6⟩ := h; exact ⟨by omega, by omega, h3, h4, h5, h6⟩
theorem Cmn.app {α : Type} {xa xb : List α} {a1 b1 x y : Nat} : ∀ {M1 : List (Nat × Nat)} {a0 b0 : Nat} {M2 : List (Nat × Nat)}, Cmn xa xb x y a0 b0 M1 → Cmn xa xb a1 b1 x y M2 → x ≤ a1 → y ≤ b1 → a0 ≤ x → b0 ≤ y → Cmn xa xb a1 b1 a0 b0 (M1 ++ M2)
  | [], a0, b0, M2, h, k, h1, h2, h3, h4 => k.low h3 h4
  | p :: M1, a0, b0, M2, h, k, h1, h2, h3, h4 => by
    obtain ⟨g1, g2, g3, g4, g5, g6⟩ := h
    exact ⟨g1, g2, by omega, by omega, g5, Cmn.app g6 k h1 h2 (by omega) (by omega)⟩

def diag (i j t : Nat) : List (Nat × Nat) := (List.range t).map fun q => (i + q, j + q)
theorem diag_zero (i j : Nat) : diag i j 0 = [] := rfl
theorem diag_succ (i j t : Nat) : diag i j (t + 1) = diag i j t ++ [(i + t, j + t)] := by simp [diag, List.range_succ]
theorem diag_length (i j t : Nat) : (diag i j t).length = t := by simp [diag]
theorem diag_cmn {xa xb : List Int} (i j : Nat) : ∀ t : Nat, (∀ q, q < t → ∃ v, xa[i + q]? = some v ∧ xb[j + q]? = some v) → Cmn xa xb (i + t) (j + t) i j (diag i j t)
  | 0, _ => trivial
  | t + 1, h => by
    rw [diag_succ]
    refine (diag_cmn i j t (fun q hq => h q (by omega))).app (x := i + t) (y := j + t) ?_ (by omega) (by omega) (by omega) (by omega)
    exact ⟨by omega, by omega, by show i + t < i + (t + 1); omega, by show j + t < j + (t + 1); omega, h t (by omega), trivial⟩

theorem L_first (xa xb : List Int) (a0 a1 b0 b1 : Nat) (v : Int) (ha : a0 < a1) (hb : b0 < b1) (h1 : xa[a0]? = some v) (h2 : xb[b0]? = some v) : L (prt xa a0 a1) (prt xb b0 b1) = 1 + L (prt xa (a0 + 1) a1) (prt xb (b0 + 1) b1) := by
  rw [prt_cons xa a0 a1 v ha h1, prt_cons xb b0 b1 v hb h2, L_cons_eq]; omega
theorem L_last (xa xb : List Int) (a0 a1 b0 b1 : Nat) (v : Int) (ha : a0 ≤ a1) (hb : b0 ≤ b1) (h1 : xa[a1]? = some v) (h2 : xb[b1]? = some v) : L (prt xa a0 (a1 + 1)) (prt xb b0 (b1 + 1)) = 1 + L (prt xa a0 a1) (prt xb b0 b1) := by
  rw [prt_snoc xa a0 a1 v ha h1, prt_snoc xb b0 b1 v hb h2, L_snoc]; omega

theorem e_part_two (xa xb : List Int) (a0 a1 b0 b1 : Nat) (ha : a0 < a1) (hb : b0 < b1) (la : a1 ≤ xa.length) (lb : b1 ≤ xb.length) (h0 : xa[a0]? ≠ xb[b0]?) (h1 : xa[a1 - 1]? ≠ xb[b1 - 1]?) : 2 ≤ e (prt xa a0 a1) (prt xb b0 b1) := by
  have l1 := prt_length xa a0 a1 la
  have l2 := prt_length xb b0 b1 lb
  refine e_two (by omega) (by omega) (fun h => h0 ?_) (fun h => h1 ?_)
  · have g1 := prt_get xa a0 a1 0 (by omega)
    have g2 := prt_get xb b0 b1 0 (by omega)
    rw [Nat.add_zero] at g1 g2
    rw [← g1, ← g2, List.getElem?_eq_getElem (by omega), List.getElem?_eq_getElem (by omega), h]
  · have g1 := prt_get xa a0 a1 (a1 - a0 - 1) (by omega)
    have g2 := prt_get xb b0 b1 (b1 - b0 - 1) (by omega)
    have e1 : a0 + (a1 - a0 - 1) = a1 - 1 := by omega
    have e2 : b0 + (b1 - b0 - 1) = b1 - 1 := by omega
    rw [e1] at g1
    rw [e2] at g2
    rw [← g1, ← g2, List.getElem?_eq_getElem (by omega), List.getElem?_eq_getElem (by omega)]
    have z1 : a1 - a0 - 1 = (prt xa a0 a1).length - 1 := by omega
    have z2 : b1 - b0 - 1 = (prt xb b0 b1).length - 1 := by omega
    simp only [z1, z2]
    rw [h]
theorem Mt.part {xa xb : List Int} {a0 a1 b0 b1 i j : Nat} (h : Mt (prt xa a0 a1) (prt xb b0 b1) (i : Int) (j : Int)) (la : a1 ≤ xa.length) (lb : b1 ≤ xb.length) : ∃ v, xa[a0 + i]? = some v ∧ xb[b0 + j]? = some v := by
  obtain ⟨h1, h2, h3⟩ := h.to
  have l1 := prt_length xa a0 a1 la
  have l2 := prt_length xb b0 b1 lb
  refine ⟨(Lcs.prt xa a0 a1)[i], ?_, ?_⟩
  · rw [← prt_get xa a0 a1 i (by omega)]; simp [h1]
  · rw [← prt_get xb b0 b1 j (by omega), h3]; simp [h2]
end Go.Proofs.Ybulkacye.Lcs
