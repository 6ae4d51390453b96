import Derived.Test.YbulkacyeSe
import Derived.Maps.OwnSet
namespace Go.Proofs.Ybulkacye
open Go.RowKit Go.Maps Go.Proofs.Ybulkacye.Lcs
set_option linter.unusedVariables false

theorem ba_ext {s t : ByteArray} (h : s.data.toList = t.data.toList) : s = t := by
  cases s with
  | mk a => cases t with
    | mk b => cases a; cases b; simp at h; subst h; rfl
instance ba_dec : DecidableEq ByteArray := fun s t => decidable_of_iff (s.data.toList = t.data.toList) ⟨ba_ext, fun h => by rw [h]⟩
def isIn (l : List ByteArray) (s : ByteArray) : Bool := l.any fun t => decide (t = s)
theorem isIn_iff {l : List ByteArray} {s : ByteArray} : isIn l s = true ↔ s ∈ l := by
  unfold isIn
  rw [List.any_eq_true]
  constructor
  · rintro ⟨t, h1, h2⟩; have := of_decide_eq_true h2; subst this; exact h1
  · intro h; exact ⟨s, h, decide_eq_true rfl⟩
theorem isIn_false {l : List ByteArray} {s : ByteArray} : isIn l s = false ↔ s ∉ l := by
  rw [← isIn_iff]; cases isIn l s <;> simp
/-- The place of a string in a list. -/
def pos : List ByteArray → ByteArray → Nat
  | [], _ => 0
  | x :: l, s => if x = s then 0 else pos l s + 1
theorem pos_lt : ∀ {l : List ByteArray} {s : ByteArray}, s ∈ l → pos l s < l.length
  | x :: l, s, h => by
    unfold pos
    by_cases e : x = s
    · simp [e]
    · rw [if_neg e]
      have := pos_lt (l := l) (s := s) (by rcases List.mem_cons.1 h with g | g; exact absurd g.symm e; exact g)
      simp; omega
theorem pos_get : ∀ {l : List ByteArray} {s : ByteArray}, s ∈ l → l[pos l s]? = some s
  | x :: l, s, h => by
    unfold pos
    by_cases e : x = s
    · simp [e]
    · rw [if_neg e]
      have := pos_get (l := l) (s := s) (by rcases List.mem_cons.1 h with g | g; exact absurd g.symm e; exact g)
      simpa using this
theorem pos_app : ∀ {l : List ByteArray} {s : ByteArray} (l' : List ByteArray), s ∈ l → pos (l ++ l') s = pos l s
  | x :: l, s, l', h => by
    show pos (x :: (l ++ l')) s = _
    unfold pos
    by_cases e : x = s
    · simp [e]
    · rw [if_neg e, if_neg e, pos_app l' (by rcases List.mem_cons.1 h with g | g; exact absurd g.symm e; exact g)]
theorem pos_new : ∀ {l : List ByteArray} {s : ByteArray}, s ∉ l → pos (l ++ [s]) s = l.length
  | [], s, h => by simp [pos]
  | x :: l, s, h => by
    show pos (x :: (l ++ [s])) s = _
    unfold pos
    rw [if_neg (fun e => h (by rw [e]; exact List.mem_cons_self)), pos_new (fun g => h (List.mem_cons_of_mem _ g))]
    rfl
def key (s : ByteArray) : Lit := .string s.data.toList
theorem key_inj {s t : ByteArray} (h : key s = key t) : s = t := ba_ext (by unfold key at h; injection h)
theorem law9 : Keyed Yba.prog 9 := string_keyed Yba.underlying9
theorem zero3 (w : World) : (zeroValue 3).run Yba.prog w = .ok (.int .i64 0) w := by kernel_rfl

/-- A map of the strings ks, each to its place in ks. -/
def MapIs (w : World) (b n : Nat) (ks : List ByteArray) : Prop :=
  ∃ D : DataW Unit, w.ownsMap Yba.prog 9 (plainElem Yba.prog 3) b n D ∧ Maps.size D = ks.length ∧ ∀ s : ByteArray, Maps.has D (key s) = isIn ks s ∧ (s ∈ ks → D.atKey (key s) (.lit (.int .i64 0)) = .lit (.int .i64 (pos ks s)))

def sel (p : ByteArray → Bool) (l : List ByteArray) : List (ByteArray × Nat) := l.zipIdx.filter fun x => p x.1
def idx (ks : List ByteArray) (s : ByteArray) : Int := pos ks s
def kept (ks : List ByteArray) (p : ByteArray → Bool) (l : List ByteArray) : List Int := (sel p l).map fun x => idx ks x.1
def from_ (p : ByteArray → Bool) (l : List ByteArray) : List Nat := (sel p l).map (·.2)

theorem sel_nil (p : ByteArray → Bool) : sel p [] = [] := rfl
theorem sel_snoc_pos (p : ByteArray → Bool) (l : List ByteArray) (s : ByteArray) (h : p s = true) : sel p (l ++ [s]) = sel p l ++ [(s, l.length)] := by
  unfold sel; rw [List.zipIdx_append, List.filter_append]; simp [List.zipIdx, h]
theorem sel_snoc_neg (p : ByteArray → Bool) (l : List ByteArray) (s : ByteArray) (h : p s = false) : sel p (l ++ [s]) = sel p l := by
  unfold sel; rw [List.zipIdx_append, List.filter_append]; simp [List.zipIdx, h]
theorem sel_fst (p : ByteArray → Bool) (l : List ByteArray) : (sel p l).map (·.1) = l.filter p := by
  have key : ∀ (l : List ByteArray) (k : Nat), ((l.zipIdx k).filter fun x => p x.1).map (·.1) = l.filter p := by
    intro l
    induction l with
    | nil => intro k; rfl
    | cons a l ih =>
      intro k
      rw [List.zipIdx_cons, List.filter_cons, List.filter_cons]
      by_cases h : p a = true
      · simp [h, ih]
      · simp [h, ih]
  exact key l 0
theorem sel_mem {p : ByteArray → Bool} {l : List ByteArray} {x : ByteArray × Nat} (h : x ∈ sel p l) : l[x.2]? = some x.1 ∧ p x.1 = true := by
  unfold sel at h
  rw [List.mem_filter] at h
  obtain ⟨h1, h2⟩ := h
  have := List.mem_zipIdx_iff_getElem?.1 h1
  exact ⟨by simpa using this, h2⟩
theorem sel_lt (p : ByteArray → Bool) (l : List ByteArray) : (sel p l).Pairwise fun x y => x.2 < y.2 := by
  have key : ∀ (l : List ByteArray) (k : Nat), (l.zipIdx k).Pairwise fun x y => x.2 < y.2 := by
    intro l
    induction l with
    | nil => intro k; exact List.Pairwise.nil
    | cons a l ih =>
      intro k
      rw [List.zipIdx_cons]
      refine List.pairwise_cons.2 ⟨fun x hx => ?_, ih (k + 1)⟩
      have := (List.mem_zipIdx hx).1
      show k < x.2
      omega
  exact (key l 0).filter _

theorem kept_len (ks : List ByteArray) (p : ByteArray → Bool) (l : List ByteArray) : (kept ks p l).length = (sel p l).length := by simp [kept]
theorem from_len (p : ByteArray → Bool) (l : List ByteArray) : (from_ p l).length = (sel p l).length := by simp [from_]
theorem sel_len_le (p : ByteArray → Bool) (l : List ByteArray) : (sel p l).length ≤ l.length := by
  unfold sel
  have := List.length_filter_le (fun x : ByteArray × Nat => p x.1) l.zipIdx
  simpa using this

theorem cmn_iff {α : Type} {xa xb : List α} {a1 b1 : Nat} : ∀ {M : List (Nat × Nat)} {a0 b0 : Nat}, Cmn xa xb a1 b1 a0 b0 M ↔ ((∀ p ∈ M, a0 ≤ p.1 ∧ p.1 < a1 ∧ b0 ≤ p.2 ∧ p.2 < b1 ∧ ∃ v, xa[p.1]? = some v ∧ xb[p.2]? = some v) ∧ M.Pairwise fun p q => p.1 < q.1 ∧ p.2 < q.2)
  | [], a0, b0 => by simp [Cmn]
  | p :: M, a0, b0 => by
    constructor
    · rintro ⟨h1, h2, h3, h4, h5, h6⟩
      obtain ⟨g1, g2⟩ := cmn_iff.1 h6
      refine ⟨fun q hq => ?_, List.pairwise_cons.2 ⟨fun q hq => ?_, g2⟩⟩
      · rcases List.mem_cons.1 hq with rfl | hq
        · exact ⟨h1, h3, h2, h4, h5⟩
        · obtain ⟨k1, k2, k3, k4, k5⟩ := g1 q hq
          exact ⟨by omega, k2, by omega, k4, k5⟩
      · obtain ⟨k1, k2, k3, k4, k5⟩ := g1 q hq
        exact ⟨by omega, by omega⟩
    · rintro ⟨h1, h2⟩
      obtain ⟨g1, g2⟩ := List.pairwise_cons.1 h2
      obtain ⟨k1, k2, k3, k4, k5⟩ := h1 p (List.mem_cons_self)
      refine ⟨k1, k3, k2, k4, k5, cmn_iff.2 ⟨fun q hq => ?_, g2⟩⟩
      obtain ⟨j1, j2, j3, j4, j5⟩ := h1 q (List.mem_cons_of_mem _ hq)
      have := g1 q hq
      exact ⟨by omega, j2, by omega, j4, j5⟩

theorem idx_inj {ks : List ByteArray} {s t : ByteArray} (hs : s ∈ ks) (ht : t ∈ ks) (h : idx ks s = idx ks t) : s = t := by
  unfold idx at h
  have h' : pos ks s = pos ks t := by omega
  have e1 := pos_get hs
  have e2 := pos_get ht
  rw [h', e2] at e1
  exact (Option.some.inj e1).symm

/-- Matches of what was kept are matches of the whole. -/
theorem cmn_back {ks A B : List ByteArray} {p q : ByteArray → Bool} (hp : ∀ s ∈ A, p s = true → s ∈ ks) (hq : ∀ s ∈ B, q s = true → s ∈ ks) {M : List (Nat × Nat)} (h : Cmn (kept ks p A) (kept ks q B) (kept ks p A).length (kept ks q B).length 0 0 M) :
    Cmn A B A.length B.length 0 0 (M.map fun x => ((from_ p A).getD x.1 0, (from_ q B).getD x.2 0)) := by
  obtain ⟨h1, h2⟩ := cmn_iff.1 h
  refine cmn_iff.2 ⟨fun z hz => ?_, ?_⟩
  · obtain ⟨x, hx, rfl⟩ := List.mem_map.1 hz
    obtain ⟨_, k2, _, k4, v, k5, k6⟩ := h1 x hx
    rw [kept_len] at k2 k4
    have e1 := List.getElem_mem k2
    have e2 := List.getElem_mem k4
    obtain ⟨m1, n1⟩ := sel_mem e1
    obtain ⟨m2, n2⟩ := sel_mem e2
    have f1 : (from_ p A).getD x.1 0 = (sel p A)[x.1].2 := by simp [from_, List.getD, k2]
    have f2 : (from_ q B).getD x.2 0 = (sel q B)[x.2].2 := by simp [from_, List.getD, k4]
    have l1 : (sel p A)[x.1].2 < A.length := (List.getElem?_eq_some_iff.1 m1).1
    have l2 : (sel q B)[x.2].2 < B.length := (List.getElem?_eq_some_iff.1 m2).1
    have i1 : idx ks (sel p A)[x.1].1 = v := by simpa [kept, k2] using k5
    have i2 : idx ks (sel q B)[x.2].1 = v := by simpa [kept, k4] using k6
    have es := idx_inj (hp _ (List.mem_of_getElem? m1) n1) (hq _ (List.mem_of_getElem? m2) n2) (i1.trans i2.symm)
    simp only [f1, f2]
    exact ⟨Nat.zero_le _, l1, Nat.zero_le _, l2, (sel p A)[x.1].1, m1, by rw [es]; exact m2⟩
  · refine List.Pairwise.map _ (R := fun x y => x ∈ M ∧ y ∈ M ∧ x.1 < y.1 ∧ x.2 < y.2) ?_ ?_
    · rintro x y ⟨hx, hy, h3, h4⟩
      obtain ⟨_, k2, _, k4, _⟩ := h1 x hx
      obtain ⟨_, k2', _, k4', _⟩ := h1 y hy
      rw [kept_len] at k2 k4 k2' k4'
      have f1 : (from_ p A).getD x.1 0 = (sel p A)[x.1].2 := by simp [from_, List.getD, k2]
      have f2 : (from_ q B).getD x.2 0 = (sel q B)[x.2].2 := by simp [from_, List.getD, k4]
      have f3 : (from_ p A).getD y.1 0 = (sel p A)[y.1].2 := by simp [from_, List.getD, k2']
      have f4 : (from_ q B).getD y.2 0 = (sel q B)[y.2].2 := by simp [from_, List.getD, k4']
      have g1 := List.pairwise_iff_getElem.1 (sel_lt p A) x.1 y.1 k2 k2' h3
      have g2 := List.pairwise_iff_getElem.1 (sel_lt q B) x.2 y.2 k4 k4' h4
      simp only [f1, f2, f3, f4]
      exact ⟨g1, g2⟩
    · exact h2.imp_of_mem (fun hx hy hr => ⟨hx, hy, hr.1, hr.2⟩)

/-- What was set aside belongs to no common subsequence. -/
theorem kept_L {ks A B : List ByteArray} (hks : ∀ s, s ∈ ks ↔ s ∈ A) : L (kept ks (fun s => isIn B s) A) (kept ks (fun s => isIn ks s) B) = L A B := by
  have e1 : kept ks (fun s => isIn B s) A = (A.filter fun s => isIn B s).map (idx ks) := by
    unfold kept
    rw [← sel_fst, List.map_map]; rfl
  have e2 : kept ks (fun s => isIn ks s) B = (B.filter fun s => isIn ks s).map (idx ks) := by
    unfold kept
    rw [← sel_fst, List.map_map]; rfl
  rw [e1, e2, L_map]
  · exact L_filter A B _ _ (fun x hx => isIn_iff.2 hx) (fun x hx => isIn_iff.2 ((hks x).2 hx))
  · intro x hx y hy h
    have h1 := (List.mem_filter.1 hx).1
    have h2 := (List.mem_filter.1 hy).2
    exact idx_inj ((hks x).2 h1) (isIn_iff.1 h2) h
end Go.Proofs.Ybulkacye
