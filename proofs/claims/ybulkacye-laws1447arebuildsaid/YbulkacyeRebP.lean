import Derived.Test.YbulkacyeReb2
namespace Go.Proofs.Ybulkacye
open Go.RowKit Go.Proofs.Ybulkacye.Lcs
set_option linter.unusedVariables false

/-- The inserts that the matches R bring, the next place being b. -/
def insFrom : Nat → List (Nat × Nat) → List (Nat × Nat × Nat)
  | _, [] => []
  | b, q :: R => (if b < q.2 then [(q.1, b, q.2)] else []) ++ insFrom (q.2 + 1) R
theorem fold_ins : ∀ (R : List (Nat × Nat)) (s : Nat × Nat × List (Nat × Nat × Nat)), (R.foldl stp s).2.2 = s.2.2 ++ insFrom s.2.1 R
  | [], s => by simp [insFrom]
  | q :: R, s => by
    rw [List.foldl_cons, fold_ins R]
    show (s.2.2 ++ (if s.2.1 < q.2 then [(q.1, s.2.1, q.2)] else [])) ++ insFrom (q.2 + 1) R = _
    rw [List.append_assoc]
    rfl
theorem stt_split (P R : List (Nat × Nat)) : (stt (P ++ R)).2.2 = (stt P).2.2 ++ insFrom (stt P).2.1 R := by
  unfold stt
  rw [List.foldl_append, fold_ins]
theorem insFrom_mem : ∀ (R : List (Nat × Nat)) (b : Nat) (t : Nat × Nat × Nat), t ∈ insFrom b R → ∃ q ∈ R, t.1 = q.1 ∧ t.2.2 = q.2 ∧ t.2.1 < t.2.2
  | [], b, t, h => by cases h
  | q :: R, b, t, h => by
    unfold insFrom at h
    rcases List.mem_append.1 h with g | g
    · split at g
      · simp at g; subst g; exact ⟨q, by simp, rfl, rfl, by assumption⟩
      · cases g
    · obtain ⟨r, h1, h2⟩ := insFrom_mem R _ t g
      exact ⟨r, List.mem_cons_of_mem _ h1, h2⟩
theorem insFrom_inc : ∀ (R : List (Nat × Nat)) (b : Nat), (R.Pairwise fun p q => p.1 < q.1 ∧ p.2 < q.2) → (insFrom b R).Pairwise fun t t' => t.1 < t'.1
  | [], b, h => List.Pairwise.nil
  | q :: R, b, h => by
    obtain ⟨h1, h2⟩ := List.pairwise_cons.1 h
    unfold insFrom
    refine List.pairwise_append.2 ⟨?_, insFrom_inc R _ h2, fun t ht t' ht' => ?_⟩
    · split
      · exact List.pairwise_singleton _ _
      · exact List.Pairwise.nil
    · obtain ⟨r, hr, e, _⟩ := insFrom_mem R _ t' ht'
      split at ht
      · simp at ht; subst ht; rw [e]; exact (h1 r hr).1
      · cases ht
def tot (l : List (Nat × Nat × Nat)) : Nat := (l.map fun t => t.2.2 - t.2.1).sum
theorem tot_app (a b : List (Nat × Nat × Nat)) : tot (a ++ b) = tot a + tot b := by simp [tot]
theorem tot_fold : ∀ (R : List (Nat × Nat)) (s : Nat × Nat × List (Nat × Nat × Nat)) (k : Nat), (∀ r ∈ R, s.2.1 ≤ r.2) → (R.Pairwise fun p q => p.1 < q.1 ∧ p.2 < q.2) → tot s.2.2 + k = s.2.1 → tot (R.foldl stp s).2.2 + (k + R.length) = (R.foldl stp s).2.1
  | [], s, k, h1, h2, h3 => by simpa using h3
  | q :: R, s, k, h1, h2, h3 => by
    obtain ⟨g1, g2⟩ := List.pairwise_cons.1 h2
    rw [List.foldl_cons]
    have hq := h1 q (by simp)
    have := tot_fold R (stp s q) (k + 1) (fun r hr => by have := (g1 r hr).2; show q.2 + 1 ≤ r.2; omega) g2 (by
      show tot (s.2.2 ++ (if s.2.1 < q.2 then [(q.1, s.2.1, q.2)] else [])) + (k + 1) = q.2 + 1
      rw [tot_app]
      split
      · simp [tot] at h3 ⊢; omega
      · simp [tot] at h3 ⊢; omega)
    simp only [List.length_cons]
    omega

/-- The matches with their end. -/
structure Mms (MM : List (Nat × Nat)) (M : List (Nat × Nat)) (A B : List ByteArray) : Prop where
  eq : MM = M ++ [(A.length, B.length)]
  inc : MM.Pairwise fun p q => p.1 < q.1 ∧ p.2 < q.2
  rng : ∀ q ∈ M, q.1 < A.length ∧ q.2 < B.length ∧ ∃ v, A[q.1]? = some v ∧ B[q.2]? = some v
variable {MM M : List (Nat × Nat)} {A B : List ByteArray}
theorem Mms.of {M : List (Nat × Nat)} {A B : List ByteArray} (h : Cmn A B A.length B.length 0 0 M) : Mms (M ++ [(A.length, B.length)]) M A B := by
  obtain ⟨h1, h2⟩ := cmn_iff.1 h
  refine ⟨rfl, List.pairwise_append.2 ⟨h2, List.pairwise_singleton _ _, fun q hq r hr => ?_⟩, fun q hq => ?_⟩
  · simp at hr; subst hr
    obtain ⟨_, g2, _, g4, _⟩ := h1 q hq
    exact ⟨g2, g4⟩
  · obtain ⟨_, g2, _, g4, g5⟩ := h1 q hq
    exact ⟨g2, g4, g5⟩
theorem Mms.le (h : Mms MM M A B) : ∀ q ∈ MM, q.1 ≤ A.length ∧ q.2 ≤ B.length := by
  intro q hq
  rw [h.eq] at hq
  rcases List.mem_append.1 hq with g | g
  · have := h.rng q g; omega
  · simp at g; subst g; simp
theorem Mms.len (h : Mms MM M A B) : MM.length = M.length + 1 := by rw [h.eq]; simp
theorem Mms.last (h : Mms MM M A B) : stt MM = (A.length + 1, B.length + 1, (stt MM).2.2) := by rw [h.eq, stt_snoc]; rfl
theorem Mms.tot (h : Mms MM M A B) : tot (stt MM).2.2 + M.length = B.length := by
  have h1 := tot_fold MM (0, 0, []) 0 (fun r _ => Nat.zero_le _) h.inc (by simp [Ybulkacye.tot])
  have h2 := h.last
  unfold stt at h2
  rw [h2] at h1
  have h3 := h.len
  unfold stt
  simp only at h1
  omega
theorem Mms.short (h : Mms MM M A B) : M.length ≤ A.length ∧ M.length ≤ B.length := by
  have ht := h.tot
  refine ⟨?_, by omega⟩
  have key : ∀ (l : List (Nat × Nat)) (a : Nat), (l.Pairwise fun p q => p.1 < q.1 ∧ p.2 < q.2) → (∀ q ∈ l, a ≤ q.1 ∧ q.1 < A.length) → a + l.length ≤ A.length ∨ l = [] := by
    intro l
    induction l with
    | nil => intro a _ _; exact .inr rfl
    | cons q l ih =>
      intro a hp hr
      left
      obtain ⟨g1, g2⟩ := List.pairwise_cons.1 hp
      have hq := hr q (by simp)
      rcases ih (a + 1) g2 (fun r hrr => ⟨by have := (g1 r hrr).1; omega, (hr r (by simp [hrr])).2⟩) with e | e
      · simp only [List.length_cons]; omega
      · subst e; simp; omega
  have hM : M.Pairwise fun p q => p.1 < q.1 ∧ p.2 < q.2 := by have := h.inc; rw [h.eq] at this; exact (List.pairwise_append.1 this).1
  rcases key M 0 hM (fun q hq => ⟨Nat.zero_le _, (h.rng q hq).1⟩) with e | e
  · omega
  · subst e; simp
/-- Behind the places below j: t matches lie there. -/
structure At (MM : List (Nat × Nat)) (j t : Nat) : Prop where
  le : t ≤ MM.length
  lo : ∀ q ∈ MM.take t, q.1 < j
  hi : ∀ q ∈ MM.drop t, j ≤ q.1
theorem At.zero (MM : List (Nat × Nat)) : At MM 0 0 := ⟨Nat.zero_le _, fun q hq => by simp at hq, fun q hq => Nat.zero_le _⟩
theorem At.cases {j t : Nat} (h : At MM j t) (hi : MM.Pairwise fun p q => p.1 < q.1 ∧ p.2 < q.2) :
    (∃ mb, MM[t]? = some (j, mb) ∧ At MM (j + 1) (t + 1) ∧ ∀ q ∈ MM.drop (t + 1), j + 1 ≤ q.1) ∨ (At MM (j + 1) t ∧ ∀ q ∈ MM, q.1 ≠ j) := by
  have hall : ∀ q ∈ MM, q ∈ MM.take t ∨ q ∈ MM.drop t := fun q hq => by rw [← List.take_append_drop t MM] at hq; exact List.mem_append.1 hq
  by_cases ht : t < MM.length
  · have hd : MM.drop t = MM[t] :: MM.drop (t + 1) := List.drop_eq_getElem_cons ht
    have hp : (MM.drop t).Pairwise fun p q => p.1 < q.1 ∧ p.2 < q.2 := hi.sublist (List.drop_sublist _ _)
    rw [hd] at hp
    obtain ⟨g1, g2⟩ := List.pairwise_cons.1 hp
    have hj : j ≤ MM[t].1 := h.hi _ (by rw [hd]; exact List.mem_cons_self)
    by_cases e : MM[t].1 = j
    · left
      have hn : ∀ q ∈ MM.drop (t + 1), j + 1 ≤ q.1 := fun q hq => by have := (g1 q hq).1; omega
      refine ⟨MM[t].2, by rw [List.getElem?_eq_getElem ht, ← e], ⟨ht, fun q hq => ?_, hn⟩, hn⟩
      rw [List.take_succ_eq_append_getElem ht] at hq
      rcases List.mem_append.1 hq with g | g
      · have := h.lo q g; omega
      · simp at g; subst g; omega
    · right
      have hn : ∀ q ∈ MM.drop t, j + 1 ≤ q.1 := fun q hq => by
        rw [hd] at hq
        rcases List.mem_cons.1 hq with g | g
        · subst g; omega
        · have := (g1 q g).1; omega
      refine ⟨⟨h.le, fun q hq => by have := h.lo q hq; omega, hn⟩, fun q hq e2 => ?_⟩
      rcases hall q hq with g | g
      · have := h.lo q g; omega
      · have := hn q g; omega
  · right
    have hdn : MM.drop t = [] := List.drop_eq_nil_of_le (by omega)
    refine ⟨⟨h.le, fun q hq => by have := h.lo q hq; omega, fun q hq => by rw [hdn] at hq; cases hq⟩, fun q hq e2 => ?_⟩
    rcases hall q hq with g | g
    · have := h.lo q g; omega
    · rw [hdn] at g; cases g
theorem Mms.del (h : Mms MM M A B) {j : Nat} (hj : j < A.length) : delF MM j = !(MM.any fun q => q.1 == j) := by
  unfold delF
  rw [h.last]
  have : j < A.length + 1 := by omega
  simp [this]
/-- At the end of the version all matches lie behind. -/
theorem Mms.atEnd (h : Mms MM M A B) {t : Nat} (ha : At MM A.length t) : t = M.length := by
  have hl := h.len
  have hle := ha.le
  rcases (by omega : t < M.length ∨ t = M.length ∨ t = M.length + 1) with g | g | g
  · exfalso
    have h1 : M[t] ∈ MM.drop t := by
      rw [h.eq, List.drop_append_of_le_length (by omega), List.drop_eq_getElem_cons g]
      exact List.mem_append_left _ List.mem_cons_self
    have h2 := ha.hi _ h1
    have h3 := (h.rng M[t] (List.getElem_mem g)).1
    omega
  · exact g
  · exfalso
    have h1 : (A.length, B.length) ∈ MM.take t := by rw [List.take_of_length_le (by omega), h.eq]; simp
    have h2 := ha.lo _ h1
    simp at h2
theorem icells_at (gl m : Nat) (l : List (Nat × Nat × Nat)) : ∀ (k : Nat) (t : Nat × Nat × Nat), l[k]? = some t → (icells gl m l)[k * 2]? = some (.int .i64 (t.1 : Int)) ∧ (icells gl m l)[k * 2 + 1]? = some (.slice (some ⟨gl, t.2.1, none⟩) (t.2.2 - t.2.1) (m - t.2.1)) := by
  induction l with
  | nil => intro k t h; simp at h
  | cons q l ih =>
    intro k t h
    cases k with
    | zero => simp at h; subst h; simp [icells]
    | succ k =>
      have e1 : (k + 1) * 2 = k * 2 + 1 + 1 := by omega
      have := ih k t (by simpa using h)
      simp only [icells, List.flatMap_cons, e1] at *
      simpa using this

/-- What the law reads behind diff. -/
structure RbIs (w : World) (Wb gd gl : Nat) (bv ev vv iv oldv : Value) (INS : List (Nat × Nat × Nat)) (df : Nat → Bool) (A B : List ByteArray) : Prop where
  box : w.heap[Wb]? = some (.cells #[.int .i64 1, bv, ev, vv, .slice (some ⟨gd, 0, none⟩) A.length A.length, iv] 32 (0, 0))
  del : RowB w gd (bl A.length df)
  ins : w.ownsRow 0 34 2 iv INS.length (icells gl B.length INS)
  row : RowS w gl B
  old : w.ownsRow 0 9 1 oldv A.length (strs A)
variable {w w' : World} {Wb gd gl : Nat} {bv ev vv iv oldv : Value} {INS : List (Nat × Nat × Nat)} {df : Nat → Bool}
theorem RbIs.below {base : Nat} (h : RbIs w Wb gd gl bv ev vv iv oldv INS df A B) (hb : Below base w w') (hs : w.heap.size ≤ base) : RbIs w' Wb gd gl bv ev vv iv oldv INS df A B := by
  have k : ∀ g, g < w.heap.size → w'.heap[g]? = w.heap[g]? := fun g hg => hb.block g (by omega)
  refine ⟨(k Wb (lt_of_block h.box)).trans h.box, h.del.congr (k gd h.del.lt), ownsRow_congr h.ins (fun g hg => k g (h.ins.lt g hg).2), h.row.congr (k gl h.row.lt), ownsRow_congr h.old (fun g hg => k g (h.old.lt g hg).2)⟩
theorem RbIs.insAt (h : RbIs w Wb gd gl bv ev vv iv oldv INS df A B) {k : Nat} {t : Nat × Nat × Nat} (hk : INS[k]? = some t) : ∃ gi ic, iv = .slice (some ⟨gi, 0, none⟩) INS.length ic ∧ w.cell? ⟨gi, k * 2, none⟩ = some (.int .i64 (t.1 : Int)) ∧ w.cell? ⟨gi, k * 2 + 1, none⟩ = some (.slice (some ⟨gl, t.2.1, none⟩) (t.2.2 - t.2.1) (B.length - t.2.1)) := by
  have hl := (List.getElem?_eq_some_iff.1 hk).1
  have hi := h.ins
  obtain ⟨gi, ic, rfl, _, _⟩ := hi.form (by omega)
  obtain ⟨m1, m2⟩ := icells_at gl B.length INS k t hk
  exact ⟨gi, ic, rfl, by rw [hi.cellAt (k * 2) (by omega)]; exact m1, by rw [hi.cellAt (k * 2 + 1) (by omega)]; exact m2⟩
end Go.Proofs.Ybulkacye
