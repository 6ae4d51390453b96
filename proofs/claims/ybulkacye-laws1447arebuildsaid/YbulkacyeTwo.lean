import Derived.Test.YbulkacyeMem
namespace Go.Proofs.Ybulkacye
open Go.RowKit Go.Maps
set_option linter.unusedVariables false

theorem Kp.alloc {base : Nat} {F : List Nat} {w w1 : World} (h : Kp base F w w1) (hb : base ≤ w1.heap.size) (o : Obj) : Kp base F w (w1.alloc o) :=
  ⟨h.os, h.tape, h.output, by have := h.size; simp; omega, fun k hk hn => by rw [Below.heap_alloc _ _ _ (by omega), h.block k hk hn]⟩
theorem Kp.grown {base : Nat} {F : List Nat} {w w1 w2 : World} {row : Option Nat} (h : Kp base F w w1) (hb : base ≤ w1.heap.size) (hg : w1.grownBy w2 row) (hr : ∀ k, row = some k → base ≤ k) : Kp base F w w2 :=
  ⟨hg.os.trans h.os, hg.tape.trans h.tape, hg.output.trans h.output, Nat.le_trans h.size hg.size, fun k hk hn => by
    rw [hg.block k (by omega) (fun e => by have := hr k e.symm; omega), h.block k hk hn]⟩
theorem Kp.setCell {base : Nat} {F : List Nat} {w w1 : World} (h : Kp base F w w1) (a : Addr) (u : Value) (ha : a.block ∈ F ∨ base ≤ a.block) : Kp base F w (w1.setCell a u) :=
  ⟨h.os, h.tape, h.output, by have := h.size; simp [World.setCell]; omega, fun k hk hn => by
    rw [Below.heap_setCell _ _ _ _ (fun e => by subst e; rcases ha with a | a; exact hn a; omega), h.block k hk hn]⟩
theorem Kp.mono {base base' : Nat} {F F' : List Nat} {w w1 : World} (h : Kp base F w w1) (hb : base' ≤ base) (hF : ∀ x ∈ F, x ∈ F' ∨ base' ≤ x) : Kp base' F' w w1 :=
  ⟨h.os, h.tape, h.output, h.size, fun k hk hn => h.block k (by omega) (fun hm => by rcases hF k hm with a | a; exact hn a; omega)⟩
theorem Strs.kp {base base2 : Nat} {w w' : World} {ao : Option Addr} {A : List ByteArray} {F : List Nat} (h : Strs base w ao A) (hk : Kp base2 F w w') (hb : base ≤ base2) (hF : ∀ x ∈ F, base ≤ x) : Strs base w' ao A := by
  intro i s hs
  obtain ⟨g, h1, h2, h3⟩ := h i s hs
  refine ⟨g, h1, h2, ?_⟩
  rw [World.cell?_of_block (a := ⟨g, i, none⟩) (hk.block g (by omega) (fun hm => by have := hF g hm; omega))]
  exact h3

/-- Two rows of integers of the call's own, apart from one another. -/
structure Two (base : Nat) (w : World) (kv fv : Value) (K F : List Int) : Prop where
  k : w.ownsRow base 3 1 kv K.length (ints K)
  f : w.ownsRow base 3 1 fv F.length (ints F)
  ne : ∀ g, kv.ownBlock = some g → fv.ownBlock ≠ some g
  bw : base ≤ w.heap.size
theorem Two.nil (base : Nat) (w : World) (hb : base ≤ w.heap.size) : Two base w (.slice none 0 0) (.slice none 0 0) [] [] := ⟨World.ownsRow_nil _ _ _ _, World.ownsRow_nil _ _ _ _, fun g h => by simp [Value.ownBlock] at h, hb⟩
theorem Two.congr {base : Nat} {w w' : World} {kv fv : Value} {K F : List Int} (h : Two base w kv fv K F) (hk : ∀ g, kv.ownBlock = some g ∨ fv.ownBlock = some g → w'.heap[g]? = w.heap[g]?) (hs : w.heap.size ≤ w'.heap.size) : Two base w' kv fv K F :=
  ⟨ownsRow_congr h.k (fun g hg => hk g (.inl hg)), ownsRow_congr h.f (fun g hg => hk g (.inr hg)), h.ne, Nat.le_trans h.bw hs⟩
theorem Two.first {base : Nat} {w w1 : World} {kv fv kv' : Value} {K F : List Int} {o1 : Obj} (h : Two base w kv fv K F) (hg1 : (w.alloc o1).grownBy w1 kv.ownBlock) : w1.ownsRow base 3 1 fv F.length (ints F) :=
  ownsRow_congr h.f (fun g hg => by
    have := (h.f.lt g hg).2
    rw [hg1.block g (by simp; omega) (fun e => h.ne g e.symm hg), Below.heap_alloc _ _ _ this])
theorem Two.push {base : Nat} {w w1 w2 : World} {kv fv kv' fv' : Value} {K F : List Int} {x y : Int} {o1 o2 : Obj} (h : Two base w kv fv K F)
    (ho1 : w1.ownsRow base 3 1 kv' (K.length + 1) (ints K ++ [.int .i64 x])) (hg1 : (w.alloc o1).grownBy w1 kv.ownBlock) (hat1 : kv'.ownBlock = kv.ownBlock ∨ (kv'.ownBlock = some (w.alloc o1).heap.size ∧ (w.alloc o1).grownBy w1 none))
    (ho2 : w2.ownsRow base 3 1 fv' (F.length + 1) (ints F ++ [.int .i64 y])) (hg2 : (w1.alloc o2).grownBy w2 fv.ownBlock) (hat2 : fv'.ownBlock = fv.ownBlock ∨ (fv'.ownBlock = some (w1.alloc o2).heap.size ∧ (w1.alloc o2).grownBy w2 none)) :
    Two base w2 kv' fv' (K ++ [x]) (F ++ [y]) ∧ (∀ k, k < base → w2.heap[k]? = w.heap[k]?) ∧ w.heap.size ≤ w2.heap.size ∧ w2.os = w.os ∧ w2.tape = w.tape ∧ w2.output = w.output := by
  have hbw := h.bw
  have s1 := hg1.size
  have s2 := hg2.size
  simp at s1 s2
  have hl1 := ho1.lt
  have hl2 := ho2.lt
  have kf : ∀ g, kv'.ownBlock = some g → fv.ownBlock ≠ some g := fun g hg e => by
    rcases hat1 with a | ⟨a, _⟩
    · rw [a] at hg; exact h.ne g hg e
    · rw [a] at hg; cases hg
      have := (h.f.lt _ e).2; simp at this; omega
  refine ⟨⟨?_, ?_, fun g hg e => ?_, by omega⟩, fun k hk => ?_, by omega, by rw [hg2.os]; exact hg1.os, by rw [hg2.tape]; exact hg1.tape, by rw [hg2.output]; exact hg1.output⟩
  · rw [List.length_append]
    have : ints (K ++ [x]) = ints K ++ [.int .i64 x] := by simp [ints]
    rw [this]
    refine ownsRow_congr ho1 (fun g hg => ?_)
    rw [hg2.block g (by have := (hl1 g hg).2; simp; omega) (fun e => kf g hg e.symm), Below.heap_alloc _ _ _ (hl1 g hg).2]
  · rw [List.length_append]
    have : ints (F ++ [y]) = ints F ++ [.int .i64 y] := by simp [ints]
    rw [this]
    exact ho2
  · rcases hat2 with a | ⟨a, _⟩
    · rw [a] at e; exact kf g hg e
    · rw [a] at e; cases e
      have := (hl1 _ hg).2; simp at this; omega
  · rw [hg2.block k (by simp; omega) (fun e => by have := (h.f.lt k e.symm).1; omega), Below.heap_alloc _ _ _ (by omega), hg1.block k (by simp; omega) (fun e => by have := (h.k.lt k e.symm).1; omega), Below.heap_alloc _ _ _ (by omega)]
theorem Two.low {base : Nat} {w : World} {kv fv : Value} {K F : List Int} (h : Two base w kv fv K F) {a : Addr} (ha : a.block < base) (u : Value) : Two base (w.setCell a u) kv fv K F :=
  h.congr (fun g hg => Below.heap_setCell _ _ _ _ (fun e => by
    have : base ≤ g := by rcases hg with g1 | g1; exact (h.k.lt g g1).1; exact (h.f.lt g g1).1
    omega)) (by simp [World.setCell])
theorem Kp.of_all {base : Nat} {F : List Nat} {w w1 w2 : World} (h : Kp base F w w1) (h1 : ∀ k, k < base → w2.heap[k]? = w1.heap[k]?) (h2 : w1.heap.size ≤ w2.heap.size) (h3 : w2.os = w1.os) (h4 : w2.tape = w1.tape) (h5 : w2.output = w1.output) : Kp base F w w2 :=
  ⟨h3.trans h.os, h4.trans h.tape, h5.trans h.output, Nat.le_trans h.size h2, fun k hk hn => (h1 k hk).trans (h.block k hk hn)⟩
theorem news_one (w : World) (a : Value) (t : TypeId) : ∀ j u, [a][j]? = some u → (w.alloc (.cells #[a] t)).cell? ((⟨w.heap.size, 0, none⟩ : Addr).add j) = some u := fun j u hu =>
  World.news_of_block (cs := #[a]) (fr := (0, 0)) (heap_alloc_new w _) j u (by simpa using hu)
def fromI (p : ByteArray → Bool) (l : List ByteArray) : List Int := (from_ p l).map fun (n : Nat) => (n : Int)
theorem kept_pos (ks : List ByteArray) {p : ByteArray → Bool} {l : List ByteArray} {s : ByteArray} (h : p s = true) : kept ks p (l ++ [s]) = kept ks p l ++ [idx ks s] := by
  unfold kept; rw [sel_snoc_pos p l s h]; simp
theorem kept_neg (ks : List ByteArray) {p : ByteArray → Bool} {l : List ByteArray} {s : ByteArray} (h : p s = false) : kept ks p (l ++ [s]) = kept ks p l := by
  unfold kept; rw [sel_snoc_neg p l s h]
theorem fromI_pos {p : ByteArray → Bool} {l : List ByteArray} {s : ByteArray} (h : p s = true) : fromI p (l ++ [s]) = fromI p l ++ [(l.length : Int)] := by
  unfold fromI from_; rw [sel_snoc_pos p l s h]; simp
theorem fromI_neg {p : ByteArray → Bool} {l : List ByteArray} {s : ByteArray} (h : p s = false) : fromI p (l ++ [s]) = fromI p l := by
  unfold fromI from_; rw [sel_snoc_neg p l s h]
theorem fromI_len (p : ByteArray → Bool) (l : List ByteArray) : (fromI p l).length = (sel p l).length := by simp [fromI, from_]
theorem isIn_snoc (l : List ByteArray) (s t : ByteArray) : isIn (l ++ [s]) t = (isIn l t || decide (s = t)) := by simp [isIn, List.any_append]
end Go.Proofs.Ybulkacye
