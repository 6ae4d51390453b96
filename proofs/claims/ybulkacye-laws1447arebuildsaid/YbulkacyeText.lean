import Derived.Test.YbulkacyeLaws
import Derived.Deep.Heap
namespace Go.Proofs.Ybulkacye
open Go.RowKit

/-- Of what was there only the blocks of F may have turned. -/
structure Only (w w' : World) (F : List Nat) : Prop where
  os : w'.os = w.os
  tape : w'.tape = w.tape
  output : w'.output = w.output
  size : w.heap.size ≤ w'.heap.size
  block : ∀ k, k < w.heap.size → k ∉ F → w'.heap[k]? = w.heap[k]?

theorem Only.refl (w : World) (F : List Nat) : Only w w F := ⟨rfl, rfl, rfl, Nat.le_refl _, fun _ _ _ => rfl⟩
theorem Only.trans {w w1 w2 : World} {F F' : List Nat} (h : Only w w1 F) (k : Only w1 w2 F') (hF : ∀ x ∈ F', x ∈ F ∨ w.heap.size ≤ x) : Only w w2 F :=
  ⟨k.os.trans h.os, k.tape.trans h.tape, k.output.trans h.output, Nat.le_trans h.size k.size, fun i hi hn => by
    rw [k.block i (Nat.lt_of_lt_of_le hi h.size) (fun hm => by rcases hF i hm with a | a; exact hn a; omega), h.block i hi hn]⟩
theorem Only.mono {w w' : World} {F F' : List Nat} (h : Only w w' F) (hF : ∀ x ∈ F, x ∈ F' ∨ w.heap.size ≤ x) : Only w w' F' :=
  ⟨h.os, h.tape, h.output, h.size, fun i hi hn => h.block i hi (fun hm => by rcases hF i hm with a | a; exact hn a; omega)⟩
theorem Only.drew {w w' : World} {F : List Nat} (h : Only w w' F) : Only w w'.drew F := ⟨h.os, h.tape, h.output, h.size, h.block⟩
theorem Only.ofDrew {w w' : World} {F : List Nat} (h : Only w.drew w' F) : Only w w' F := ⟨h.os, h.tape, h.output, h.size, h.block⟩
theorem Only.drewN {w w' : World} {F : List Nat} (h : Only w w' F) (n : Nat) : Only w (w'.drewN n) F := ⟨h.os, h.tape, h.output, h.size, h.block⟩
theorem Only.ofDrewN {w w' : World} {F : List Nat} {n : Nat} (h : Only (w.drewN n) w' F) : Only w w' F := ⟨h.os, h.tape, h.output, h.size, h.block⟩
theorem Only.alloc {w w' : World} {F : List Nat} (h : Only w w' F) (o : Obj) : Only w (w'.alloc o) F :=
  ⟨h.os, h.tape, h.output, by have := h.size; simp; omega, fun k hk hn => by rw [Below.heap_alloc _ _ _ (Nat.lt_of_lt_of_le hk h.size), h.block k hk hn]⟩
theorem Only.setCell {w w' : World} {F : List Nat} (h : Only w w' F) (a : Addr) (u : Value) (ha : a.block ∈ F ∨ w.heap.size ≤ a.block) : Only w (w'.setCell a u) F :=
  ⟨h.os, h.tape, h.output, by have := h.size; simp [World.setCell]; omega, fun k hk hn => by
    rw [Below.heap_setCell _ _ _ _ (fun e => by subst e; rcases ha with a | a; exact hn a; omega), h.block k hk hn]⟩
theorem Only.grown {w w1 w' : World} {F : List Nat} {row : Option Nat} (h : Only w w1 F) (hg : w1.grownBy w' row) (ha : ∀ k, row = some k → k ∈ F ∨ w.heap.size ≤ k) : Only w w' F :=
  ⟨hg.os.trans h.os, hg.tape.trans h.tape, hg.output.trans h.output, Nat.le_trans h.size hg.size, fun k hk hn => by
    rw [hg.block k (Nat.lt_of_lt_of_le hk h.size) (fun e => by rcases ha k e.symm with a | a; exact hn a; omega), h.block k hk hn]⟩
theorem Only.below {w w' : World} {F : List Nat} {B : Nat} (h : Only w w' F) (hB : B ≤ w.heap.size) (hF : ∀ x ∈ F, B ≤ x) : Below B w w' :=
  ⟨h.os, h.tape, h.output, h.size, fun k hk => h.block k (by omega) (fun hm => by have := hF k hm; omega)⟩

theorem blk_setCell_same {w : World} {p j : Nat} {c : Array Value} {e : TypeId} {fr : Nat × Nat} (h : w.heap[p]? = some (.cells c e fr)) (u : Value) :
    (w.setCell ⟨p, j, none⟩ u).heap[p]? = some (.cells (c.setIfInBounds j u) e fr) := by
  simp [World.setCell, Array.getElem?_modify, h]

theorem ownsRow_congr {w w' : World} {base : Nat} {e : TypeId} {size : Nat} {v : Value} {n : Nat} {xs : List Value} (h : w.ownsRow base e size v n xs)
    (hk : ∀ g, v.ownBlock = some g → w'.heap[g]? = w.heap[g]?) : w'.ownsRow base e size v n xs := by
  refine ⟨h.1, ?_⟩
  rcases h.2 with h2 | ⟨g, cap, cur, rfl, hb, hgg, rest⟩
  · exact .inl h2
  · exact .inr ⟨g, cap, cur, rfl, hb, by rw [hk g rfl]; exact hgg, rest⟩

def bcells (l : List UInt8) : List Value := l.map fun b => Value.int .u8 b.toNat
theorem bcells_length (l : List UInt8) : (bcells l).length = l.length := by simp [bcells]
theorem bcells_append (a b : List UInt8) : bcells (a ++ b) = bcells a ++ bcells b := by simp [bcells]
theorem bcells_one (l : List UInt8) : ∀ u ∈ bcells l, u.oneCell' = true := by
  intro u hu
  obtain ⟨_, _, rfl⟩ := List.mem_map.1 hu
  rfl

structure Blk where
  g : Nat
  cap : Nat
  bytes : List UInt8
def Blk.val (b : Blk) : Value := .slice (some ⟨b.g, 0, none⟩) b.bytes.length b.cap
def flat (bl : List Blk) : List UInt8 := (bl.map Blk.bytes).flatten
theorem flat_append (a b : List Blk) : flat (a ++ b) = flat a ++ flat b := by simp [flat]
def foot (p : Nat) (v : Value) (bl : List Blk) : List Nat := p :: (v.ownBlock.toList ++ bl.map Blk.g)

structure TextIs (w : World) (B p : Nat) (v : Value) (bl : List Blk) (n : Nat) : Prop where
  box : w.heap[p]? = some (.cells #[v, .int .i64 n] 60 (0, 0))
  own : w.ownsRow B 22 1 v bl.length (bl.map Blk.val)
  each : ∀ b ∈ bl, w.ownsRow B 5 1 b.val b.bytes.length (bcells b.bytes)
  nd : (foot p v bl).Nodup
  pB : B ≤ p

theorem TextIs.congr {w w' : World} {B p : Nat} {v : Value} {bl : List Blk} {n : Nat} (h : TextIs w B p v bl n) (hk : ∀ g ∈ foot p v bl, w'.heap[g]? = w.heap[g]?) : TextIs w' B p v bl n :=
  ⟨by rw [hk p (by simp [foot])]; exact h.box, ownsRow_congr h.own (fun g hg => hk g (by simp [foot, hg])),
    fun b hb => ownsRow_congr (h.each b hb) (fun g hg => hk g (by simp [Blk.val, Value.ownBlock] at hg; subst hg; simp [foot]; right; right; exact ⟨b, hb, rfl⟩)), h.nd, h.pB⟩

theorem TextIs.lt {w : World} {B p : Nat} {v : Value} {bl : List Blk} {n : Nat} (h : TextIs w B p v bl n) : ∀ g ∈ foot p v bl, B ≤ g ∧ g < w.heap.size := by
  intro g hg
  simp only [foot, List.mem_cons, List.mem_append, Option.mem_toList, List.mem_map] at hg
  rcases hg with rfl | hg | ⟨b, hb, rfl⟩
  · exact ⟨h.pB, lt_of_block h.box⟩
  · exact h.own.lt g hg
  · exact (h.each b hb).lt b.g rfl

theorem TextIs.cell0 {w : World} {B p : Nat} {v : Value} {bl : List Blk} {n : Nat} (h : TextIs w B p v bl n) : w.cell? ⟨p, 0, none⟩ = some v := by simp [World.cell?, h.box]
theorem TextIs.cell1 {w : World} {B p : Nat} {v : Value} {bl : List Blk} {n : Nat} (h : TextIs w B p v bl n) : w.cell? ⟨p, 1, none⟩ = some (.int .i64 n) := by simp [World.cell?, h.box]
theorem TextIs.fr {w : World} {B p : Nat} {v : Value} {bl : List Blk} {n : Nat} (h : TextIs w B p v bl n) (j : Nat) : w.frozen? ⟨p, j, none⟩ = false := by simp [World.frozen?, h.box]

/-- The counter is raised. -/
theorem TextIs.count {w : World} {B p : Nat} {v : Value} {bl : List Blk} {n : Nat} (h : TextIs w B p v bl n) (m : Nat) : TextIs (w.setCell ⟨p, 1, none⟩ (.int .i64 m)) B p v bl m := by
  have hnd := h.nd
  have ne : ∀ g, g ∈ v.ownBlock.toList ++ bl.map Blk.g → g ≠ p := fun g hg e => by
    subst e
    simp only [foot, List.nodup_cons] at hnd
    exact hnd.1 hg
  refine ⟨?_, ownsRow_congr h.own (fun g hg => ?_), fun b hb => ownsRow_congr (h.each b hb) (fun g hg => ?_), h.nd, h.pB⟩
  · rw [blk_setCell_same h.box]; rfl
  · exact Below.heap_setCell _ _ _ _ (ne g (by simp [hg]))
  · simp [Blk.val, Value.ownBlock] at hg; subst hg
    exact Below.heap_setCell _ _ _ _ (ne _ (by simp; right; exact ⟨b, hb, rfl⟩))

/-- A new, empty block is appended: the worlds of 't.blocks = append(t.blocks, make(..))'. -/
theorem TextIs.more {w w1 w3 : World} {B p : Nat} {v v' : Value} {bl : List Blk} {n C : Nat} (h : TextIs w B p v bl n)
    (h1 : w1.ownsRow B 5 1 (.slice (some ⟨w.heap.size, 0, none⟩) 0 C) 0 []) (g1 : w.grownBy w1 none) (s1 : w1.heap.size = w.heap.size + 1) (o : Obj)
    (h3 : w3.ownsRow B 22 1 v' (bl.length + 1) (bl.map Blk.val ++ [.slice (some ⟨w.heap.size, 0, none⟩) 0 C])) (g3 : (w1.alloc o).grownBy w3 v.ownBlock)
    (hat : v'.ownBlock = v.ownBlock ∨ (v'.ownBlock = some (w.heap.size + 2) ∧ (w1.alloc o).grownBy w3 none)) :
    TextIs (w3.setCell ⟨p, 0, none⟩ v') B p v' (bl ++ [⟨w.heap.size, C, []⟩]) n ∧ Only w (w3.setCell ⟨p, 0, none⟩ v') (foot p v bl) ∧ (∀ x ∈ foot p v' (bl ++ [⟨w.heap.size, C, []⟩]), x ∈ foot p v bl ∨ w.heap.size ≤ x) := by
  have hlt := h.lt
  have hnd := h.nd
  have hsz3 := g3.size
  simp at hsz3
  have old : ∀ k, k < w.heap.size → some k ≠ v.ownBlock → w3.heap[k]? = w.heap[k]? := fun k hk hne => by
    rw [g3.block k (by simp; omega) hne, Below.heap_alloc _ _ _ (by omega), g1.block k hk (by simp)]
  have hpv : some p ≠ v.ownBlock := fun e => by
    simp only [foot, List.nodup_cons] at hnd
    exact hnd.1 (by simp [← e])
  have hplt := (hlt p (by simp [foot])).2
  have hfoot : ∀ x ∈ foot p v' (bl ++ [⟨w.heap.size, C, []⟩]), x ∈ foot p v bl ∨ w.heap.size ≤ x := by
    intro x hx
    simp only [foot, List.mem_cons, List.mem_append, Option.mem_toList, List.mem_map] at hx ⊢
    rcases hx with rfl | hx | ⟨b, hb, rfl⟩
    · exact .inl (.inl rfl)
    · rcases hat with e | ⟨e, _⟩
      · rw [e] at hx; exact .inl (.inr (.inl hx))
      · rw [e] at hx; cases hx; right; omega
    · simp at hb
      rcases hb with hb | rfl
      · exact .inl (.inr (.inr ⟨b, hb, rfl⟩))
      · right; exact Nat.le_refl _
  refine ⟨⟨?_, ?_, ?_, ?_, h.pB⟩, ?_, hfoot⟩
  · rw [blk_setCell_same (by rw [old p hplt hpv]; exact h.box)]; rfl
  · simp only [List.length_append, List.length_singleton, List.map_append, List.map_cons, List.map_nil]
    refine ownsRow_congr h3 (fun g hg => Below.heap_setCell _ _ _ _ (fun e => ?_))
    subst e
    rcases hat with e | ⟨e, _⟩
    · rw [e] at hg; exact hpv hg.symm
    · rw [e] at hg; cases hg; omega
  · intro b hb
    simp at hb
    rcases hb with hb | rfl
    · have hbm : b.g ∈ foot p v bl := by simp [foot]; right; right; exact ⟨b, hb, rfl⟩
      refine ownsRow_congr (h.each b hb) (fun g hg => ?_)
      simp [Blk.val, Value.ownBlock] at hg; subst hg
      have hbp : b.g ≠ p := fun e => by
        simp only [foot, List.nodup_cons] at hnd
        exact hnd.1 (by rw [← e]; simp; right; exact ⟨b, hb, rfl⟩)
      rw [Below.heap_setCell _ _ _ _ hbp]
      refine old _ (hlt _ hbm).2 (fun e => ?_)
      simp only [foot, List.nodup_cons, List.nodup_append] at hnd
      exact hnd.2.2.2 b.g (by simp [← e]) b.g (by simp; exact ⟨b, hb, rfl⟩) rfl
    · show World.ownsRow _ _ _ _ (.slice (some ⟨w.heap.size, 0, none⟩) 0 C) 0 []
      refine ownsRow_congr h1 (fun g hg => ?_)
      simp [Value.ownBlock] at hg; subst hg
      rw [Below.heap_setCell _ _ _ _ (show w.heap.size ≠ p by omega), g3.block _ (by simp; omega) (fun e => ?_), Below.heap_alloc _ _ _ (by omega)]
      have := (hlt w.heap.size (by simp [foot, ← e])).2
      omega
  · simp only [foot, List.nodup_cons, List.nodup_append, List.map_append, List.map_cons, List.map_nil] at hnd ⊢
    obtain ⟨n1, n2, n3, n4⟩ := hnd
    have hv : ∀ x, v'.ownBlock = some x → v.ownBlock = some x ∨ x = w.heap.size + 2 := fun x hx => by
      rcases hat with e | ⟨e, _⟩
      · left; rw [← e]; exact hx
      · right; rw [e] at hx; cases hx; rfl
    have hbl : ∀ b ∈ bl, b.g < w.heap.size := fun b hb => (hlt b.g (by simp [foot]; right; right; exact ⟨b, hb, rfl⟩)).2
    refine ⟨?_, ?_, ⟨n3, by simp, ?_⟩, ?_⟩
    · simp only [List.mem_append, Option.mem_toList, List.mem_map, List.mem_singleton, not_or] at n1 ⊢
      refine ⟨fun e => ?_, n1.2, by omega⟩
      rcases hv p e with e | e
      · exact n1.1 e
      · omega
    · cases v'.ownBlock <;> simp
    · intro a ha b hb
      simp at ha hb
      obtain ⟨b', hb', rfl⟩ := ha
      subst hb
      exact Nat.ne_of_lt (hbl b' hb')
    · intro a ha b hb e
      subst e
      simp only [Option.mem_toList, List.mem_append, List.mem_map, List.mem_singleton] at ha hb
      rcases hb with ⟨b', hb', rfl⟩ | rfl
      · rcases hv _ ha with e | e
        · exact n4 b'.g (by simp [e]) b'.g (by simp; exact ⟨b', hb', rfl⟩) rfl
        · have := hbl b' hb'; omega
      · rcases hv _ ha with e | e
        · have := (hlt w.heap.size (by simp [foot, e])).2; omega
        · omega
  · refine ⟨g3.os.trans g1.os, g3.tape.trans g1.tape, g3.output.trans g1.output, by simp [World.setCell]; omega, fun k hk hn => ?_⟩
    rw [Below.heap_setCell _ _ _ _ (fun e => hn (by subst e; simp [foot]))]
    exact old k hk (fun e => hn (by simp [foot, ← e]))

/-- A line goes into the last block. -/
theorem TextIs.put {w w1 : World} {B p vb vc : Nat} {b : Blk} {bl : List Blk} {n m : Nat} {line : List UInt8} (h : TextIs w B p (.slice (some ⟨vb, 0, none⟩) (bl.length + 1) vc) (bl ++ [b]) n)
    (hm : b.bytes.length + line.length = m)
    (h1 : w1.ownsRow B 5 1 (.slice (some ⟨b.g, 0, none⟩) m b.cap) m (bcells b.bytes ++ bcells line)) (g1 : w.grownBy w1 (some b.g)) :
    TextIs (w1.setCell ⟨vb, bl.length, none⟩ (.slice (some ⟨b.g, 0, none⟩) m b.cap)) B p (.slice (some ⟨vb, 0, none⟩) (bl.length + 1) vc) (bl ++ [⟨b.g, b.cap, b.bytes ++ line⟩]) n ∧
      Only w (w1.setCell ⟨vb, bl.length, none⟩ (.slice (some ⟨b.g, 0, none⟩) m b.cap)) (foot p (.slice (some ⟨vb, 0, none⟩) (bl.length + 1) vc) (bl ++ [b])) := by
  subst hm
  have hlt := h.lt
  have hnd := h.nd
  simp only [foot, Value.ownBlock, Option.toList, List.map_append, List.map_cons, List.map_nil, List.singleton_append, List.nodup_cons, List.nodup_append, List.mem_cons, List.mem_append, List.mem_map, List.not_mem_nil, or_false, not_or] at hnd hlt
  obtain ⟨⟨n1, n2, n3⟩, ⟨n4, n5⟩, n6, _, n7⟩ := hnd
  refine ⟨⟨?_, ?_, ?_, ?_, h.pB⟩, ?_⟩
  · rw [Below.heap_setCell _ _ _ _ n1, g1.block p (hlt p (.inl rfl)).2 (by simpa using n3)]
    exact h.box
  · have ho : w1.ownsRow B 22 1 (.slice (some ⟨vb, 0, none⟩) (bl.length + 1) vc) (bl.length + 1) ((bl ++ [b]).map Blk.val) := by
      refine ownsRow_congr (by simpa using h.own) (fun g hg => ?_)
      simp [Value.ownBlock] at hg; subst hg
      exact g1.block _ (hlt vb (by simp)).2 (by simpa using n5)
    have hst := ho.stored bl.length (.slice (some ⟨b.g, 0, none⟩) (b.bytes.length + line.length) b.cap)
    have e : (((bl ++ [b]).map Blk.val).set bl.length (.slice (some ⟨b.g, 0, none⟩) (b.bytes.length + line.length) b.cap)) = (bl ++ [(⟨b.g, b.cap, b.bytes ++ line⟩ : Blk)]).map Blk.val := by
      simp [Blk.val]
    rw [e] at hst
    simpa using hst.1
  · intro x hx
    simp only [List.mem_append, List.mem_singleton] at hx
    rcases hx with hx | rfl
    · refine ownsRow_congr (h.each x (by simp [hx])) (fun g hg => ?_)
      simp [Blk.val, Value.ownBlock] at hg; subst hg
      rw [Below.heap_setCell _ _ _ _ (fun e => n4 ⟨x, hx, e⟩), g1.block _ (hlt x.g (by right; right; left; exact ⟨x, hx, rfl⟩)).2 (by simpa using n7 x.g ⟨x, hx, rfl⟩ b.g rfl)]
    · have h1' : w1.ownsRow B 5 1 (.slice (some ⟨b.g, 0, none⟩) (b.bytes ++ line).length b.cap) (b.bytes ++ line).length (bcells (b.bytes ++ line)) := by
        rw [bcells_append]; simpa using h1
      refine ownsRow_congr h1' (fun g hg => ?_)
      simp [Blk.val, Value.ownBlock] at hg; subst hg
      exact Below.heap_setCell _ _ _ _ (fun e => n5 e.symm)
  · have := h.nd
    simpa [foot] using this
  · refine ⟨g1.os, g1.tape, g1.output, by have := g1.size; simp [World.setCell]; omega, fun k hk hn => ?_⟩
    simp [foot, Value.ownBlock] at hn
    rw [Below.heap_setCell _ _ _ _ hn.2.1, g1.block k hk (by simpa using hn.2.2.2)]
end Go.Proofs.Ybulkacye
