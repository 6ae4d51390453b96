import Derived.Test.YbulkacyeTwo
import Derived.Test.YbulkacyeText
namespace Go.Proofs.Ybulkacye
open Go.RowKit
set_option linter.unusedVariables false

def wf (Wb : Nat) (bv ev vv : Value) : List Nat := Wb :: (bv.ownBlock.toList ++ (ev.ownBlock.toList ++ vv.ownBlock.toList))
/-- A weaver in memory: its body, the ends of its lines, the version's line numbers. -/
structure WvG (w : World) (B Wb : Nat) (bv ev vv dv iv : Value) (bo : List UInt8) (en ve : List Int) : Prop where
  box : w.heap[Wb]? = some (.cells #[.int .i64 1, bv, ev, vv, dv, iv] 32 (0, 0))
  ob : w.ownsRow B 5 1 bv bo.length (bcells bo)
  oe : w.ownsRow B 3 1 ev en.length (ints en)
  ov : w.ownsRow B 3 1 vv ve.length (ints ve)
  nd : (wf Wb bv ev vv).Nodup
  pB : B ≤ Wb
  bw : B ≤ w.heap.size
variable {w w' : World} {B Wb : Nat} {bv ev vv dv iv : Value} {bo : List UInt8} {en ve : List Int}
theorem WvG.congr (h : WvG w B Wb bv ev vv dv iv bo en ve) (hk : ∀ g ∈ wf Wb bv ev vv, w'.heap[g]? = w.heap[g]?) (hs : w.heap.size ≤ w'.heap.size) : WvG w' B Wb bv ev vv dv iv bo en ve :=
  ⟨by rw [hk Wb (by simp [wf])]; exact h.box, ownsRow_congr h.ob (fun g hg => hk g (by simp [wf, hg])), ownsRow_congr h.oe (fun g hg => hk g (by simp [wf, hg])), ownsRow_congr h.ov (fun g hg => hk g (by simp [wf, hg])), h.nd, h.pB, Nat.le_trans h.bw hs⟩
theorem WvG.lt (h : WvG w B Wb bv ev vv dv iv bo en ve) : ∀ g ∈ wf Wb bv ev vv, B ≤ g ∧ g < w.heap.size := by
  intro g hg
  simp only [wf, List.mem_cons, List.mem_append, Option.mem_toList] at hg
  rcases hg with rfl | hg | hg | hg
  · exact ⟨h.pB, lt_of_block h.box⟩
  · exact h.ob.lt g hg
  · exact h.oe.lt g hg
  · exact h.ov.lt g hg
theorem WvG.cells (h : WvG w B Wb bv ev vv dv iv bo en ve) : w.cell? ⟨Wb, 1, none⟩ = some bv ∧ w.cell? ⟨Wb, 2, none⟩ = some ev ∧ w.cell? ⟨Wb, 3, none⟩ = some vv ∧ w.cell? ⟨Wb, 4, none⟩ = some dv ∧ w.cell? ⟨Wb, 5, none⟩ = some iv ∧ ∀ j, w.frozen? ⟨Wb, j, none⟩ = false :=
  ⟨blk_cell h.box 1 rfl, blk_cell h.box 2 rfl, blk_cell h.box 3 rfl, blk_cell h.box 4 rfl, blk_cell h.box 5 rfl, fun j => by simp [World.frozen?, h.box]⟩

/-- A field's row is appended to and stored back. -/
theorem WvG.pushB (h : WvG w B Wb bv ev vv dv iv bo en ve) {w0 w1 : World} {x' : Value} {l : List UInt8} (h0 : w.grownBy w0 none) (ho : w1.ownsRow B 5 1 x' (bo.length + l.length) (bcells bo ++ bcells l)) (hg : w0.grownBy w1 bv.ownBlock) (hat : x'.ownBlock = bv.ownBlock ∨ (x'.ownBlock = some w0.heap.size ∧ w0.grownBy w1 none)) :
    WvG (w1.setCell ⟨Wb, 1, none⟩ x') B Wb x' ev vv dv iv (bo ++ l) en ve ∧ Only w (w1.setCell ⟨Wb, 1, none⟩ x') (wf Wb bv ev vv) ∧ (∀ y ∈ wf Wb x' ev vv, y ∈ wf Wb bv ev vv ∨ w.heap.size ≤ y) := by
  have hlt := h.lt
  have hnd := h.nd
  have s0 := h0.size
  have s1 := hg.size
  simp only [wf, List.nodup_cons, List.nodup_append, List.mem_append, Option.mem_toList, not_or] at hnd
  obtain ⟨⟨n1, n2, n3⟩, _, ⟨_, _, n4⟩, n5⟩ := hnd
  have old : ∀ k, k < w.heap.size → some k ≠ bv.ownBlock → w1.heap[k]? = w.heap[k]? := fun k hk hne => by
    rw [hg.block k (by omega) hne, h0.block k hk (by simp)]
  have hW := hlt Wb (by simp [wf])
  have hxW : ∀ g, x'.ownBlock = some g → g ≠ Wb := fun g hgx e => by
    subst e
    rcases hat with a | ⟨a, _⟩
    · rw [a] at hgx; first | exact n1 hgx | exact n2 hgx | exact n3 hgx
    · rw [a] at hgx; cases hgx; omega
  have hfoot : ∀ y ∈ wf Wb x' ev vv, y ∈ wf Wb bv ev vv ∨ w.heap.size ≤ y := by
    intro y hy
    simp only [wf, List.mem_cons, List.mem_append, Option.mem_toList] at hy ⊢
    rcases hat with a | ⟨a, _⟩
    · rw [a] at hy; exact .inl hy
    · rw [a] at hy
      rcases hy with g | g | g | g
      · exact .inl (.inl g)
      all_goals first | exact .inl (.inr (.inl g)) | exact .inl (.inr (.inr (.inl g))) | exact .inl (.inr (.inr (.inr g))) | (cases g; right; omega)
  refine ⟨⟨?_, ?_, ?_, ?_, ?_, h.pB, by have := h.bw; simp [World.setCell]; omega⟩, ?_, hfoot⟩
  · rw [blk_setCell_same (by rw [old Wb hW.2 (fun e => by first | exact n1 e.symm | exact n2 e.symm | exact n3 e.symm)]; exact h.box)]; rfl
  · rw [List.length_append, bcells_append]
    exact ownsRow_congr ho (fun g hgx => Below.heap_setCell _ _ _ _ (hxW g hgx))
  · refine ownsRow_congr h.oe (fun g hgy => ?_)
    have hgl := h.oe.lt g hgy
    rw [Below.heap_setCell _ _ _ _ (fun e => by subst e; first | exact n1 hgy | exact n2 hgy | exact n3 hgy), old g hgl.2 (fun e => ?_)]
    first | exact n4 g hgy g e.symm rfl | exact n4 g e.symm g hgy rfl | exact n5 g hgy g (.inl e.symm) rfl | exact n5 g hgy g (.inr e.symm) rfl | exact n5 g e.symm g (.inl hgy) rfl | exact n5 g e.symm g (.inr hgy) rfl
  · refine ownsRow_congr h.ov (fun g hgy => ?_)
    have hgl := h.ov.lt g hgy
    rw [Below.heap_setCell _ _ _ _ (fun e => by subst e; first | exact n1 hgy | exact n2 hgy | exact n3 hgy), old g hgl.2 (fun e => ?_)]
    first | exact n4 g hgy g e.symm rfl | exact n4 g e.symm g hgy rfl | exact n5 g hgy g (.inl e.symm) rfl | exact n5 g hgy g (.inr e.symm) rfl | exact n5 g e.symm g (.inl hgy) rfl | exact n5 g e.symm g (.inr hgy) rfl
  · rcases hat with a | ⟨a, _⟩
    · have := h.nd
      unfold wf at *
      rw [a]; exact this
    · have lb : ∀ g, bv.ownBlock = some g → g < w.heap.size := fun g hg => (h.ob.lt g hg).2
      have le : ∀ g, ev.ownBlock = some g → g < w.heap.size := fun g hg => (h.oe.lt g hg).2
      have lv : ∀ g, vv.ownBlock = some g → g < w.heap.size := fun g hg => (h.ov.lt g hg).2
      have hnd := h.nd
      simp only [wf, a, List.nodup_cons, List.nodup_append, List.mem_append, Option.mem_toList, not_or] at hnd ⊢
      obtain ⟨⟨m1, m2, m3⟩, m4, ⟨m5, m6, m7⟩, m8⟩ := hnd
      refine ⟨⟨?_, ?_, ?_⟩, ?_, ⟨?_, ?_, ?_⟩, ?_⟩
      all_goals first | assumption | (intro e; cases e; omega) | (simp; done) | skip
      all_goals intro g1 hg1 g2 hg2 e
      all_goals subst e
      all_goals first
        | (cases hg1; rcases hg2 with q | q <;> first | (have := lb _ q; omega) | (have := le _ q; omega) | (have := lv _ q; omega))
        | (cases hg1; first | (have := lb _ hg2; omega) | (have := le _ hg2; omega) | (have := lv _ hg2; omega))
        | (cases hg2; first | (have := lb _ hg1; omega) | (have := le _ hg1; omega) | (have := lv _ hg1; omega))
        | (rcases hg2 with q | q <;> first | exact m8 g1 hg1 g1 (.inl q) rfl | exact m8 g1 hg1 g1 (.inr q) rfl | (cases q; first | (have := lb _ hg1; omega) | (have := le _ hg1; omega) | (have := lv _ hg1; omega)))
  · refine ⟨hg.os.trans h0.os, hg.tape.trans h0.tape, hg.output.trans h0.output, by simp [World.setCell]; omega, fun k hk hn => ?_⟩
    simp only [wf, List.mem_cons, List.mem_append, Option.mem_toList, not_or] at hn
    rw [Below.heap_setCell _ _ _ _ (by exact hn.1), old k hk (fun e => by first | exact hn.2.1 e.symm | exact hn.2.2.1 e.symm | exact hn.2.2.2 e.symm)]
/-- A field's row is appended to and stored back. -/
theorem WvG.pushE (h : WvG w B Wb bv ev vv dv iv bo en ve) {w0 w1 : World} {x' : Value} {z : Int} (h0 : w.grownBy w0 none) (ho : w1.ownsRow B 3 1 x' (en.length + 1) (ints en ++ [.int .i64 z])) (hg : w0.grownBy w1 ev.ownBlock) (hat : x'.ownBlock = ev.ownBlock ∨ (x'.ownBlock = some w0.heap.size ∧ w0.grownBy w1 none)) :
    WvG (w1.setCell ⟨Wb, 2, none⟩ x') B Wb bv x' vv dv iv bo (en ++ [z]) ve ∧ Only w (w1.setCell ⟨Wb, 2, none⟩ x') (wf Wb bv ev vv) ∧ (∀ y ∈ wf Wb bv x' vv, y ∈ wf Wb bv ev vv ∨ w.heap.size ≤ y) := by
  have hlt := h.lt
  have hnd := h.nd
  have s0 := h0.size
  have s1 := hg.size
  simp only [wf, List.nodup_cons, List.nodup_append, List.mem_append, Option.mem_toList, not_or] at hnd
  obtain ⟨⟨n1, n2, n3⟩, _, ⟨_, _, n4⟩, n5⟩ := hnd
  have old : ∀ k, k < w.heap.size → some k ≠ ev.ownBlock → w1.heap[k]? = w.heap[k]? := fun k hk hne => by
    rw [hg.block k (by omega) hne, h0.block k hk (by simp)]
  have hW := hlt Wb (by simp [wf])
  have hxW : ∀ g, x'.ownBlock = some g → g ≠ Wb := fun g hgx e => by
    subst e
    rcases hat with a | ⟨a, _⟩
    · rw [a] at hgx; first | exact n1 hgx | exact n2 hgx | exact n3 hgx
    · rw [a] at hgx; cases hgx; omega
  have hfoot : ∀ y ∈ wf Wb bv x' vv, y ∈ wf Wb bv ev vv ∨ w.heap.size ≤ y := by
    intro y hy
    simp only [wf, List.mem_cons, List.mem_append, Option.mem_toList] at hy ⊢
    rcases hat with a | ⟨a, _⟩
    · rw [a] at hy; exact .inl hy
    · rw [a] at hy
      rcases hy with g | g | g | g
      · exact .inl (.inl g)
      all_goals first | exact .inl (.inr (.inl g)) | exact .inl (.inr (.inr (.inl g))) | exact .inl (.inr (.inr (.inr g))) | (cases g; right; omega)
  refine ⟨⟨?_, ?_, ?_, ?_, ?_, h.pB, by have := h.bw; simp [World.setCell]; omega⟩, ?_, hfoot⟩
  · rw [blk_setCell_same (by rw [old Wb hW.2 (fun e => by first | exact n1 e.symm | exact n2 e.symm | exact n3 e.symm)]; exact h.box)]; rfl
  · refine ownsRow_congr h.ob (fun g hgy => ?_)
    have hgl := h.ob.lt g hgy
    rw [Below.heap_setCell _ _ _ _ (fun e => by subst e; first | exact n1 hgy | exact n2 hgy | exact n3 hgy), old g hgl.2 (fun e => ?_)]
    first | exact n4 g hgy g e.symm rfl | exact n4 g e.symm g hgy rfl | exact n5 g hgy g (.inl e.symm) rfl | exact n5 g hgy g (.inr e.symm) rfl | exact n5 g e.symm g (.inl hgy) rfl | exact n5 g e.symm g (.inr hgy) rfl
  · rw [List.length_append, show ints (en ++ [z]) = ints en ++ [.int .i64 z] from by simp [ints]]
    exact ownsRow_congr ho (fun g hgx => Below.heap_setCell _ _ _ _ (hxW g hgx))
  · refine ownsRow_congr h.ov (fun g hgy => ?_)
    have hgl := h.ov.lt g hgy
    rw [Below.heap_setCell _ _ _ _ (fun e => by subst e; first | exact n1 hgy | exact n2 hgy | exact n3 hgy), old g hgl.2 (fun e => ?_)]
    first | exact n4 g hgy g e.symm rfl | exact n4 g e.symm g hgy rfl | exact n5 g hgy g (.inl e.symm) rfl | exact n5 g hgy g (.inr e.symm) rfl | exact n5 g e.symm g (.inl hgy) rfl | exact n5 g e.symm g (.inr hgy) rfl
  · rcases hat with a | ⟨a, _⟩
    · have := h.nd
      unfold wf at *
      rw [a]; exact this
    · have lb : ∀ g, bv.ownBlock = some g → g < w.heap.size := fun g hg => (h.ob.lt g hg).2
      have le : ∀ g, ev.ownBlock = some g → g < w.heap.size := fun g hg => (h.oe.lt g hg).2
      have lv : ∀ g, vv.ownBlock = some g → g < w.heap.size := fun g hg => (h.ov.lt g hg).2
      have hnd := h.nd
      simp only [wf, a, List.nodup_cons, List.nodup_append, List.mem_append, Option.mem_toList, not_or] at hnd ⊢
      obtain ⟨⟨m1, m2, m3⟩, m4, ⟨m5, m6, m7⟩, m8⟩ := hnd
      refine ⟨⟨?_, ?_, ?_⟩, ?_, ⟨?_, ?_, ?_⟩, ?_⟩
      all_goals first | assumption | (intro e; cases e; omega) | (simp; done) | skip
      all_goals intro g1 hg1 g2 hg2 e
      all_goals subst e
      all_goals first
        | (cases hg1; rcases hg2 with q | q <;> first | (have := lb _ q; omega) | (have := le _ q; omega) | (have := lv _ q; omega))
        | (cases hg1; first | (have := lb _ hg2; omega) | (have := le _ hg2; omega) | (have := lv _ hg2; omega))
        | (cases hg2; first | (have := lb _ hg1; omega) | (have := le _ hg1; omega) | (have := lv _ hg1; omega))
        | (rcases hg2 with q | q <;> first | exact m8 g1 hg1 g1 (.inl q) rfl | exact m8 g1 hg1 g1 (.inr q) rfl | (cases q; first | (have := lb _ hg1; omega) | (have := le _ hg1; omega) | (have := lv _ hg1; omega)))
  · refine ⟨hg.os.trans h0.os, hg.tape.trans h0.tape, hg.output.trans h0.output, by simp [World.setCell]; omega, fun k hk hn => ?_⟩
    simp only [wf, List.mem_cons, List.mem_append, Option.mem_toList, not_or] at hn
    rw [Below.heap_setCell _ _ _ _ (by exact hn.1), old k hk (fun e => by first | exact hn.2.1 e.symm | exact hn.2.2.1 e.symm | exact hn.2.2.2 e.symm)]
/-- A field's row is appended to and stored back. -/
theorem WvG.pushV (h : WvG w B Wb bv ev vv dv iv bo en ve) {w0 w1 : World} {x' : Value} {z : Int} (h0 : w.grownBy w0 none) (ho : w1.ownsRow B 3 1 x' (ve.length + 1) (ints ve ++ [.int .i64 z])) (hg : w0.grownBy w1 vv.ownBlock) (hat : x'.ownBlock = vv.ownBlock ∨ (x'.ownBlock = some w0.heap.size ∧ w0.grownBy w1 none)) :
    WvG (w1.setCell ⟨Wb, 3, none⟩ x') B Wb bv ev x' dv iv bo en (ve ++ [z]) ∧ Only w (w1.setCell ⟨Wb, 3, none⟩ x') (wf Wb bv ev vv) ∧ (∀ y ∈ wf Wb bv ev x', y ∈ wf Wb bv ev vv ∨ w.heap.size ≤ y) := by
  have hlt := h.lt
  have hnd := h.nd
  have s0 := h0.size
  have s1 := hg.size
  simp only [wf, List.nodup_cons, List.nodup_append, List.mem_append, Option.mem_toList, not_or] at hnd
  obtain ⟨⟨n1, n2, n3⟩, _, ⟨_, _, n4⟩, n5⟩ := hnd
  have old : ∀ k, k < w.heap.size → some k ≠ vv.ownBlock → w1.heap[k]? = w.heap[k]? := fun k hk hne => by
    rw [hg.block k (by omega) hne, h0.block k hk (by simp)]
  have hW := hlt Wb (by simp [wf])
  have hxW : ∀ g, x'.ownBlock = some g → g ≠ Wb := fun g hgx e => by
    subst e
    rcases hat with a | ⟨a, _⟩
    · rw [a] at hgx; first | exact n1 hgx | exact n2 hgx | exact n3 hgx
    · rw [a] at hgx; cases hgx; omega
  have hfoot : ∀ y ∈ wf Wb bv ev x', y ∈ wf Wb bv ev vv ∨ w.heap.size ≤ y := by
    intro y hy
    simp only [wf, List.mem_cons, List.mem_append, Option.mem_toList] at hy ⊢
    rcases hat with a | ⟨a, _⟩
    · rw [a] at hy; exact .inl hy
    · rw [a] at hy
      rcases hy with g | g | g | g
      · exact .inl (.inl g)
      all_goals first | exact .inl (.inr (.inl g)) | exact .inl (.inr (.inr (.inl g))) | exact .inl (.inr (.inr (.inr g))) | (cases g; right; omega)
  refine ⟨⟨?_, ?_, ?_, ?_, ?_, h.pB, by have := h.bw; simp [World.setCell]; omega⟩, ?_, hfoot⟩
  · rw [blk_setCell_same (by rw [old Wb hW.2 (fun e => by first | exact n1 e.symm | exact n2 e.symm | exact n3 e.symm)]; exact h.box)]; rfl
  · refine ownsRow_congr h.ob (fun g hgy => ?_)
    have hgl := h.ob.lt g hgy
    rw [Below.heap_setCell _ _ _ _ (fun e => by subst e; first | exact n1 hgy | exact n2 hgy | exact n3 hgy), old g hgl.2 (fun e => ?_)]
    first | exact n4 g hgy g e.symm rfl | exact n4 g e.symm g hgy rfl | exact n5 g hgy g (.inl e.symm) rfl | exact n5 g hgy g (.inr e.symm) rfl | exact n5 g e.symm g (.inl hgy) rfl | exact n5 g e.symm g (.inr hgy) rfl
  · refine ownsRow_congr h.oe (fun g hgy => ?_)
    have hgl := h.oe.lt g hgy
    rw [Below.heap_setCell _ _ _ _ (fun e => by subst e; first | exact n1 hgy | exact n2 hgy | exact n3 hgy), old g hgl.2 (fun e => ?_)]
    first | exact n4 g hgy g e.symm rfl | exact n4 g e.symm g hgy rfl | exact n5 g hgy g (.inl e.symm) rfl | exact n5 g hgy g (.inr e.symm) rfl | exact n5 g e.symm g (.inl hgy) rfl | exact n5 g e.symm g (.inr hgy) rfl
  · rw [List.length_append, show ints (ve ++ [z]) = ints ve ++ [.int .i64 z] from by simp [ints]]
    exact ownsRow_congr ho (fun g hgx => Below.heap_setCell _ _ _ _ (hxW g hgx))
  · rcases hat with a | ⟨a, _⟩
    · have := h.nd
      unfold wf at *
      rw [a]; exact this
    · have lb : ∀ g, bv.ownBlock = some g → g < w.heap.size := fun g hg => (h.ob.lt g hg).2
      have le : ∀ g, ev.ownBlock = some g → g < w.heap.size := fun g hg => (h.oe.lt g hg).2
      have lv : ∀ g, vv.ownBlock = some g → g < w.heap.size := fun g hg => (h.ov.lt g hg).2
      have hnd := h.nd
      simp only [wf, a, List.nodup_cons, List.nodup_append, List.mem_append, Option.mem_toList, not_or] at hnd ⊢
      obtain ⟨⟨m1, m2, m3⟩, m4, ⟨m5, m6, m7⟩, m8⟩ := hnd
      refine ⟨⟨?_, ?_, ?_⟩, ?_, ⟨?_, ?_, ?_⟩, ?_⟩
      all_goals first | assumption | (intro e; cases e; omega) | (simp; done) | skip
      all_goals intro g1 hg1 g2 hg2 e
      all_goals subst e
      all_goals first
        | (cases hg1; rcases hg2 with q | q <;> first | (have := lb _ q; omega) | (have := le _ q; omega) | (have := lv _ q; omega))
        | (cases hg1; first | (have := lb _ hg2; omega) | (have := le _ hg2; omega) | (have := lv _ hg2; omega))
        | (cases hg2; first | (have := lb _ hg1; omega) | (have := le _ hg1; omega) | (have := lv _ hg1; omega))
        | (rcases hg2 with q | q <;> first | exact m8 g1 hg1 g1 (.inl q) rfl | exact m8 g1 hg1 g1 (.inr q) rfl | (cases q; first | (have := lb _ hg1; omega) | (have := le _ hg1; omega) | (have := lv _ hg1; omega)))
  · refine ⟨hg.os.trans h0.os, hg.tape.trans h0.tape, hg.output.trans h0.output, by simp [World.setCell]; omega, fun k hk hn => ?_⟩
    simp only [wf, List.mem_cons, List.mem_append, Option.mem_toList, not_or] at hn
    rw [Below.heap_setCell _ _ _ _ (by exact hn.1), old k hk (fun e => by first | exact hn.2.1 e.symm | exact hn.2.2.1 e.symm | exact hn.2.2.2 e.symm)]
end Go.Proofs.Ybulkacye
