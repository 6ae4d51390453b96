import Derived.Test.YbulkacyeSea
import Derived.Test.YbulkacyeCmn
import Derived.Deep.AppendLies
namespace Go.Proofs.Ybulkacye
open Go.RowKit
set_option linter.unusedVariables false
set_option linter.unusedSectionVars false

/-- Below base all but the blocks of F is as it was. -/
structure Kp (base : Nat) (F : List Nat) (w w' : World) : Prop where
  os : w'.os = w.os
  tape : w'.tape = w.tape
  output : w'.output = w.output
  size : w.heap.size ≤ w'.heap.size
  block : ∀ k, k < base → k ∉ F → w'.heap[k]? = w.heap[k]?
theorem Kp.refl (base : Nat) (F : List Nat) (w : World) : Kp base F w w := ⟨rfl, rfl, rfl, Nat.le_refl _, fun _ _ _ => rfl⟩
theorem Kp.trans {base : Nat} {F : List Nat} {w w1 w2 : World} (h : Kp base F w w1) (k : Kp base F w1 w2) : Kp base F w w2 :=
  ⟨k.os.trans h.os, k.tape.trans h.tape, k.output.trans h.output, Nat.le_trans h.size k.size, fun i hi hn => (k.block i hi hn).trans (h.block i hi hn)⟩
theorem Kp.drewN {base : Nat} {F : List Nat} {w w1 : World} (h : Kp base F w w1) (n : Nat) : Kp base F w (w1.drewN n) := ⟨h.os, h.tape, h.output, h.size, h.block⟩
theorem Kp.ofOnly {base : Nat} {F G : List Nat} {w w1 : World} (h : Only w w1 G) (hb : base ≤ w.heap.size) (hG : ∀ x ∈ G, x ∈ F ∨ base ≤ x) : Kp base F w w1 :=
  ⟨h.os, h.tape, h.output, h.size, fun k hk hn => h.block k (by omega) (fun hm => by rcases hG k hm with a | a; exact hn a; omega)⟩
theorem Kp.only {base : Nat} {F : List Nat} {w w1 : World} (h : Kp base F w w1) (hb : w.heap.size ≤ base) : Only w w1 F :=
  ⟨h.os, h.tape, h.output, h.size, fun k hk hn => h.block k (by omega) hn⟩

variable {S ga gb GF GR o N ca cb : Nat} {ao bo : Option Addr} {xa xb : List Int} {fs : Value} {f r : Int → Int} {w w' : World}

theorem Sea.congr (h : Sea S ga gb GF GR o N ca cb ao bo xa xb fs f r w) (hS : w'.heap[S]? = w.heap[S]?) (hga : w'.heap[ga]? = w.heap[ga]?) (hgb : w'.heap[gb]? = w.heap[gb]?) (hF : w'.heap[GF]? = w.heap[GF]?) (hR : w'.heap[GR]? = w.heap[GR]?) :
    Sea S ga gb GF GR o N ca cb ao bo xa xb fs f r w' := by
  refine ⟨by rw [hS]; exact h.box, fun i v hv => ?_, fun i v hv => ?_, by rw [hF]; exact h.fw, by rw [hR]; exact h.rv, h.sf, h.sr, h.fr, h.af, h.ar, h.bf, h.br⟩
  · obtain ⟨e, c⟩ := h.ra i v hv
    exact ⟨e, by rw [World.cell?_of_block (a := ⟨ga, i, none⟩) hga]; exact c⟩
  · obtain ⟨e, c⟩ := h.rb i v hv
    exact ⟨e, by rw [World.cell?_of_block (a := ⟨gb, i, none⟩) hgb]; exact c⟩

theorem Sea.setFs (h : Sea S ga gb GF GR o N ca cb ao bo xa xb fs f r w) (v : Value) (sa : ga ≠ S) (sb : gb ≠ S) :
    Sea S ga gb GF GR o N ca cb ao bo xa xb v f r (w.setCell ⟨S, 2, none⟩ v) := by
  refine ⟨by rw [blk_setCell_same h.box]; rfl, fun i u hu => ?_, fun i u hu => ?_, ?_, ?_, h.sf, h.sr, h.fr, h.af, h.ar, h.bf, h.br⟩
  · obtain ⟨e, c⟩ := h.ra i u hu
    exact ⟨e, (cell_setCell_ne _ sa).trans c⟩
  · obtain ⟨e, c⟩ := h.rb i u hu
    exact ⟨e, (cell_setCell_ne _ sb).trans c⟩
  · rw [Below.heap_setCell _ _ _ _ (fun e => h.sf e.symm)]; exact h.fw
  · rw [Below.heap_setCell _ _ _ _ (fun e => h.sr e.symm)]; exact h.rv

def mcells (M : List (Nat × Nat)) : List Value := M.flatMap fun p => [.int .i64 p.1, .int .i64 p.2]
theorem mcells_length (M : List (Nat × Nat)) : (mcells M).length = M.length * 2 := by
  induction M with
  | nil => rfl
  | cons p M ih => simp only [mcells, List.flatMap_cons, List.length_append, List.length_cons] at *; rw [ih]; simp; omega
theorem mcells_push (M : List (Nat × Nat)) (i j : Nat) : mcells (M ++ [(i, j)]) = mcells M ++ [.int .i64 i, .int .i64 j] := by simp [mcells]

/-- The search in memory with the matches found so far. -/
structure Se (S ga gb GF GR o N ca cb base : Nat) (ao bo : Option Addr) (xa xb : List Int) (fs : Value) (f r : Int → Int) (M : List (Nat × Nat)) (w : World) : Prop where
  sea : Sea S ga gb GF GR o N ca cb ao bo xa xb fs f r w
  own : w.ownsRow base 57 2 fs M.length (mcells M)
  lS : S < base
  la : ga < base
  lb : gb < base
  lF : GF < base
  lR : GR < base
  sa : ga ≠ S
  sb : gb ≠ S
  bw : base ≤ w.heap.size

variable {base : Nat} {M : List (Nat × Nat)}
theorem Se.drewN (h : Se S ga gb GF GR o N ca cb base ao bo xa xb fs f r M w) (n : Nat) : Se S ga gb GF GR o N ca cb base ao bo xa xb fs f r M (w.drewN n) :=
  ⟨h.sea.drewN n, ownsRow_congr h.own (fun _ _ => rfl), h.lS, h.la, h.lb, h.lF, h.lR, h.sa, h.sb, h.bw⟩
/-- middleSnake has turned the two rows. -/
theorem Se.rows {f' r' : Int → Int} (h : Se S ga gb GF GR o N ca cb base ao bo xa xb fs f r M w) (hs : Sea S ga gb GF GR o N ca cb ao bo xa xb fs f' r' w') (ho : Only w w' [GF, GR]) :
    Se S ga gb GF GR o N ca cb base ao bo xa xb fs f' r' M w' := by
  have hlt := h.own.lt
  have lF := h.lF
  have lR := h.lR
  refine ⟨hs, ownsRow_congr h.own (fun g hg => ho.block g (hlt g hg).2 ?_), h.lS, h.la, h.lb, h.lF, h.lR, h.sa, h.sb, Nat.le_trans h.bw ho.size⟩
  have := (hlt g hg).1
  simp
  constructor <;> intro e <;> omega
/-- A match is appended. -/
theorem Se.push (h : Se S ga gb GF GR o N ca cb base ao bo xa xb fs f r M w) (ob : Obj) {v' : Value} {w1 : World} (i j : Nat) (ho1 : w1.ownsRow base 57 2 v' (M.length + 1) (mcells M ++ [.int .i64 i, .int .i64 j])) (hg1 : (w.alloc ob).grownBy w1 fs.ownBlock) :
    Se S ga gb GF GR o N ca cb base ao bo xa xb v' f r (M ++ [(i, j)]) (w1.setCell ⟨S, 2, none⟩ v') ∧ Kp base [S, GF, GR] w (w1.setCell ⟨S, 2, none⟩ v') := by
  have hlt := h.own.lt
  have bw := h.bw
  have lS := h.lS
  have la := h.la
  have lb := h.lb
  have lF := h.lF
  have lR := h.lR
  have old : ∀ k, k < base → w1.heap[k]? = w.heap[k]? := fun k hk => by
    rw [hg1.block k (by simp; omega) (fun e => by have := (hlt k e.symm).1; omega), Below.heap_alloc _ _ _ (by omega)]
  have hsz := hg1.size
  simp at hsz
  have hs1 : Sea S ga gb GF GR o N ca cb ao bo xa xb fs f r w1 := h.sea.congr (old S lS) (old ga la) (old gb lb) (old GF lF) (old GR lR)
  refine ⟨⟨hs1.setFs v' h.sa h.sb, ?_, lS, la, lb, lF, lR, h.sa, h.sb, by simp [World.setCell]; omega⟩, ?_⟩
  · rw [List.length_append, mcells_push]
    refine ownsRow_congr ho1 (fun g hg => ?_)
    have := (ho1.lt g hg).1
    exact Below.heap_setCell _ _ _ _ (by show g ≠ S; omega)
  · refine ⟨hg1.os, hg1.tape, hg1.output, by simp [World.setCell]; omega, fun k hk hn => ?_⟩
    rw [Below.heap_setCell _ _ _ _ (by show k ≠ S; intro e; subst e; simp at hn), old k hk]
theorem news_two (w : World) (a b : Value) (t : TypeId) : ∀ j u, [a, b][j]? = some u → (w.alloc (.cells #[a, b] t)).cell? ((⟨w.heap.size, 0, none⟩ : Addr).add j) = some u := fun j u hu =>
  World.news_of_block (cs := #[a, b]) (fr := (0, 0)) (heap_alloc_new w _) j u (by simpa using hu)
end Go.Proofs.Ybulkacye
