import Derived.Test.YbulkacyeEqual
namespace Go.Proofs.Ybulkacye
open Go.RowKit
set_option linter.unusedVariables false

/-- The law's own writer in memory. -/
structure WrIs (w : World) (B q : Nat) (bv : Value) (bs : List UInt8) (c : Nat) : Prop where
  box : w.heap[q]? = some (.cells #[bv, .int .i64 c] 45 (0, 0))
  own : w.ownsRow B 5 1 bv bs.length (bcells bs)
  ne : bv.ownBlock ≠ some q
  qB : B ≤ q

def wfoot (q : Nat) (bv : Value) : List Nat := q :: bv.ownBlock.toList

theorem WrIs.congr {w w' : World} {B q : Nat} {bv : Value} {bs : List UInt8} {c : Nat} (h : WrIs w B q bv bs c) (hk : ∀ g ∈ wfoot q bv, w'.heap[g]? = w.heap[g]?) : WrIs w' B q bv bs c :=
  ⟨by rw [hk q (by simp [wfoot])]; exact h.box, ownsRow_congr h.own (fun g hg => hk g (by simp [wfoot, hg])), h.ne, h.qB⟩
theorem WrIs.lt {w : World} {B q : Nat} {bv : Value} {bs : List UInt8} {c : Nat} (h : WrIs w B q bv bs c) : ∀ g ∈ wfoot q bv, B ≤ g ∧ g < w.heap.size := by
  intro g hg
  simp only [wfoot, List.mem_cons, Option.mem_toList] at hg
  rcases hg with rfl | hg
  · exact ⟨h.qB, lt_of_block h.box⟩
  · exact h.own.lt g hg

theorem WrIs.wrote {w w1 : World} {B q : Nat} {bv bv' : Value} {bs p : List UInt8} {c m : Nat} (h : WrIs w B q bv bs c) (hm : m = p.length)
    (h1 : w1.ownsRow B 5 1 bv' (bs.length + m) (bcells bs ++ bcells p)) (g1 : w.grownBy w1 bv.ownBlock) (hat : bv'.ownBlock = bv.ownBlock ∨ (bv'.ownBlock = some w.heap.size ∧ w.grownBy w1 none)) :
    WrIs ((w1.setCell ⟨q, 0, none⟩ bv').setCell ⟨q, 1, none⟩ (.int .i64 (c + 1))) B q bv' (bs ++ p) (c + 1) ∧
    Only w ((w1.setCell ⟨q, 0, none⟩ bv').setCell ⟨q, 1, none⟩ (.int .i64 (c + 1))) (wfoot q bv) ∧ (∀ x ∈ wfoot q bv', x ∈ wfoot q bv ∨ w.heap.size ≤ x) ∧
    w1.cell? ⟨q, 0, none⟩ = some bv ∧ w1.frozen? ⟨q, 0, none⟩ = false ∧
    (w1.setCell ⟨q, 0, none⟩ bv').cell? ⟨q, 1, none⟩ = some (.int .i64 c) ∧ (w1.setCell ⟨q, 0, none⟩ bv').frozen? ⟨q, 1, none⟩ = false := by
  subst hm
  have hq : q < w.heap.size := (h.lt q (by simp [wfoot])).2
  have hne : bv'.ownBlock ≠ some q := by
    rcases hat with e | ⟨e, _⟩
    · rw [e]; exact h.ne
    · rw [e]; intro hh; cases hh; omega
  have b1 : w1.heap[q]? = some (.cells #[bv, .int .i64 c] 45 (0, 0)) := by rw [g1.block q hq (fun e => h.ne e.symm)]; exact h.box
  have b2 : (w1.setCell ⟨q, 0, none⟩ bv').heap[q]? = some (.cells #[bv', .int .i64 c] 45 (0, 0)) := by rw [blk_setCell_same b1]; rfl
  have b3 : ((w1.setCell ⟨q, 0, none⟩ bv').setCell ⟨q, 1, none⟩ (.int .i64 (c + 1))).heap[q]? = some (.cells #[bv', .int .i64 ((c + 1 : Nat) : Int)] 45 (0, 0)) := by rw [blk_setCell_same b2]; simp
  refine ⟨⟨b3, ?_, hne, h.qB⟩, ?_, ?_, by simp [World.cell?, b1], by simp [World.frozen?, b1], by simp [World.cell?, b2], by simp [World.frozen?, b2]⟩
  · rw [bcells_append, List.length_append]
    refine ownsRow_congr h1 (fun g hg => ?_)
    have : g ≠ q := fun e => hne (by rw [hg, e])
    rw [Below.heap_setCell _ _ _ _ this, Below.heap_setCell _ _ _ _ this]
  · exact (((Only.refl w (wfoot q bv)).grown g1 (fun k hk => .inl (by simp [wfoot, hk]))).setCell _ _ (.inl (by simp [wfoot]))).setCell _ _ (.inl (by simp [wfoot]))
  · intro x hx
    simp only [wfoot, List.mem_cons, Option.mem_toList] at hx ⊢
    rcases hx with rfl | hx
    · exact .inl (.inl rfl)
    · rcases hat with e | ⟨e, _⟩
      · rw [e] at hx; exact .inl (.inr hx)
      · rw [e] at hx; cases hx; exact .inr (Nat.le_refl _)

theorem own_slice {w : World} {base : Nat} {e : TypeId} {size : Nat} {v : Value} {n : Nat} {xs : List Value} (h : w.ownsRow base e size v n xs) : ∃ ao cp, v = .slice ao n cp := by
  rcases h.2 with ⟨rfl, h0⟩ | ⟨g, cap, cur, rfl, _⟩
  · exact ⟨none, 0, by rw [h0]⟩
  · exact ⟨_, _, rfl⟩

set_option maxHeartbeats 400000 in
theorem write_any (w : World) (B q : Nat) (bv : Value) (bs : List UInt8) (c : Nat) (h : WrIs w B q bv bs c) (g m cp : Nat) (p : List UInt8) (hm : m = p.length)
    (hp : ∀ j u, (bcells p)[j]? = some u → w.cell? ((⟨g, 0, none⟩ : Addr).add j) = some u) (hsz : bs.length + m ≤ 1000000000) (hc : c ≤ 1000000000) (hB : B ≤ w.heap.size) :
    Calls Yba.prog 41 #[.pointer (some ⟨q, 0, none⟩), .slice (some ⟨g, 0, none⟩) m cp] w fun e w' => e = .returned (.tuple #[.int .i64 m, .nilIface]) ∧ ∃ bv', WrIs w' B q bv' (bs ++ p) (c + 1) ∧ Only w w' (wfoot q bv) ∧
      (∀ x ∈ wfoot q bv', x ∈ wfoot q bv ∨ w.heap.size ≤ x) := by
  obtain ⟨i0, hi0, hz0, hz1, hz2⟩ := info_parts Yba.info5
  have c0 : w.cell? ⟨q, 0, none⟩ = some bv := by simp [World.cell?, h.box]
  have hll : (bcells p).length = m * 1 := by rw [bcells_length, hm]; omega
  have a63 : bs.length + m ≤ maxLen := by unfold maxLen; omega
  have a47 : (bs.length + m) * 1 ≤ 140737488355328 := by omega
  have HM : Hid (m = p.length) := hm
  clear hm
  go_enter Yba.func41, Yba.ntmps41
  go_wp2_with (at_builtin; refine wpList_append_any _ rfl (.tmp 10) (.tmp 11) 22 22 rfl B 5 i0 _ 1 1 Yba.underlying22 hi0 hz0 hz1 hz2 rfl bv bs.length (bcells bs) rfl h.own (.slice (some ⟨g, 0, none⟩) m cp) m (bcells p) rfl (Src.ofSlice _ Yba.underlying22 ⟨g, 0, none⟩ m cp (bcells p) hll hp (bcells_one p)) a63 a47 hB ?_; intro bv' w1 ho1 hg1 hat1 _; obtain ⟨ao', cp', hv'⟩ := own_slice ho1; subst hv'; obtain ⟨t1, t2, t3, t4, t5, t6, t7⟩ := h.wrote HM.out ho1 hg1 hat1)
  go_ret2
  exact ⟨rfl, _, t1, t2, t3⟩
end Go.Proofs.Ybulkacye
