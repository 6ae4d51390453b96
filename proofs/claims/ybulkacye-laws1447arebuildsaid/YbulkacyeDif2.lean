import Derived.Test.YbulkacyeDif
namespace Go.Proofs.Ybulkacye
open Go.RowKit Go.Proofs.Ybulkacye.Lcs
set_option linter.unusedVariables false
set_option linter.unusedSectionVars false
variable {v0 v1 v5 v8 v9 v11 v12 v22 v23 v24 v54 v55 v56 : Value} {a : Act} {Q : Exit → Act → World → Prop} {w : World} {base Wb gl gd gp gm : Nat} {n m k : Nat} {R : Act → World → Prop}

set_option maxRecDepth 20000 in
set_option maxHeartbeats 4000000 in
theorem d12 {gf nf cf ma mb : Nat} (hk : k < nf) (hn : nf ≤ 1000) (c1 : w.cell? ⟨gf, k * 2, none⟩ = some (.int .i64 (ma : Int))) (c2 : w.cell? ⟨gf, k * 2 + 1, none⟩ = some (.int .i64 (mb : Int))) (h : Ff v0 v1 v5 v8 v9 v11 v12 v22 v23 v24 (.slice (some ⟨gf, 0, none⟩) nf cf) v55 (.int .i64 k) a) (hQ : ∀ a', Ff v0 v1 v5 v8 v9 (.pointer (some ⟨w.heap.size, 0, none⟩)) v12 v22 v23 v24 (.slice (some ⟨gf, 0, none⟩) nf cf) v55 (.int .i64 k) a' → Q .normal a' (w.alloc (.cells #[.int .i64 (ma : Int), .int .i64 (mb : Int)] 57))) : Code.wp Yba.prog (pc8 [1, 1, 1, 1, 1, 1, 0, 1, 0, 0, 1, 1, 0, 0, 0]) Q a w := by

  obtain ⟨u, rfl⟩ := h.lay
  clear h
  conv => arg 2; whnf
  go_wp2
  exact ⟨rfl, rfl, rfl, rfl, rfl, rfl, rfl, rfl, rfl, rfl, rfl, rfl, rfl, rfl, rfl⟩

set_option maxRecDepth 20000 in
set_option maxHeartbeats 4000000 in
theorem d13 {a0 : Nat} (ha : a0 ≤ 1000) (c1 : w.cell? ⟨gp, 0, none⟩ = some (.int .i64 ((a0 : Int) - 1))) (h : Ff v0 v1 v5 v8 (.pointer (some ⟨gp, 0, none⟩)) v11 v12 v22 v23 v24 v54 v55 v56 a) (hQ : ∀ a', Ff v0 v1 v5 v8 (.pointer (some ⟨gp, 0, none⟩)) v11 (.int .i64 a0) v22 v23 v24 v54 v55 v56 a' → Q .normal a' w) : Code.wp Yba.prog (pc8 [1, 1, 1, 1, 1, 1, 0, 1, 0, 0, 1, 1, 0, 0, 1, 0, 0]) Q a w := by
  have e : (a0 : Int) - 1 + 1 = a0 := by omega

  obtain ⟨u, rfl⟩ := h.lay
  clear h
  conv => arg 2; whnf
  go_wp2
  exact ⟨rfl, rfl, rfl, rfl, rfl, rfl, rfl, rfl, rfl, rfl, rfl, rfl, rfl, rfl, rfl⟩

set_option maxRecDepth 20000 in
set_option maxHeartbeats 4000000 in
theorem dh14 {j ma : Nat} (c1 : w.cell? ⟨gm, 0, none⟩ = some (.int .i64 (ma : Int))) (h : Ff v0 v1 v5 v8 v9 (.pointer (some ⟨gm, 0, none⟩)) (.int .i64 j) v22 v23 v24 v54 v55 v56 a) (hE : ¬ j < ma → ∀ a', Ff v0 v1 v5 v8 v9 (.pointer (some ⟨gm, 0, none⟩)) (.int .i64 j) v22 v23 v24 v54 v55 v56 a' → Q (.exit 4) a' w) (hQ : j < ma → ∀ a', Ff v0 v1 v5 v8 v9 (.pointer (some ⟨gm, 0, none⟩)) (.int .i64 j) v22 v23 v24 v54 v55 v56 a' → Q .normal a' w) : Code.wp Yba.prog (pc8 [1, 1, 1, 1, 1, 1, 0, 1, 0, 0, 1, 1, 0, 0, 1, 0, 1, 0, 0, 0]) Q a w := by
  obtain ⟨u, rfl⟩ := h.lay
  clear h
  by_cases c : j < ma
  · have hQ := hQ c
    clear hE
    conv => arg 2; whnf
    go_wp2
    exact ⟨rfl, rfl, rfl, rfl, rfl, rfl, rfl, rfl, rfl, rfl, rfl, rfl, rfl, rfl, rfl⟩
  · have hE := hE c
    clear hQ
    conv => arg 2; whnf
    go_wp2
    exact ⟨rfl, rfl, rfl, rfl, rfl, rfl, rfl, rfl, rfl, rfl, rfl, rfl, rfl, rfl, rfl⟩

set_option maxRecDepth 20000 in
set_option maxHeartbeats 4000000 in
theorem d16 {j : Nat} {u0 : Bool} (hj : j < n) (hn : n ≤ 1000) (c1 : w.cell? ⟨Wb, 4, none⟩ = some (.slice (some ⟨gd, 0, none⟩) n n)) (c2 : w.cell? ⟨gd, j, none⟩ = some (.bool u0)) (f2 : w.frozen? ⟨gd, j, none⟩ = false) (h : Ff (.pointer (some ⟨Wb, 0, none⟩)) v1 v5 v8 v9 v11 (.int .i64 j) v22 v23 v24 v54 v55 v56 a) (hQ : ∀ a', Ff (.pointer (some ⟨Wb, 0, none⟩)) v1 v5 v8 v9 v11 (.int .i64 j) v22 v23 v24 v54 v55 v56 a' → Q .normal a' (w.setCell ⟨gd, j, none⟩ (.bool true))) : Code.wp Yba.prog (pc8 [1, 1, 1, 1, 1, 1, 0, 1, 0, 0, 1, 1, 0, 0, 1, 0, 1, 0, 0, 1, 0, 0]) Q a w := by

  obtain ⟨u, rfl⟩ := h.lay
  clear h
  conv => arg 2; whnf
  go_wp2
  exact ⟨rfl, rfl, rfl, rfl, rfl, rfl, rfl, rfl, rfl, rfl, rfl, rfl, rfl, rfl, rfl⟩

set_option maxRecDepth 20000 in
set_option maxHeartbeats 4000000 in
theorem d17 {b0 mb : Nat} (hb : b0 ≤ 1000) (c1 : w.cell? ⟨gm, 1, none⟩ = some (.int .i64 (mb : Int))) (c2 : w.cell? ⟨gp, 1, none⟩ = some (.int .i64 ((b0 : Int) - 1))) (h : Ff v0 v1 v5 v8 (.pointer (some ⟨gp, 0, none⟩)) (.pointer (some ⟨gm, 0, none⟩)) v12 v22 v23 v24 v54 v55 v56 a) (hQ : ∀ a', Ff v0 v1 v5 v8 (.pointer (some ⟨gp, 0, none⟩)) (.pointer (some ⟨gm, 0, none⟩)) v12 v22 v23 v24 v54 v55 v56 a' → a'.tmps.getD 80 undef = .bool (decide (b0 < mb)) → Q .normal a' w) : Code.wp Yba.prog (pc8 [1, 1, 1, 1, 1, 1, 0, 1, 0, 0, 1, 1, 0, 0, 1, 1, 0, 0]) Q a w := by
  have e : (b0 : Int) - 1 + 1 = b0 := by omega
  obtain ⟨u, rfl⟩ := h.lay
  clear h
  by_cases c : b0 < mb
  · rw [decide_eq_true c] at hQ
    conv => arg 2; whnf
    go_wp2
    exact hQ _ ⟨rfl, rfl, rfl, rfl, rfl, rfl, rfl, rfl, rfl, rfl, rfl, rfl, rfl, rfl, rfl⟩ rfl
  · rw [decide_eq_false c] at hQ
    conv => arg 2; whnf
    go_wp2
    exact hQ _ ⟨rfl, rfl, rfl, rfl, rfl, rfl, rfl, rfl, rfl, rfl, rfl, rfl, rfl, rfl, rfl⟩ rfl

set_option maxRecDepth 20000 in
set_option maxHeartbeats 4000000 in
theorem d19 {ma mb : Nat} {u0 u1 : Value} (c1 : w.cell? ⟨gm, 0, none⟩ = some (.int .i64 (ma : Int))) (c2 : w.cell? ⟨gm, 1, none⟩ = some (.int .i64 (mb : Int))) (c3 : w.cell? ⟨gp, 0, none⟩ = some u0) (c4 : w.cell? ⟨gp, 1, none⟩ = some u1) (f3 : w.frozen? ⟨gp, 0, none⟩ = false) (f4 : w.frozen? ⟨gp, 1, none⟩ = false) (h : Ff v0 v1 v5 v8 (.pointer (some ⟨gp, 0, none⟩)) (.pointer (some ⟨gm, 0, none⟩)) v12 v22 v23 v24 v54 v55 v56 a) (hQ : ∀ a', Ff v0 v1 v5 v8 (.pointer (some ⟨gp, 0, none⟩)) (.pointer (some ⟨gm, 0, none⟩)) v12 v22 v23 v24 v54 v55 v56 a' → Q .normal a' ((w.setCell ⟨gp, 0, none⟩ (.int .i64 (ma : Int))).setCell ⟨gp, 1, none⟩ (.int .i64 (mb : Int)))) : Code.wp Yba.prog (pc8 [1, 1, 1, 1, 1, 1, 0, 1, 0, 0, 1, 1, 0, 0, 1, 1, 1]) Q a w := by

  obtain ⟨u, rfl⟩ := h.lay
  clear h
  conv => arg 2; whnf
  go_wp2
  exact ⟨rfl, rfl, rfl, rfl, rfl, rfl, rfl, rfl, rfl, rfl, rfl, rfl, rfl, rfl, rfl⟩

theorem Yba.info34 : (Yba.prog.info? 34).map (fun i => (i.zero, i.size, i.bytes)) = some (some (.agg #[.int .i64 0, .slice none 0 0]), 2, 32) := by kernel_rfl
theorem own_drew {w : World} {base : Nat} {e : TypeId} {size : Nat} {v : Value} {n : Nat} {xs : List Value} (h : w.ownsRow base e size v n xs) : w.drew.ownsRow base e size v n xs := ownsRow_congr h (fun _ _ => rfl)

set_option maxRecDepth 20000 in
set_option maxHeartbeats 4000000 in
theorem d18 {ma mb b0 ni : Nat} {iv : Value} {ic : List Value} (h1 : b0 < mb) (h2 : mb ≤ m) (h3 : m ≤ 1000) (hni : ni ≤ 1000) (hlw : Wb < w.heap.size) (hlp : gp < w.heap.size) (hlm : gm < w.heap.size) (hbw : base ≤ w.heap.size)
    (c5 : w.cell? ⟨Wb, 5, none⟩ = some iv) (f5 : w.frozen? ⟨Wb, 5, none⟩ = false) (hne : some Wb ≠ iv.ownBlock) (c0 : w.cell? ⟨gm, 0, none⟩ = some (.int .i64 (ma : Int))) (c1 : w.cell? ⟨gm, 1, none⟩ = some (.int .i64 (mb : Int))) (c2 : w.cell? ⟨gp, 1, none⟩ = some (.int .i64 ((b0 : Int) - 1)))
    (hown : w.ownsRow base 34 2 iv ni ic) (h : Ff (.pointer (some ⟨Wb, 0, none⟩)) (.slice (some ⟨gl, 0, none⟩) m m) v5 v8 (.pointer (some ⟨gp, 0, none⟩)) (.pointer (some ⟨gm, 0, none⟩)) v12 v22 v23 v24 v54 v55 v56 a)
    (hQ : ∀ iv' w1 a', Ff (.pointer (some ⟨Wb, 0, none⟩)) (.slice (some ⟨gl, 0, none⟩) m m) v5 v8 (.pointer (some ⟨gp, 0, none⟩)) (.pointer (some ⟨gm, 0, none⟩)) v12 v22 v23 v24 v54 v55 v56 a' → w1.ownsRow base 34 2 iv' (ni + 1) (ic ++ [.int .i64 (ma : Int), .slice (some ⟨gl, b0, none⟩) (mb - b0) (m - b0)]) → (∃ ob, (w.alloc ob).grownBy w1 iv.ownBlock) → R a' (w1.setCell ⟨Wb, 5, none⟩ iv')) : Code.wp Yba.prog (pc8 [1, 1, 1, 1, 1, 1, 0, 1, 0, 0, 1, 1, 0, 0, 1, 1, 0, 1, 0]) (Exit.then R (fun _ _ _ => False)) a w := by
  obtain ⟨i0, hi0, hz0, hz1, hz2⟩ := info_parts Yba.info34
  have a63 : ni + 1 ≤ maxLen := by unfold maxLen; omega
  have a47 : (ni + 1) * 32 ≤ 140737488355328 := by omega
  obtain ⟨io, ic1, rfl⟩ := own_slice2 hown
  have e : (b0 : Int) - 1 + 1 = b0 := by omega
  have ew : IntKind.i64.wrap (b0 : Int) = (b0 : Int) := by rw [IntKind.wrap_i64]; omega
  have ene : ¬ m = b0 := by omega
  have ele : b0 ≤ mb := by omega
  have ele2 : (b0 : Int) ≤ (mb : Int) := by omega
  obtain ⟨u, rfl⟩ := h.lay
  clear h
  conv => arg 2; whnf
  go_region_law ((refine step_append_any _ (by rfl) _ _ 30 30 (by rfl) base 34 i0 _ 2 32 Yba.underlying30 hi0 hz0 hz1 hz2 rfl (.slice io ni ic1) ni ic (by rfl) (by exact hown.alloc _) (.slice (some ⟨w.heap.size, 0, none⟩) 1 1) 1 [.int .i64 (ma : Int), .slice (some ⟨gl, b0, none⟩) (mb - b0) (m - b0)] (by rfl) (Src.ofSlice _ Yba.underlying30 ⟨w.heap.size, 0, none⟩ 1 1 [.int .i64 (ma : Int), .slice (some ⟨gl, b0, none⟩) (mb - b0) (m - b0)] (by rfl) (by exact news_two w _ _ _) (by simp [Value.oneCell'])) a63 a47 (by simp; omega) ?_
                  intro x' w1 ho1 hg1 hat1 _
                  obtain ⟨xo, xc, rfl⟩ := own_slice2 ho1
                  have hx : w1.heap[Wb]? = w.heap[Wb]? := ((hg1.block Wb (by simp; omega) hne).trans (Below.heap_alloc w _ _ hlw))
                  have e2 : w1.cell? ⟨Wb, 5, none⟩ = some (.slice io ni ic1) := (by rw [World.cell?_of_block (a := ⟨Wb, 5, none⟩) hx]; exact c5)
                  have e3 : w1.frozen? ⟨Wb, 5, none⟩ = false := (by have := f5; simp only [World.frozen?, hx] at this ⊢; exact this)))
  all_goals
    go_wp2
    refine hQ (.slice xo (ni + 1) xc) _ _ ?_ ho1 ⟨_, ⟨hg1.os, hg1.tape, hg1.output, hg1.size, hg1.block⟩⟩
    exact ⟨rfl, rfl, rfl, rfl, rfl, rfl, rfl, rfl, rfl, rfl, rfl, rfl, rfl, rfl, rfl⟩

end Go.Proofs.Ybulkacye
