import Derived.Test.YbulkacyeCmp
namespace Go.Proofs.Ybulkacye
open Go.RowKit Go.Proofs.Ybulkacye.Lcs
set_option linter.unusedVariables false
set_option linter.unusedSectionVars false
variable {S ga gb GF GR o N ca cb base : Nat} {ao bo : Option Addr} {xa xb : List Int} {fs : Value} {f r : Int → Int} {w : World} {v1 v2 v3 v4 v10 v11 v12 v13 v14 v15 : Value} {a : Act} {Q : Exit → Act → World → Prop} {M : List (Nat × Nat)}

theorem Yba.info57 : (Yba.prog.info? 57).map (fun i => (i.zero, i.size, i.bytes)) = some (some (.agg #[.int .i64 0, .int .i64 0]), 2, 16) := by kernel_rfl
theorem own_slice2 {w : World} {base : Nat} {e : TypeId} {size : Nat} {v : Value} {n : Nat} {xs : List Value} (h : w.ownsRow base e size v n xs) : ∃ ao c, v = .slice ao n c := by
  rcases h.2 with ⟨rfl, rfl⟩ | ⟨g, cap, cur, rfl, _⟩
  · exact ⟨_, _, rfl⟩
  · exact ⟨_, _, rfl⟩
set_option maxRecDepth 20000 in
set_option maxHeartbeats 4000000 in
theorem ca1 {i j : Nat} (h : Fc (.pointer (some ⟨S, 0, none⟩)) (.int .i64 i) v2 (.int .i64 j) v4 v10 v11 v12 v13 v14 v15 a) (hS : Se S ga gb GF GR o N ca cb base ao bo xa xb fs f r M w) (hM : M.length ≤ 1000) (h1 : i ≤ 1000) (h2 : j ≤ 1000) (hQ : ∀ fs' w' a', Fc (.pointer (some ⟨S, 0, none⟩)) (.int .i64 i) v2 (.int .i64 j) v4 v10 v11 v12 v13 v14 v15 a' → Se S ga gb GF GR o N ca cb base ao bo xa xb fs' f r (M ++ [(i, j)]) w' → Kp base [S, GF, GR] w w' → Q .normal a' w') : Code.wp Yba.prog (pc21 [0, 0, 0, 1, 0, 0]) Q a w := by
  obtain ⟨i0, hi0, hz0, hz1, hz2⟩ := info_parts Yba.info57
  have a63 : M.length + 1 ≤ maxLen := by unfold maxLen; omega
  have a47 : (M.length + 1) * 16 ≤ 140737488355328 := by omega
  have bw := hS.bw
  have lS := hS.lS
  obtain ⟨fo, fc, rfl⟩ := own_slice2 hS.own
  obtain ⟨_, _, q2, _⟩ := hS.sea.boxes
  have hown := hS.own
  have hlt := hown.lt
  obtain ⟨u, rfl⟩ := h.lay
  clear h
  conv => arg 2; whnf
  go_wp2_with (at_builtin; refine wpList_append_any _ rfl (.tmp 45) (.tmp 49) 54 54 rfl base 57 i0 _ 2 16 Yba.underlying54 hi0 hz0 hz1 hz2 rfl (.slice fo M.length fc) M.length (mcells M) rfl (hown.alloc _) (.slice (some ⟨w.heap.size, 0, none⟩) 1 1) 1 [.int .i64 i, .int .i64 j] rfl (Src.ofSlice _ Yba.underlying54 ⟨w.heap.size, 0, none⟩ 1 1 [.int .i64 i, .int .i64 j] rfl (news_two _ _ _ _) (by simp [Value.oneCell'])) a63 a47 (by simp; omega) ?_; intro v' w1 ho1 hg1 hat1 _; obtain ⟨fo', fc', rfl⟩ := own_slice2 ho1; have hb1 : w1.heap[S]? = w.heap[S]? := (by rw [hg1.block S (by simp; omega) (fun e => by have := (hlt S e.symm).1; omega), Below.heap_alloc _ _ _ (by omega)]); have hq1 : w1.cell? ⟨S, 2, none⟩ = some (.slice fo M.length fc) := (by rw [World.cell?_of_block (a := ⟨S, 2, none⟩) hb1]; exact q2); have hq2 : w1.frozen? ⟨S, 2, none⟩ = false := (by simp [World.frozen?, hb1, hS.sea.box]))
  have hpush := hS.push _ i j ho1 hg1
  refine hQ _ _ _ ?_ hpush.1 hpush.2
  exact ⟨rfl, rfl, rfl, rfl, rfl, rfl, rfl, rfl, rfl, rfl, rfl, rfl, rfl⟩
set_option maxRecDepth 20000 in
set_option maxHeartbeats 4000000 in
theorem ca11 {i j : Nat} (h : Fc (.pointer (some ⟨S, 0, none⟩)) v1 v2 v3 v4 v10 (.int .i64 i) (.int .i64 j) v13 v14 v15 a) (hS : Se S ga gb GF GR o N ca cb base ao bo xa xb fs f r M w) (hM : M.length ≤ 1000) (h1 : i ≤ 1000) (h2 : j ≤ 1000) (hQ : ∀ fs' w' a', Fc (.pointer (some ⟨S, 0, none⟩)) v1 v2 v3 v4 v10 (.int .i64 i) (.int .i64 j) v13 v14 v15 a' → Se S ga gb GF GR o N ca cb base ao bo xa xb fs' f r (M ++ [(i, j)]) w' → Kp base [S, GF, GR] w w' → Q .normal a' w') : Code.wp Yba.prog (pc21 [1, 1, 1, 0, 1, 0, 1, 1, 0, 0, 0, 1, 0, 0]) Q a w := by
  obtain ⟨i0, hi0, hz0, hz1, hz2⟩ := info_parts Yba.info57
  have a63 : M.length + 1 ≤ maxLen := by unfold maxLen; omega
  have a47 : (M.length + 1) * 16 ≤ 140737488355328 := by omega
  have bw := hS.bw
  have lS := hS.lS
  obtain ⟨fo, fc, rfl⟩ := own_slice2 hS.own
  obtain ⟨_, _, q2, _⟩ := hS.sea.boxes
  have hown := hS.own
  have hlt := hown.lt
  obtain ⟨u, rfl⟩ := h.lay
  clear h
  conv => arg 2; whnf
  go_wp2_with (at_builtin; refine wpList_append_any _ rfl (.tmp 138) (.tmp 142) 54 54 rfl base 57 i0 _ 2 16 Yba.underlying54 hi0 hz0 hz1 hz2 rfl (.slice fo M.length fc) M.length (mcells M) rfl (hown.alloc _) (.slice (some ⟨w.heap.size, 0, none⟩) 1 1) 1 [.int .i64 i, .int .i64 j] rfl (Src.ofSlice _ Yba.underlying54 ⟨w.heap.size, 0, none⟩ 1 1 [.int .i64 i, .int .i64 j] rfl (news_two _ _ _ _) (by simp [Value.oneCell'])) a63 a47 (by simp; omega) ?_; intro v' w1 ho1 hg1 hat1 _; obtain ⟨fo', fc', rfl⟩ := own_slice2 ho1; have hb1 : w1.heap[S]? = w.heap[S]? := (by rw [hg1.block S (by simp; omega) (fun e => by have := (hlt S e.symm).1; omega), Below.heap_alloc _ _ _ (by omega)]); have hq1 : w1.cell? ⟨S, 2, none⟩ = some (.slice fo M.length fc) := (by rw [World.cell?_of_block (a := ⟨S, 2, none⟩) hb1]; exact q2); have hq2 : w1.frozen? ⟨S, 2, none⟩ = false := (by simp [World.frozen?, hb1, hS.sea.box]))
  have hpush := hS.push _ i j ho1 hg1
  refine hQ _ _ _ ?_ hpush.1 hpush.2
  exact ⟨rfl, rfl, rfl, rfl, rfl, rfl, rfl, rfl, rfl, rfl, rfl, rfl, rfl⟩
set_option maxRecDepth 20000 in
set_option maxHeartbeats 4000000 in
theorem ca16 {i1 j1 s i j : Nat} (h : Fc (.pointer (some ⟨S, 0, none⟩)) v1 (.int .i64 i1) v3 (.int .i64 j1) v10 v11 v12 v13 v14 (.int .i64 s) a) (hS : Se S ga gb GF GR o N ca cb base ao bo xa xb fs f r M w) (hM : M.length ≤ 1000) (h1 : i1 ≤ 1000) (h2 : j1 ≤ 1000) (h3 : (i1 : Int) - s = i) (h4 : (j1 : Int) - s = j) (hQ : ∀ fs' w' a', Fc (.pointer (some ⟨S, 0, none⟩)) v1 (.int .i64 i1) v3 (.int .i64 j1) v10 v11 v12 v13 v14 (.int .i64 s) a' → Se S ga gb GF GR o N ca cb base ao bo xa xb fs' f r (M ++ [(i, j)]) w' → Kp base [S, GF, GR] w w' → Q .normal a' w') : Code.wp Yba.prog (pc21 [1, 1, 1, 1, 1, 0, 0, 1, 0, 0]) Q a w := by
  obtain ⟨i0, hi0, hz0, hz1, hz2⟩ := info_parts Yba.info57
  have a63 : M.length + 1 ≤ maxLen := by unfold maxLen; omega
  have a47 : (M.length + 1) * 16 ≤ 140737488355328 := by omega
  have bw := hS.bw
  have lS := hS.lS
  obtain ⟨fo, fc, rfl⟩ := own_slice2 hS.own
  obtain ⟨_, _, q2, _⟩ := hS.sea.boxes
  have hown := hS.own
  have hlt := hown.lt
  obtain ⟨u, rfl⟩ := h.lay
  clear h
  conv => arg 2; whnf
  go_wp2_with (at_builtin; refine wpList_append_any _ rfl (.tmp 165) (.tmp 173) 54 54 rfl base 57 i0 _ 2 16 Yba.underlying54 hi0 hz0 hz1 hz2 rfl (.slice fo M.length fc) M.length (mcells M) rfl (hown.alloc _) (.slice (some ⟨w.heap.size, 0, none⟩) 1 1) 1 [.int .i64 i, .int .i64 j] rfl (Src.ofSlice _ Yba.underlying54 ⟨w.heap.size, 0, none⟩ 1 1 [.int .i64 i, .int .i64 j] rfl (news_two _ _ _ _) (by simp [Value.oneCell'])) a63 a47 (by simp; omega) ?_; intro v' w1 ho1 hg1 hat1 _; obtain ⟨fo', fc', rfl⟩ := own_slice2 ho1; have hb1 : w1.heap[S]? = w.heap[S]? := (by rw [hg1.block S (by simp; omega) (fun e => by have := (hlt S e.symm).1; omega), Below.heap_alloc _ _ _ (by omega)]); have hq1 : w1.cell? ⟨S, 2, none⟩ = some (.slice fo M.length fc) := (by rw [World.cell?_of_block (a := ⟨S, 2, none⟩) hb1]; exact q2); have hq2 : w1.frozen? ⟨S, 2, none⟩ = false := (by simp [World.frozen?, hb1, hS.sea.box]))
  have hpush := hS.push _ i j ho1 hg1
  refine hQ _ _ _ ?_ hpush.1 hpush.2
  exact ⟨rfl, rfl, rfl, rfl, rfl, rfl, rfl, rfl, rfl, rfl, rfl, rfl, rfl⟩
end Go.Proofs.Ybulkacye
