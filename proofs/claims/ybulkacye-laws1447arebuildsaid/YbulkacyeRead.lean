import Derived.Test.YbulkacyeFr
import Derived.Test.YbulkacyeWv
import Derived.Test.YbulkacyeCmp2
import Derived.BigQuiet
import Derived.Deep.RegionLaw
import Derived.Deep.AppendLies
import Derived.Deep.DrawnRows
import Derived.Deep.QuietTactic
namespace Go.Proofs.Ybulkacye
open Go.RowKit
set_option linter.unusedVariables false
set_option linter.unusedSectionVars false
variable {v1 v2 : Value} {a : Act} {Q : Exit → Act → World → Prop} {w : World} {B Wb : Nat} {bv ev vv dv iv : Value} {bo : List UInt8} {en ve : List Int}
theorem grown_drew (w : World) (o : Obj) : w.grownBy (w.alloc o).drew none := by
  have g := World.grownBy_alloc w o none
  exact ⟨g.os, g.tape, g.output, g.size, g.block⟩
theorem Yba.info5' : (Yba.prog.info? 5).map (fun i => (i.zero, i.size, i.bytes)) = some (some (.int .u8 0), 1, 1) := by kernel_rfl

/-- The frame of function 16 by its variables. -/
structure Fd (v0 v1 v2 : Value) (a : Act) : Prop where
  sz : a.tmps.size = 45
  df : a.defers = []
  e0 : a.tmps.getD 0 undef = v0
  e1 : a.tmps.getD 1 undef = v1
  e2 : a.tmps.getD 2 undef = v2

set_option maxRecDepth 100000 in
theorem Fd_range (g : Nat → Value) : (List.range 45).map g = (g 0 :: g 1 :: g 2 :: g 3 :: g 4 :: g 5 :: g 6 :: g 7 :: g 8 :: g 9 :: g 10 :: g 11 :: g 12 :: g 13 :: g 14 :: g 15 :: g 16 :: g 17 :: g 18 :: g 19 :: g 20 :: g 21 :: g 22 :: g 23 :: g 24 :: g 25 :: g 26 :: g 27 :: g 28 :: g 29 :: g 30 :: g 31 :: g 32 :: g 33 :: g 34 :: g 35 :: g 36 :: g 37 :: g 38 :: g 39 :: g 40 :: g 41 :: g 42 :: g 43 :: g 44 :: []) := by
  kernel_rfl

set_option maxRecDepth 100000 in
theorem Fd.lay {v0 v1 v2 : Value} {a : Act} (h : Fd v0 v1 v2 a) : ∃ u : Nat → Value, a = ⟨List.toArray (v0 :: v1 :: v2 :: u 3 :: u 4 :: u 5 :: u 6 :: u 7 :: u 8 :: u 9 :: u 10 :: u 11 :: u 12 :: u 13 :: u 14 :: u 15 :: u 16 :: u 17 :: u 18 :: u 19 :: u 20 :: u 21 :: u 22 :: u 23 :: u 24 :: u 25 :: u 26 :: u 27 :: u 28 :: u 29 :: u 30 :: u 31 :: u 32 :: u 33 :: u 34 :: u 35 :: u 36 :: u 37 :: u 38 :: u 39 :: u 40 :: u 41 :: u 42 :: u 43 :: u 44 :: []), []⟩ := by
  obtain ⟨⟨l⟩, df⟩ := a
  obtain ⟨sz, hd, e0, e1, e2⟩ := h
  have hd' : df = [] := hd
  have hl : l = (l.getD 0 undef :: l.getD 1 undef :: l.getD 2 undef :: l.getD 3 undef :: l.getD 4 undef :: l.getD 5 undef :: l.getD 6 undef :: l.getD 7 undef :: l.getD 8 undef :: l.getD 9 undef :: l.getD 10 undef :: l.getD 11 undef :: l.getD 12 undef :: l.getD 13 undef :: l.getD 14 undef :: l.getD 15 undef :: l.getD 16 undef :: l.getD 17 undef :: l.getD 18 undef :: l.getD 19 undef :: l.getD 20 undef :: l.getD 21 undef :: l.getD 22 undef :: l.getD 23 undef :: l.getD 24 undef :: l.getD 25 undef :: l.getD 26 undef :: l.getD 27 undef :: l.getD 28 undef :: l.getD 29 undef :: l.getD 30 undef :: l.getD 31 undef :: l.getD 32 undef :: l.getD 33 undef :: l.getD 34 undef :: l.getD 35 undef :: l.getD 36 undef :: l.getD 37 undef :: l.getD 38 undef :: l.getD 39 undef :: l.getD 40 undef :: l.getD 41 undef :: l.getD 42 undef :: l.getD 43 undef :: l.getD 44 undef :: []) := (list_eta l 45 sz).trans (Fd_range _)
  have e0' : l.getD 0 undef = v0 := by rw [← e0]; simp [List.getD, Array.getD_eq_getD_getElem?]
  have e1' : l.getD 1 undef = v1 := by rw [← e1]; simp [List.getD, Array.getD_eq_getD_getElem?]
  have e2' : l.getD 2 undef = v2 := by rw [← e2]; simp [List.getD, Array.getD_eq_getD_getElem?]
  refine ⟨fun i => l.getD i undef, ?_⟩
  rw [hd', ← e0', ← e1', ← e2']
  exact congrArg (fun x => (⟨⟨x⟩, []⟩ : Act)) hl
noncomputable def pc16 (l : List Nat) : Code := sub l (Yba.f16.body.getD .skip)
set_option maxRecDepth 20000 in
set_option maxHeartbeats 4000000 in
theorem rd2 (hn : ve.length ≤ 100000) (hm : en.length ≤ 100000) (h : Fd (.pointer (some ⟨Wb, 0, none⟩)) v1 v2 a) (hW : WvG w B Wb bv ev vv dv iv bo en ve)
    {R : Act → World → Prop} (hQ : ∀ x' w' a', Fd (.pointer (some ⟨Wb, 0, none⟩)) v1 v2 a' → WvG w' B Wb bv ev x' dv iv bo en (ve ++ [(en.length : Int)]) → Only w w' (wf Wb bv ev vv) → (∀ y ∈ wf Wb bv ev x', y ∈ wf Wb bv ev vv ∨ w.heap.size ≤ y) → R a' w') : Code.wp Yba.prog (pc16 [1, 0, 1, 0]) (Exit.then R (fun _ _ _ => False)) a w := by
  obtain ⟨i0, hi0, hz0, hz1, hz2⟩ := info_parts Yba.info3
  obtain ⟨c1, c2, c3, _, _, c6⟩ := hW.cells
  have f0 := c6 3
  clear c6
  have hown := hW.ov
  have hlw := (hW.lt Wb (by simp [wf])).2
  have hbw := hW.bw
  have hne : some Wb ≠ vv.ownBlock := fun e => by
    have hnd := hW.nd
    simp only [wf, List.nodup_cons, List.mem_append, Option.mem_toList, not_or] at hnd
    first | exact hnd.1.1 e.symm | exact hnd.1.2.1 e.symm | exact hnd.1.2.2 e.symm
  have HW : Hid (WvG w B Wb bv ev vv dv iv bo en ve) := hW
  clear hW
  have a63 : ve.length + 1 ≤ maxLen := by unfold maxLen; omega
  have a47 : (ve.length + 1) * 8 ≤ 140737488355328 := by omega
  obtain ⟨bo1, bc1, rfl⟩ := own_slice2 HW.out.ob
  obtain ⟨eo1, ec1, rfl⟩ := own_slice2 HW.out.oe
  obtain ⟨vo1, vc1, rfl⟩ := own_slice2 HW.out.ov
  obtain ⟨u, rfl⟩ := h.lay
  clear h
  conv => arg 2; whnf
  go_region_law ((refine step_append_any _ (by rfl) _ _ 28 28 (by rfl) B 3 i0 _ 1 8 Yba.underlying28 hi0 hz0 hz1 hz2 rfl (.slice vo1 ve.length vc1) ve.length (ints ve) (by rfl) (by exact hown.alloc _) (.slice (some ⟨w.heap.size, 0, none⟩) 1 1) 1 [.int .i64 (en.length : Int)] (by rfl) (Src.ofSlice _ Yba.underlying28 ⟨w.heap.size, 0, none⟩ 1 1 [.int .i64 (en.length : Int)] (by rfl) (by exact news_one w _ _) (by simp [Value.oneCell'])) a63 a47 (by simp; omega) ?_
                  intro x' w1 ho1 hg1 hat1 _
                  obtain ⟨xo, xc, rfl⟩ := own_slice2 ho1
                  have e2 : w1.cell? ⟨Wb, 3, none⟩ = some (.slice vo1 ve.length vc1) := (by rw [World.cell?_of_block (a := ⟨Wb, 3, none⟩) ((hg1.block Wb (by simp; omega) hne).trans (Below.heap_alloc w _ _ hlw))]; assumption)
                  have e3 : w1.frozen? ⟨Wb, 3, none⟩ = false := (by have hx : w1.heap[Wb]? = w.heap[Wb]? := ((hg1.block Wb (by simp; omega) hne).trans (Below.heap_alloc w _ _ hlw)); simp [World.frozen?, hx, HW.out.box])))
  all_goals
    have T := HW.out.pushV (w0 := (w.alloc (.cells #[.int .i64 (en.length : Int)] 3)).drew) (grown_drew w _) ho1 hg1 hat1
    obtain ⟨T1, T2, T3⟩ := T
    go_wp2
    refine hQ _ _ _ ?_ T1 T2 T3
    exact ⟨rfl, rfl, rfl, rfl, rfl⟩

set_option maxRecDepth 20000 in
set_option maxHeartbeats 4000000 in
theorem rd4 (hn : en.length ≤ 100000) (hm : bo.length ≤ 100000) (h : Fd (.pointer (some ⟨Wb, 0, none⟩)) v1 v2 a) (hW : WvG w B Wb bv ev vv dv iv bo en ve)
    {R : Act → World → Prop} (hQ : ∀ x' w' a', Fd (.pointer (some ⟨Wb, 0, none⟩)) v1 v2 a' → WvG w' B Wb bv x' vv dv iv bo (en ++ [(bo.length : Int)]) ve → Only w w' (wf Wb bv ev vv) → (∀ y ∈ wf Wb bv x' vv, y ∈ wf Wb bv ev vv ∨ w.heap.size ≤ y) → R a' w') : Code.wp Yba.prog (pc16 [1, 1, 1, 0]) (Exit.then R (fun _ _ _ => False)) a w := by
  obtain ⟨i0, hi0, hz0, hz1, hz2⟩ := info_parts Yba.info3
  obtain ⟨c1, c2, c3, _, _, c6⟩ := hW.cells
  have f0 := c6 2
  clear c6
  have hown := hW.oe
  have hlw := (hW.lt Wb (by simp [wf])).2
  have hbw := hW.bw
  have hne : some Wb ≠ ev.ownBlock := fun e => by
    have hnd := hW.nd
    simp only [wf, List.nodup_cons, List.mem_append, Option.mem_toList, not_or] at hnd
    first | exact hnd.1.1 e.symm | exact hnd.1.2.1 e.symm | exact hnd.1.2.2 e.symm
  have HW : Hid (WvG w B Wb bv ev vv dv iv bo en ve) := hW
  clear hW
  have a63 : en.length + 1 ≤ maxLen := by unfold maxLen; omega
  have a47 : (en.length + 1) * 8 ≤ 140737488355328 := by omega
  obtain ⟨bo1, bc1, rfl⟩ := own_slice2 HW.out.ob
  obtain ⟨eo1, ec1, rfl⟩ := own_slice2 HW.out.oe
  obtain ⟨vo1, vc1, rfl⟩ := own_slice2 HW.out.ov
  obtain ⟨u, rfl⟩ := h.lay
  clear h
  conv => arg 2; whnf
  go_region_law ((refine step_append_any _ (by rfl) _ _ 28 28 (by rfl) B 3 i0 _ 1 8 Yba.underlying28 hi0 hz0 hz1 hz2 rfl (.slice eo1 en.length ec1) en.length (ints en) (by rfl) (by exact hown.alloc _) (.slice (some ⟨w.heap.size, 0, none⟩) 1 1) 1 [.int .i64 (bo.length : Int)] (by rfl) (Src.ofSlice _ Yba.underlying28 ⟨w.heap.size, 0, none⟩ 1 1 [.int .i64 (bo.length : Int)] (by rfl) (by exact news_one w _ _) (by simp [Value.oneCell'])) a63 a47 (by simp; omega) ?_
                  intro x' w1 ho1 hg1 hat1 _
                  obtain ⟨xo, xc, rfl⟩ := own_slice2 ho1
                  have e2 : w1.cell? ⟨Wb, 2, none⟩ = some (.slice eo1 en.length ec1) := (by rw [World.cell?_of_block (a := ⟨Wb, 2, none⟩) ((hg1.block Wb (by simp; omega) hne).trans (Below.heap_alloc w _ _ hlw))]; assumption)
                  have e3 : w1.frozen? ⟨Wb, 2, none⟩ = false := (by have hx : w1.heap[Wb]? = w.heap[Wb]? := ((hg1.block Wb (by simp; omega) hne).trans (Below.heap_alloc w _ _ hlw)); simp [World.frozen?, hx, HW.out.box])))
  all_goals
    have T := HW.out.pushE (w0 := (w.alloc (.cells #[.int .i64 (bo.length : Int)] 3)).drew) (grown_drew w _) ho1 hg1 hat1
    obtain ⟨T1, T2, T3⟩ := T
    go_wp2
    refine hQ _ _ _ ?_ T1 T2 T3
    exact ⟨rfl, rfl, rfl, rfl, rfl⟩

end Go.Proofs.Ybulkacye
