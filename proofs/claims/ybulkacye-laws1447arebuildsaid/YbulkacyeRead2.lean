import Derived.Test.YbulkacyeRead
import Derived.Test.YbulkacyeFLoop
namespace Go.Proofs.Ybulkacye
open Go.RowKit
set_option linter.unusedVariables false
set_option linter.unusedSectionVars false
variable {v0 v1 v2 : Value} {a : Act} {Q : Exit → Act → World → Prop} {w : World} {B Wb : Nat} {bv ev vv dv iv : Value} {bo : List UInt8} {en ve : List Int}

set_option maxRecDepth 20000 in
set_option maxHeartbeats 4000000 in
theorem rd0 (h : Fd v0 v1 v2 a) (hQ : ∀ a', Fd v0 v1 v2 a' → Q .normal a' w) : Code.wp Yba.prog (pc16 [0]) Q a w := by
  obtain ⟨u, rfl⟩ := h.lay
  clear h
  conv => arg 2; whnf
  go_wp2
  exact ⟨rfl, rfl, rfl, rfl, rfl⟩

set_option maxRecDepth 20000 in
set_option maxHeartbeats 4000000 in
theorem rd1 {sh : Bool} (h : Fd v0 v1 (.bool sh) a) (hQ : ∀ a', Fd v0 v1 (.bool sh) a' → a'.tmps.getD 7 undef = .bool sh → Q .normal a' w) : Code.wp Yba.prog (pc16 [1, 0, 0]) Q a w := by
  obtain ⟨u, rfl⟩ := h.lay
  clear h
  conv => arg 2; whnf
  go_wp2
  exact hQ _ ⟨rfl, rfl, rfl, rfl, rfl⟩ rfl

set_option maxRecDepth 20000 in
set_option maxHeartbeats 4000000 in
theorem rdE (h : Fd v0 v1 v2 a) (hQ : ∀ a', a'.defers = [] → a'.tmps.getD 6 undef = .nilIface → Q .ret a' w) : Code.wp Yba.prog (pc16 [1, 1, 1, 1]) Q a w := by
  obtain ⟨u, rfl⟩ := h.lay
  clear h
  conv => arg 2; whnf
  go_wp2
  exact hQ _ rfl rfl

set_option maxRecDepth 20000 in
set_option maxHeartbeats 4000000 in
theorem rd3 {l : List UInt8} {g cap : Nat} (hn : bo.length ≤ 100000) (hm : l.length ≤ 100000) (hline : ∀ j u, (bcells l)[j]? = some u → w.cell? ((⟨g, 0, none⟩ : Addr).add j) = some u) (h : Fd (.pointer (some ⟨Wb, 0, none⟩)) (.slice (some ⟨g, 0, none⟩) l.length cap) v2 a) (hW : WvG w B Wb bv ev vv dv iv bo en ve)
    (hQ : ∀ x' w' a', Fd (.pointer (some ⟨Wb, 0, none⟩)) (.slice (some ⟨g, 0, none⟩) l.length cap) v2 a' → WvG w' B Wb x' ev vv dv iv (bo ++ l) en ve → Only w w' (wf Wb bv ev vv) → (∀ y ∈ wf Wb x' ev vv, y ∈ wf Wb bv ev vv ∨ w.heap.size ≤ y) → Q .normal a' w') : Code.wp Yba.prog (pc16 [1, 1, 0]) Q a w := by
  obtain ⟨i0, hi0, hz0, hz1, hz2⟩ := info_parts Yba.info5'
  obtain ⟨c1, _, _, _, _, c6⟩ := hW.cells
  have f0 := c6 1
  clear c6
  have hown := hW.ob
  have hlw := (hW.lt Wb (by simp [wf])).2
  have hbw := hW.bw
  have hne : some Wb ≠ bv.ownBlock := fun e => by
    have hnd := hW.nd
    simp only [wf, List.nodup_cons, List.mem_append, Option.mem_toList, not_or] at hnd
    exact hnd.1.1 e.symm
  have HW : Hid (WvG w B Wb bv ev vv dv iv bo en ve) := hW
  clear hW
  have a63 : bo.length + l.length ≤ maxLen := by unfold maxLen; omega
  have a47 : (bo.length + l.length) * 1 ≤ 140737488355328 := by omega
  have hll : (bcells l).length = l.length * 1 := by rw [bcells_length]; omega
  obtain ⟨bo1, bc1, rfl⟩ := own_slice2 HW.out.ob
  obtain ⟨u, rfl⟩ := h.lay
  clear h
  conv => arg 2; whnf
  go_wp2_with (at_builtin; refine wpList_append_any _ rfl (.tmp 26) (.tmp 27) 22 22 rfl B 5 i0 _ 1 1 Yba.underlying22 hi0 hz0 hz1 hz2 rfl (.slice bo1 bo.length bc1) bo.length (bcells bo) rfl hown (.slice (some ⟨g, 0, none⟩) l.length cap) l.length (bcells l) rfl (Src.ofSlice _ Yba.underlying22 ⟨g, 0, none⟩ l.length cap (bcells l) hll hline (bcells_one l)) a63 a47 hbw ?_; intro x' w1 ho1 hg1 hat1 _; obtain ⟨xo, xc, rfl⟩ := own_slice2 ho1; have hx : w1.heap[Wb]? = w.heap[Wb]? := (hg1.block Wb hlw hne); have e2 : w1.cell? ⟨Wb, 1, none⟩ = some (.slice bo1 bo.length bc1) := (by rw [World.cell?_of_block (a := ⟨Wb, 1, none⟩) hx]; exact c1); have e3 : w1.frozen? ⟨Wb, 1, none⟩ = false := (by simp [World.frozen?, hx, HW.out.box]))
  obtain ⟨T1, T2, T3⟩ := HW.out.pushB (w0 := w) ⟨rfl, rfl, rfl, Nat.le_refl _, fun _ _ _ => rfl⟩ ho1 hg1 hat1
  refine hQ _ _ _ ?_ T1 T2 T3
  exact ⟨rfl, rfl, rfl, rfl, rfl⟩

theorem foot_trans {w w1 : World} {F F1 F2 : List Nat} (h1 : ∀ y ∈ F1, y ∈ F ∨ w.heap.size ≤ y) (h2 : ∀ y ∈ F2, y ∈ F1 ∨ w1.heap.size ≤ y) (hs : w.heap.size ≤ w1.heap.size) : ∀ y ∈ F2, y ∈ F ∨ w.heap.size ≤ y := by
  intro y hy
  rcases h2 y hy with a | a
  · exact h1 y a
  · right; omega
set_option maxRecDepth 20000 in
theorem read_any {l : List UInt8} {g cap : Nat} {sh : Bool} (hW : WvG w B Wb bv ev vv dv iv bo en ve) (hn1 : bo.length ≤ 10000) (hn2 : en.length ≤ 10000) (hn3 : ve.length ≤ 10000) (hm : l.length ≤ 1000) (hline : ∀ j u, (bcells l)[j]? = some u → w.cell? ((⟨g, 0, none⟩ : Addr).add j) = some u) (hg : g ∉ wf Wb bv ev vv) (hgl : g < w.heap.size) :
    Calls Yba.prog 16 #[.pointer (some ⟨Wb, 0, none⟩), .slice (some ⟨g, 0, none⟩) l.length cap, .bool sh] w fun e w' => e = .returned .nilIface ∧ ∃ bv' ev' vv', WvG w' B Wb bv' ev' vv' dv iv (bo ++ l) (en ++ [((bo ++ l).length : Int)]) (if sh then ve ++ [(en.length : Int)] else ve) ∧ Only w w' (wf Wb bv ev vv) ∧ (∀ y ∈ wf Wb bv' ev' vv', y ∈ wf Wb bv ev vv ∨ w.heap.size ≤ y) := by
  go_enter Yba.func16, Yba.ntmps16
  show Code.wp Yba.prog (pc16 []) _ _ w
  have h0 : Fd (.pointer (some ⟨Wb, 0, none⟩)) (.slice (some ⟨g, 0, none⟩) l.length cap) (.bool sh) ⟨#[.pointer (some ⟨Wb, 0, none⟩), .slice (some ⟨g, 0, none⟩) l.length cap, .bool sh, undef, undef, undef, undef, undef, undef, undef, undef, undef, undef, undef, undef, undef, undef, undef, undef, undef, undef, undef, undef, undef, undef, undef, undef, undef, undef, undef, undef, undef, undef, undef, undef, undef, undef, undef, undef, undef, undef, undef, undef, undef, undef], []⟩ := ⟨rfl, rfl, rfl, rfl, rfl⟩
  refine sq (x := pc16 [0]) (y := pc16 [1]) rfl (rd0 h0 (fun a1 h1 => ?_))
  clear h0
  refine sq (x := pc16 [1, 0]) (y := pc16 [1, 1]) rfl ?_
  refine sq (x := pc16 [1, 0, 0]) (y := Code.cond (.tmp 7) (pc16 [1, 0, 1, 0]) .skip) rfl (rd1 h1 (fun a2 h2 hb => ?_))
  have rest : ∀ (vv1 : Value) (ve1 : List Int) (w1 : World) (a3 : Act), Fd (.pointer (some ⟨Wb, 0, none⟩)) (.slice (some ⟨g, 0, none⟩) l.length cap) (.bool sh) a3 → WvG w1 B Wb bv ev vv1 dv iv bo en ve1 → ve1 = (if sh then ve ++ [(en.length : Int)] else ve) → Only w w1 (wf Wb bv ev vv) → (∀ y ∈ wf Wb bv ev vv1, y ∈ wf Wb bv ev vv ∨ w.heap.size ≤ y) →
      Code.wp Yba.prog (pc16 [1, 1]) (bodyPost Yba.prog Yba.f16 (fun e w' => e = .returned .nilIface ∧ ∃ bv' ev' vv', WvG w' B Wb bv' ev' vv' dv iv (bo ++ l) (en ++ [((bo ++ l).length : Int)]) (if sh then ve ++ [(en.length : Int)] else ve) ∧ Only w w' (wf Wb bv ev vv) ∧ (∀ y ∈ wf Wb bv' ev' vv', y ∈ wf Wb bv ev vv ∨ w.heap.size ≤ y))) a3 w1 := by
    intro vv1 ve1 w1 a3 h3 hW1 hve hO1 hF1
    have hline1 : ∀ j u, (bcells l)[j]? = some u → w1.cell? ((⟨g, 0, none⟩ : Addr).add j) = some u := fun j u hu => by
      have eb : ((⟨g, 0, none⟩ : Addr).add j).block = g := by simp only [Addr.add]; split <;> rfl
      rw [World.cell?_of_block (w := w) (a := (⟨g, 0, none⟩ : Addr).add j) (by rw [eb]; exact hO1.block g hgl hg)]
      exact hline j u hu
    refine sq (x := pc16 [1, 1, 0]) (y := pc16 [1, 1, 1]) rfl (rd3 (by omega) (by omega) hline1 h3 hW1 (fun bv2 w2 a4 h4 hW2 hO2 hF2 => ?_))
    have hlen : (bo ++ l).length = bo.length + l.length := List.length_append
    refine sq (x := pc16 [1, 1, 1, 0]) (y := pc16 [1, 1, 1, 1]) rfl (wp_mono (rd4 (by omega) (by omega) h4 hW2 (R := fun a' w' => Fd (.pointer (some ⟨Wb, 0, none⟩)) (.slice (some ⟨g, 0, none⟩) l.length cap) (.bool sh) a' ∧ ∃ x', WvG w' B Wb bv2 x' vv1 dv iv (bo ++ l) (en ++ [((bo ++ l).length : Int)]) ve1 ∧ Only w2 w' (wf Wb bv2 ev vv1) ∧ (∀ y ∈ wf Wb bv2 x' vv1, y ∈ wf Wb bv2 ev vv1 ∨ w2.heap.size ≤ y)) (fun x' w' a' k1 k2 k3 k4 => ⟨k1, x', k2, k3, k4⟩)) ?_)
    intro e a5 w5 he
    cases e with
    | normal =>
      obtain ⟨h5, x', k2, k3, k4⟩ := he
      refine rdE h5 (fun a6 d6 e6 => ?_)
      refine ⟨d6, .nilIface, ?_, rfl, bv2, x', vv1, ?_, ?_, ?_⟩
      · rw [Array.getD_eq_getD_getElem?] at e6
        simp [results, Yba.results16, go_sem]
        exact e6
      · rw [← hve]; exact k2
      · have f2 := foot_trans hF1 hF2 hO1.size
        exact (hO1.trans hO2 hF1).trans k3 f2
      · exact foot_trans (foot_trans hF1 hF2 hO1.size) k4 (Nat.le_trans hO1.size hO2.size)
    | _ => exact absurd he (by intro h; exact h)
  cases sh with
  | false =>
    refine wp_cond_false hb (wp_skip ?_)
    exact rest vv ve w a2 h2 hW rfl (Only.refl _ _) (fun y hy => .inl hy)
  | true =>
    refine wp_cond_true hb (wp_mono (rd2 (by omega) (by omega) h2 hW (R := fun a' w' => Fd (.pointer (some ⟨Wb, 0, none⟩)) (.slice (some ⟨g, 0, none⟩) l.length cap) (.bool true) a' ∧ ∃ x', WvG w' B Wb bv ev x' dv iv bo en (ve ++ [(en.length : Int)]) ∧ Only w w' (wf Wb bv ev vv) ∧ (∀ y ∈ wf Wb bv ev x', y ∈ wf Wb bv ev vv ∨ w.heap.size ≤ y)) (fun x' w' a' k1 k2 k3 k4 => ⟨k1, x', k2, k3, k4⟩)) ?_)
    intro e a5 w5 he
    cases e with
    | normal =>
      obtain ⟨h5, x', k2, k3, k4⟩ := he
      exact rest x' _ w5 a5 h5 k2 rfl k3 k4
    | _ => exact absurd he (by intro h; exact h)

end Go.Proofs.Ybulkacye
