import Derived.Test.YbulkacyeCmp
import Derived.Test.YbulkacyeMid
namespace Go.Proofs.Ybulkacye
open Go.RowKit Go.Proofs.Ybulkacye.Lcs
set_option linter.unusedVariables false
set_option linter.unusedSectionVars false
variable {S ga gb GF GR o N ca cb base : Nat} {ao bo : Option Addr} {xa xb : List Int} {fs : Value} {f r : Int → Int} {w : World} {v1 v2 v3 v4 v10 v11 v12 v13 v14 v15 : Value} {a : Act} {Q : Exit → Act → World → Prop} {M : List (Nat × Nat)}

set_option maxRecDepth 20000 in
set_option maxHeartbeats 4000000 in
theorem cr7 {i i1 j j1 s p q n m : Nat} {A B : List Int} (hp : (i1 : Int) - s = p) (hq : (j1 : Int) - s = q) (b1 : i1 ≤ 1000) (b2 : j1 ≤ 1000) (C : Cx A B xa xb i j n m o N) (hn2 : 2 ≤ e A B) (hn : (p : Int) - i = n) (hm : (q : Int) - j = m) (h : Fc (.pointer (some ⟨S, 0, none⟩)) (.int .i64 i) (.int .i64 i1) (.int .i64 j) (.int .i64 j1) (.int .i64 s) v11 v12 v13 v14 v15 a) (hS : Se S ga gb GF GR o N ca cb base ao bo xa xb fs f r M w)
    (hQ : ∀ (x y u v : Nat) f' r' w' a', Snake A B x y u v → Fc (.pointer (some ⟨S, 0, none⟩)) (.int .i64 i) (.int .i64 i1) (.int .i64 j) (.int .i64 j1) (.int .i64 s) (.int .i64 ((i + x : Nat) : Int)) (.int .i64 ((j + y : Nat) : Int)) (.int .i64 ((i + u : Nat) : Int)) (.int .i64 ((j + v : Nat) : Int)) v15 a' → Se S ga gb GF GR o N ca cb base ao bo xa xb fs f' r' M w' → Kp base [S, GF, GR] w w' → Q .normal a' w') : Code.wp Yba.prog (pc21 [1, 1, 1, 0, 1, 0, 0]) Q a w := by
  obtain ⟨u, rfl⟩ := h.lay
  clear h
  have hc := mid_any C hn2 hS.sea hn hm
  clear hn hm
  conv => arg 2; whnf
  go_wp2_with fail
  refine hc.mono ?_
  rintro _ w1 ⟨x, y, u1, v, f', r', rfl, hsn, hsea, ho⟩
  have hS1 := hS.rows hsea ho
  have hK := Kp.ofOnly (base := base) (F := [S, GF, GR]) ho hS.bw (fun x hx => .inl (by simp at hx ⊢; right; exact hx))
  have hQ1 := fun a' h1 => hQ x y u1 v f' r' w1 a' hsn h1 hS1 hK
  clear hQ hc hsn hsea ho hS1 hK hS
  simp only [Int.natCast_add] at hQ1
  go_wp2
  exact ⟨rfl, rfl, rfl, rfl, rfl, rfl, rfl, rfl, rfl, rfl, rfl, rfl, rfl⟩
set_option maxRecDepth 20000 in
set_option maxHeartbeats 4000000 in
theorem cr8 {i j x y : Nat} {R : Ending → World → Prop} (h : Fc (.pointer (some ⟨S, 0, none⟩)) (.int .i64 i) v2 (.int .i64 j) v4 v10 (.int .i64 x) (.int .i64 y) v13 v14 v15 a) (hc : Calls Yba.prog 21 #[.pointer (some ⟨S, 0, none⟩), .int .i64 i, .int .i64 x, .int .i64 j, .int .i64 y] w R)
    (hQ : ∀ e w', R e w' → e = .returned (.tuple #[]) ∧ ∀ a', Fc (.pointer (some ⟨S, 0, none⟩)) (.int .i64 i) v2 (.int .i64 j) v4 v10 (.int .i64 x) (.int .i64 y) v13 v14 v15 a' → Q .normal a' w') : Code.wp Yba.prog (pc21 [1, 1, 1, 0, 1, 0, 1, 0]) Q a w := by
  obtain ⟨u, rfl⟩ := h.lay
  clear h
  conv => arg 2; whnf
  go_wp2_with fail
  refine hc.mono ?_
  intro e w1 hr
  obtain ⟨rfl, hQ1⟩ := hQ e w1 hr
  clear hQ hc hr
  go_wp2
  exact ⟨rfl, rfl, rfl, rfl, rfl, rfl, rfl, rfl, rfl, rfl, rfl, rfl, rfl⟩
set_option maxRecDepth 20000 in
set_option maxHeartbeats 4000000 in
theorem cr12 {i1 j1 s p q x y : Nat} {R : Ending → World → Prop} (hp : (i1 : Int) - s = p) (hq : (j1 : Int) - s = q) (b1 : i1 ≤ 1000) (b2 : j1 ≤ 1000) (h : Fc (.pointer (some ⟨S, 0, none⟩)) v1 (.int .i64 i1) v3 (.int .i64 j1) (.int .i64 s) v11 v12 (.int .i64 x) (.int .i64 y) v15 a) (hc : Calls Yba.prog 21 #[.pointer (some ⟨S, 0, none⟩), .int .i64 x, .int .i64 p, .int .i64 y, .int .i64 q] w R)
    (hQ : ∀ e w', R e w' → e = .returned (.tuple #[]) ∧ ∀ a', Fc (.pointer (some ⟨S, 0, none⟩)) v1 (.int .i64 i1) v3 (.int .i64 j1) (.int .i64 s) v11 v12 (.int .i64 x) (.int .i64 y) v15 a' → Q .normal a' w') : Code.wp Yba.prog (pc21 [1, 1, 1, 0, 1, 0, 1, 1, 1]) Q a w := by
  obtain ⟨u, rfl⟩ := h.lay
  clear h
  conv => arg 2; whnf
  go_wp2_with fail
  refine hc.mono ?_
  intro e w1 hr
  obtain ⟨rfl, hQ1⟩ := hQ e w1 hr
  clear hQ hc hr
  go_wp2
  exact ⟨rfl, rfl, rfl, rfl, rfl, rfl, rfl, rfl, rfl, rfl, rfl, rfl, rfl⟩
end Go.Proofs.Ybulkacye
