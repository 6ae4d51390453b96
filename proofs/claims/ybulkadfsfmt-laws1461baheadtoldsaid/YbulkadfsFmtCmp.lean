import Derived.Test.YbulkadfsFmtExt
namespace Go.Proofs.YbulkadfsFmt
open Go.RowKit
set_option linter.unusedVariables false
attribute [local go_sem ↓] Go.wp_at_zero Go.wp_at_succ

set_option maxHeartbeats 400000 in
theorem crowd_any (b l i c : Int) (w : World) :
    Calls Ybaf.prog 22 #[.agg #[.int .u64 b, .int .u8 l, .int .u8 i, .int .u8 c]] w fun e w' => e = .returned (.agg #[.int .u8 l, .int .u8 c]) ∧ Below w.heap.size w w' := by
  go_enter Ybaf.func22, Ybaf.ntmps22
  go_wp2
  exact bodyPost_ret (v := .agg #[.int .u8 l, .int .u8 c]) (by simp [results, Ybaf.results22, go_sem]) rfl ⟨rfl, ((Below.refl _ _).alloc (Nat.le_refl _) _).alloc (by simp) _⟩

set_option maxHeartbeats 400000 in
theorem known_any (b l i c b' l' i' c' : Int) (w : World) (hc : 0 ≤ c) :
    Calls Ybaf.prog 16 #[.agg #[.int .u64 b, .int .u8 l, .int .u8 i, .int .u8 c, .int .u64 b', .int .u8 l', .int .u8 i', .int .u8 c']] w fun e w' => e = .returned (.bool (decide (0 < c))) ∧ Below w.heap.size w w' := by
  go_enter Ybaf.func16, Ybaf.ntmps16
  go_wp2_with (go_at_call 21; refine (leaf_any _ _ _ _ _ hc).mono ?_; rintro e w' ⟨rfl, rfl⟩)
  go_ret
  exact ⟨rfl, ((Below.refl _ _).alloc (Nat.le_refl _) _).alloc (by simp) _⟩

set_option maxHeartbeats 400000 in
theorem compare_ge (xl xc yl yc : Int) (w : World) (h0 : 0 ≤ yl) (h1 : yl ≤ xl) (h2 : xl ≤ 255) (hx0 : 0 ≤ xc) (hx1 : xc ≤ 255) (hy0 : 0 ≤ yc) (hy1 : yc ≤ 255) :
    Calls Ybaf.prog 23 #[.agg #[.int .u8 xl, .int .u8 xc], .agg #[.int .u8 yl, .int .u8 yc]] w fun e w' => (∃ r, -1 ≤ r ∧ r ≤ 1 ∧ e = .returned (.int .i64 r)) ∧ Below w.heap.size w w' := by
  have h1' : ¬ xl < yl := by omega
  by_cases h8 : 8 ≤ xl - yl
  · go_enter Ybaf.func23, Ybaf.ntmps23
    go_wp2
    go_quiet (fail)
    go_wp2
    go_ret
    exact ⟨⟨1, by omega, by omega, rfl⟩, below_drewN (((Below.refl _ _).alloc (Nat.le_refl _) _).alloc (by simp) _) _⟩
  · go_enter Ybaf.func23, Ybaf.ntmps23
    go_wp2
    go_quiet (fail)
    go_wp2
    · go_ret
      exact ⟨⟨-1, by omega, by omega, rfl⟩, below_drewN (((Below.refl _ _).alloc (Nat.le_refl _) _).alloc (by simp) _) _⟩
    · go_ret
      exact ⟨⟨1, by omega, by omega, rfl⟩, below_drewN (((Below.refl _ _).alloc (Nat.le_refl _) _).alloc (by simp) _) _⟩
    · go_ret
      exact ⟨⟨0, by omega, by omega, rfl⟩, below_drewN (((Below.refl _ _).alloc (Nat.le_refl _) _).alloc (by simp) _) _⟩

set_option maxHeartbeats 400000 in
theorem compare_any (xl xc yl yc : Int) (w : World) (hx2 : 0 ≤ xl) (h0 : 0 ≤ yl) (hy2 : yl ≤ 255) (h2 : xl ≤ 255) (hx0 : 0 ≤ xc) (hx1 : xc ≤ 255) (hy0 : 0 ≤ yc) (hy1 : yc ≤ 255) :
    Calls Ybaf.prog 23 #[.agg #[.int .u8 xl, .int .u8 xc], .agg #[.int .u8 yl, .int .u8 yc]] w fun e w' => (∃ r, -1 ≤ r ∧ r ≤ 1 ∧ e = .returned (.int .i64 r)) ∧ Below w.heap.size w w' := by
  by_cases h1 : yl ≤ xl
  · exact compare_ge xl xc yl yc w h0 h1 h2 hx0 hx1 hy0 hy1
  · have h1' : xl < yl := by omega
    go_enter Ybaf.func23, Ybaf.ntmps23
    go_wp2
    go_quiet (fail)
    go_wp2_with fail
    refine (compare_ge yl yc xl xc _ hx2 (by omega) hy2 hy0 hy1 hx0 hx1).mono ?_
    rintro e w1 ⟨⟨r, r0, r1, rfl⟩, hb⟩
    have hb' : Below w.heap.size w w1 := (below_drewN (((Below.refl _ _).alloc (Nat.le_refl _) _).alloc (by simp) _) _).trans (hb.mono (by simp [World.drewN]; omega))
    clear hb
    go_wp2
    go_ret
    exact ⟨⟨-r, by omega, by omega, rfl⟩, hb'⟩
end Go.Proofs.YbulkadfsFmt
