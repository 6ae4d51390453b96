import Derived.Test.YbulkadfsFmtSpan
namespace Go.Proofs.YbulkadfsFmt
open Go.RowKit
set_option linter.unusedVariables false
attribute [local go_sem ↓] Go.wp_at_zero Go.wp_at_succ

set_option maxHeartbeats 400000 in
theorem roomy1 (level : Int) (w : World) : Calls Ybaf.prog 24 #[.int .u8 level, .int .i64 1] w fun e w' => e = .returned (.bool true) ∧ w' = w := by
  go_enter Ybaf.func24, Ybaf.ntmps24
  go_wp2
  go_ret
  exact ⟨rfl, rfl⟩

set_option maxHeartbeats 400000 in
theorem part1 (b l x0 x1 : Int) (w : World) :
    Calls Ybaf.prog 18 #[.agg #[.int .u64 b, .int .u8 l, .int .u8 x0, .int .u8 x1], .int .i64 0, .int .i64 1] w fun e w' => e = .returned (.agg #[.int .u64 b, .int .u8 l, .int .u8 0, .int .u8 1]) ∧ w' = (w.alloc (.cells #[.int .u64 b, .int .u8 l, .int .u8 x0, .int .u8 x1] 28)).alloc (.cells #[.int .u64 b, .int .u8 l, .int .u8 0, .int .u8 1] 28) := by
  go_enter Ybaf.func18, Ybaf.ntmps18
  go_wp2_with (go_at_call 24; refine (roomy1 _ _).mono ?_; rintro e w' ⟨rfl, hw⟩; obtain rfl := hw.symm)
  exact bodyPost_ret (v := .agg #[.int .u64 b, .int .u8 l, .int .u8 0, .int .u8 1]) (by simp [results, Ybaf.results18, go_sem]) rfl ⟨rfl, rfl⟩

theorem part1' (b l x0 x1 i k : Int) (hi : i = 0) (hk : k = 1) (w : World) :
    Calls Ybaf.prog 18 #[.agg #[.int .u64 b, .int .u8 l, .int .u8 x0, .int .u8 x1], .int .i64 i, .int .i64 k] w fun e w' => e = .returned (.agg #[.int .u64 b, .int .u8 l, .int .u8 0, .int .u8 1]) ∧ w' = (w.alloc (.cells #[.int .u64 b, .int .u8 l, .int .u8 x0, .int .u8 x1] 28)).alloc (.cells #[.int .u64 b, .int .u8 l, .int .u8 0, .int .u8 1] 28) := by
  subst hi
  subst hk
  exact part1 b l x0 x1 w

set_option maxHeartbeats 1000000 in
theorem extremesOf1 (b l : Int) (w : World) :
    Calls Ybaf.prog 15 #[.agg #[.int .u64 b, .int .u8 l, .int .u8 0, .int .u8 0], .int .i64 1] w fun e w' => e = .returned (.agg #[.int .u64 b, .int .u8 l, .int .u8 0, .int .u8 1, .int .u64 b, .int .u8 l, .int .u8 0, .int .u8 1]) ∧ Below w.heap.size w w' := by
  have keepS : ∀ W : World, Below (w.heap.size + 1) (w.alloc (.cells #[.int .u64 b, .int .u8 l, .int .u8 0, .int .u8 0] 28)) W → W.cell? ⟨w.heap.size, 0, none⟩ = some (.int .u64 b) ∧ W.cell? ⟨w.heap.size, 1, none⟩ = some (.int .u8 l) ∧ W.cell? ⟨w.heap.size, 2, none⟩ = some (.int .u8 0) ∧ W.cell? ⟨w.heap.size, 3, none⟩ = some (.int .u8 0) := fun W hb =>
    ⟨(hb.cell (p := ⟨w.heap.size, 0, none⟩) (Nat.lt_succ_self _)).trans (World.cell?_alloc_new w _ 28 0), (hb.cell (p := ⟨w.heap.size, 1, none⟩) (Nat.lt_succ_self _)).trans (World.cell?_alloc_new w _ 28 1), (hb.cell (p := ⟨w.heap.size, 2, none⟩) (Nat.lt_succ_self _)).trans (World.cell?_alloc_new w _ 28 2), (hb.cell (p := ⟨w.heap.size, 3, none⟩) (Nat.lt_succ_self _)).trans (World.cell?_alloc_new w _ 28 3)⟩
  have HK : Hid (∀ W : World, Below (w.heap.size + 1) (w.alloc (.cells #[.int .u64 b, .int .u8 l, .int .u8 0, .int .u8 0] 28)) W → W.cell? ⟨w.heap.size, 0, none⟩ = some (.int .u64 b) ∧ W.cell? ⟨w.heap.size, 1, none⟩ = some (.int .u8 l) ∧ W.cell? ⟨w.heap.size, 2, none⟩ = some (.int .u8 0) ∧ W.cell? ⟨w.heap.size, 3, none⟩ = some (.int .u8 0)) := keepS
  clear keepS
  go_enter Ybaf.func15, Ybaf.ntmps15
  go_wp2
  go_region_held3 (fun w' => w'.cell? ⟨w.heap.size, 0, none⟩ = some (.int .u64 b) ∧ w'.cell? ⟨w.heap.size, 1, none⟩ = some (.int .u8 l) ∧ w'.cell? ⟨w.heap.size, 2, none⟩ = some (.int .u8 0) ∧ w'.cell? ⟨w.heap.size, 3, none⟩ = some (.int .u8 0))
    ((refine HK.out _ ?_
      repeat (first | exact Below.refl _ _ | refine Below.drew ?_ | refine Below.alloc ?_ (by simp <;> omega) _)))
    (first | (go_at_call 18; refine (part1' b l 0 0 _ _ (by first | rfl | simp [IntKind.wrap_i64]) (by rfl) _).mono ?_; rintro e w' ⟨rfl, rfl⟩))
  all_goals
    go_wp2
    refine bodyPost_ret (v := .agg #[.int .u64 b, .int .u8 l, .int .u8 0, .int .u8 1, .int .u64 b, .int .u8 l, .int .u8 0, .int .u8 1]) (by simp [results, Ybaf.results15, go_sem]) rfl ⟨rfl, ?_⟩
    repeat (first | exact Below.refl _ _ | refine Below.drew ?_ | refine Below.alloc ?_ (by simp <;> omega) _)
end Go.Proofs.YbulkadfsFmt
