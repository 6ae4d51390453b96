import Derived.Test.YbulkadfsFmtIn
namespace Go.Proofs.YbulkadfsFmt
open Go.RowKit
set_option linter.unusedVariables false
attribute [local go_sem ↓] Go.wp_at_zero Go.wp_at_succ

theorem TabAt.below {w w' : World} (h : TabAt w) (hb : Below w.heap.size w w') : TabAt w' := fun j hj => cell_later hb (h j hj)

/-- The depth at which the largest subtree that begins at position b begins. -/
def topOf (b : Nat) : Nat := if b = 0 then 0 else 64 - Lib.ctz 64 b
theorem topOf_le (b : Nat) : topOf b ≤ 64 := by unfold topOf; split <;> omega

set_option maxHeartbeats 1000000 in
theorem top_any (b : Nat) (l : Int) (w : World) (hb : b < 18446744073709551616) (hT : TabAt w) :
    Calls Ybaf.prog 10 #[.agg #[.int .u64 b, .int .u8 l, .int .u8 0, .int .u8 0]] w fun e w' => e = .returned (.agg #[.int .u64 b, .int .u8 (topOf b), .int .u8 0, .int .u8 0]) ∧ Below w.heap.size w w' := by
  by_cases h0 : b = 0
  · subst h0
    go_enter Ybaf.func10, Ybaf.ntmps10
    go_wp2
    exact bodyPost_ret (v := .agg #[.int .u64 0, .int .u8 0, .int .u8 0, .int .u8 0]) (by simp [results, Ybaf.results10, go_sem]) rfl ⟨rfl, ((Below.refl _ _).alloc (Nat.le_refl _) _).alloc (by simp) _⟩
  · have h0' : ((b : Int) == 0) = false := by simp; omega
    obtain ⟨hlow, hk⟩ := Lib.lowest_bit 64 b h0 hb
    obtain ⟨t, ht⟩ : ∃ t, t = Lib.ctz 64 b := ⟨_, rfl⟩
    have htz := fun W hT => tz64 b hb h0 W hT
    rw [← ht] at htz hk
    have hto : topOf b = 64 - t := by unfold topOf; rw [if_neg h0, ht]
    rw [hto]
    have HTZ : Hid (∀ W, TabAt W → Calls Ybaf.prog 13 #[.int .u64 b] W fun e w' => e = .returned (.int .i64 t) ∧ w' = W) := htz
    have hcast : (((64 - t : Nat)) : Int) = 64 - (t : Int) := by omega
    rw [hcast]
    have w8 : IntKind.u8.wrap (64 - (t : Int)) = 64 - (t : Int) := by rw [IntKind.wrap_u8]; omega
    have w64 : IntKind.i64.wrap (64 - (t : Int)) = 64 - (t : Int) := by rw [IntKind.wrap_i64]; omega
    clear htz ht hto hlow hcast
    go_enter Ybaf.func10, Ybaf.ntmps10
    go_wp2
    go_region_held3 (fun w' => w'.cell? ⟨w.heap.size, 0, none⟩ = some (.int .u64 b)) (go_keep)
      (first | (go_at_call 13; refine (HTZ.out _ (hT.below (by repeat (first | exact Below.refl _ _ | refine Below.drew ?_ | refine Below.alloc ?_ (by simp <;> omega) _)))).mono ?_; rintro e w' ⟨rfl, hw'⟩; obtain rfl := hw'.symm))
    all_goals
      go_wp2
      refine bodyPost_ret (v := .agg #[.int .u64 b, .int .u8 (64 - (t : Int)), .int .u8 0, .int .u8 0]) (by simp [results, Ybaf.results10, go_sem]) rfl ⟨rfl, ?_⟩
      repeat (first | exact Below.refl _ _ | refine Below.drew ?_ | refine Below.alloc ?_ (by simp <;> omega) _)
end Go.Proofs.YbulkadfsFmt
