import Derived.Test.YbulkadfsFmtAhead
namespace Go.Proofs.YbulkadfsFmt
open Go.RowKit
set_option linter.unusedVariables false

theorem wrap_range (n : Int) : 0 ≤ IntKind.u64.wrap n ∧ IntKind.u64.wrap n < 18446744073709551616 := by rw [IntKind.wrap_u64]; omega
theorem or_range (a b : Int) : 0 ≤ bits BinOp.or IntKind.u64 a b ∧ bits BinOp.or IntKind.u64 a b < 18446744073709551616 := wrap_range _
theorem and_range (a b : Int) : 0 ≤ bits BinOp.and IntKind.u64 a b ∧ bits BinOp.and IntKind.u64 a b < 18446744073709551616 := wrap_range _

set_option maxHeartbeats 400000 in
theorem rev_any (x : Int) (w : World) (h0 : 0 ≤ x) (h1 : x < 18446744073709551616) :
    Calls Ybaf.prog 5 #[.int .u64 x] w fun e w' => (∃ r : Int, e = .returned (.int .u64 r) ∧ 0 ≤ r ∧ r < 18446744073709551616) ∧ w' = w := by
  go_enter Ybaf.func5, Ybaf.ntmps5
  go_wp2
  go_loop [3, 4] (fun r i => ∃ (k : Nat) (R : Int), k ≤ 64 ∧ i = .int .i64 k ∧ r = .int .u64 R ∧ 0 ≤ R ∧ R < 18446744073709551616) (fun _ i => 64 - (intOf i).toNat)
  case atStart => exact ⟨0, 0, by omega, rfl, rfl, by omega, by omega⟩
  case round =>
    obtain ⟨k, R, hk, rfl, rfl, r0, r1⟩ := hrel
    by_cases hlt : k < 64
    · go_wp2
      go_round
      case rel => exact ⟨k + 1, _, by omega, by go_num, rfl, (or_range _ _).1, (or_range _ _).2⟩
      case measure => simp [intOf]; omega
    · go_wp2
      go_ret
      exact ⟨⟨R, rfl, r0, r1⟩, rfl⟩

set_option maxHeartbeats 400000 in
theorem mask_any (l : Int) (w : World) (h0 : 0 ≤ l) (h1 : l ≤ 64) :
    Calls Ybaf.prog 6 #[.int .i64 l] w fun e w' => (∃ r : Int, e = .returned (.int .u64 r)) ∧ w' = w := by
  go_enter Ybaf.func6, Ybaf.ntmps6
  go_wp2
  go_ret
  exact ⟨⟨_, rfl⟩, rfl⟩

/-- The law's own reckoning of the depth, as far as bit i. -/
def tl (b : Nat) : Nat → Nat
  | 0 => 0
  | i + 1 => if b / 2 ^ (63 - i) % 2 = 1 then i + 1 else tl b i
theorem tl_zero : ∀ i, tl 0 i = 0
  | 0 => rfl
  | i + 1 => by unfold tl; simp [tl_zero i]
theorem tl_le (b : Nat) : ∀ i, tl b i ≤ i
  | 0 => Nat.le_refl _
  | i + 1 => by have := tl_le b i; unfold tl; split <;> omega

theorem tl_top (b : Nat) (hb : b < 18446744073709551616) : tl b 64 = topOf b := by
  by_cases h0 : b = 0
  · subst h0; rw [tl_zero]; rfl
  · unfold topOf
    rw [if_neg h0]
    obtain ⟨m, hm, hc⟩ := Lib.ctzFrom_spec 64 b (by omega) hb
    have hctz : Lib.ctz 64 b = Lib.ctzFrom 64 b := by unfold Lib.ctz; rw [if_neg h0]
    rw [hctz]
    generalize Lib.ctzFrom 64 b = c at hm hc
    have up : ∀ d, d ≤ c → tl b (64 - c + d) = 64 - c := by
      intro d
      induction d with
      | zero =>
        intro _
        have e : 64 - c + 0 = (63 - c) + 1 := by omega
        rw [e]
        unfold tl
        have e2 : 63 - (63 - c) = c := by omega
        rw [if_pos (by rw [e2, hm, Nat.mul_div_cancel_left _ (Nat.two_pow_pos c)]; omega)]
        omega
      | succ d ih =>
        intro hd
        have e : 64 - c + (d + 1) = (64 - c + d) + 1 := by omega
        rw [e]
        unfold tl
        have e3 : 2 ^ c = 2 ^ (63 - (64 - c + d)) * (2 * 2 ^ d) := by
          rw [← Nat.pow_succ', ← Nat.pow_add]
          congr 1
          omega
        rw [if_neg (by rw [hm, e3, Nat.mul_assoc, Nat.mul_div_cancel_left _ (Nat.two_pow_pos _), Nat.mul_assoc]; omega), ih (by omega)]
    have := up c (Nat.le_refl _)
    have e : 64 - c + c = 64 := by omega
    rwa [e] at this

theorem hi_eq (b : Int) (l : Nat) (hl : l ≤ 64) : IntKind.u64.wrap (b + 18446744073709551615 / 2 ^ l) = hiOf b l := by
  unfold hiOf endOf
  have e : (64 - (l : Int)).toNat = 64 - l := by omega
  rw [e]
  have hp : ((2 : Int) ^ l) * 2 ^ (64 - l) = 18446744073709551616 := by
    rw [← Int.pow_add, show l + (64 - l) = 64 by omega]; rfl
  have hpos : (0 : Int) < 2 ^ l := Int.pow_pos (by omega)
  have hd : (18446744073709551615 : Int) / 2 ^ l = 2 ^ (64 - l) - 1 := by
    have e2 : (18446744073709551615 : Int) = (2 ^ l - 1) + 2 ^ l * (2 ^ (64 - l) - 1) := by
      rw [Int.mul_sub, hp]; omega
    rw [e2, Int.add_mul_ediv_left _ _ (by omega), Int.ediv_eq_zero_of_lt (by omega) (by omega)]
    omega
  rw [hd]
  simp only [IntKind.wrap_u64]
  omega
end Go.Proofs.YbulkadfsFmt
