import Derived.Test.YbulkadfsFmtRows
import Derived.WalkKit
import Derived.WalkSpells
import Derived.WalkLawsBesides
namespace Go.Proofs.YbulkadfsFmt
open Go.RowKit
set_option linter.unusedVariables false

set_option maxHeartbeats 400000 in
theorem roomy_any (level k : Int) (w : World) (h1 : 0 ≤ level) (h2 : level ≤ 56) (h3 : 1 ≤ k) (h4 : k ≤ 255) :
    Calls Ybaf.prog 24 #[.int .u8 level, .int .i64 k] w fun e w' => e = .returned (.bool true) ∧ w' = w := by
  by_cases hk : k = 1
  · subst hk
    go_enter Ybaf.func24, Ybaf.ntmps24
    go_wp2
    go_ret
    exact ⟨rfl, rfl⟩
  · have hk' : (k == 1) = false := by simp [hk]
    go_enter Ybaf.func24, Ybaf.ntmps24
    go_wp2
    go_ret
    refine ⟨?_, rfl⟩
    have hz : ((k - 1) / 2 ^ (64 - level).toNat == 0) = true := by
      have hp : (256 : Int) ≤ 2 ^ (64 - level).toNat := by
        have h8 : 8 ≤ (64 - level).toNat := by omega
        have := Nat.pow_le_pow_right (n := 2) (by omega) h8
        have e : ((2 ^ (64 - level).toNat : Nat) : Int) = (2 : Int) ^ (64 - level).toNat := by simp
        rw [← e]
        omega
      rw [Int.ediv_eq_zero_of_lt (by omega) (by omega)]
      rfl
    simp [hz]

set_option maxHeartbeats 400000 in
theorem part_any (bits level x0 x1 i k : Int) (w : World) (h1 : 0 ≤ level) (h2 : level ≤ 56) (h3 : 1 ≤ k) (h4 : k ≤ 255) (h5 : 0 ≤ i) (h6 : i < k) :
    Calls Ybaf.prog 18 #[.agg #[.int .u64 bits, .int .u8 level, .int .u8 x0, .int .u8 x1], .int .i64 i, .int .i64 k] w fun e w' => e = .returned (.agg #[.int .u64 bits, .int .u8 level, .int .u8 i, .int .u8 k]) ∧ w' = (w.alloc (.cells #[.int .u64 bits, .int .u8 level, .int .u8 x0, .int .u8 x1] 28)).alloc (.cells #[.int .u64 bits, .int .u8 level, .int .u8 i, .int .u8 k] 28) := by
  go_enter Ybaf.func18, Ybaf.ntmps18
  go_wp2_with (go_at_call 24; refine (roomy_any _ _ _ h1 h2 h3 h4).mono ?_; rintro e w' ⟨rfl, hw⟩; obtain rfl := hw.symm)
  exact bodyPost_ret (v := .agg #[.int .u64 bits, .int .u8 level, .int .u8 i, .int .u8 k]) (by simp [results, Ybaf.results18, go_sem]) rfl ⟨rfl, rfl⟩

set_option maxHeartbeats 400000 in
theorem id_any (bits level x0 x1 i : Int) (co : Option Addr) (k kc : Nat) (w : World) (h1 : 0 ≤ level) (h2 : level ≤ 56) (h3 : 1 ≤ k) (h4 : k ≤ 255) (h5 : 0 ≤ i) (h6 : i < k) :
    Calls Ybaf.prog 12 #[.agg #[.int .u64 bits, .int .u8 level, .int .u8 x0, .int .u8 x1, .slice co k kc], .int .i64 i] w fun e w' => e = .returned (.agg #[.int .u64 bits, .int .u8 level, .int .u8 i, .int .u8 k]) ∧ Below w.heap.size w w' := by
  go_enter Ybaf.func12, Ybaf.ntmps12
  go_wp2_with (go_at_call 18; refine (part_any _ _ _ _ _ _ _ h1 h2 (by omega) (by omega) h5 h6).mono ?_; rintro e w1 ⟨rfl, rfl⟩)
  exact bodyPost_ret (v := .agg #[.int .u64 bits, .int .u8 level, .int .u8 i, .int .u8 k]) (by simp [results, Ybaf.results12, go_sem]) rfl ⟨rfl, ((((Below.refl _ _).alloc (Nat.le_refl _) _).alloc (by simp) _).alloc (by simp; omega) _).alloc (by simp; omega) _⟩
end Go.Proofs.YbulkadfsFmt
