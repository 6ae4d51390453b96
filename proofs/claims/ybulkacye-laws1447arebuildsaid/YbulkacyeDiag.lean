import Derived.Test.YbulkacyeText
import Derived.Test.YbulkacyeMeet
import Derived.Deep.QuietTactic
import Derived.BigQuiet
namespace Go.Proofs.Ybulkacye
open Go.RowKit
set_option linter.unusedVariables false

/-- The bounds of a round's diagonals, as the program reckons them. -/
def loOf (lo first : Int) : Int := if lo < first then first + (first - lo) % 2 else lo
def hiOf (hi last : Int) : Int := if last < hi then last - (hi - last) % 2 else hi

theorem diag_any (lo hi first last : Int) (w : World) (h0 : -100000 ≤ lo) (h1 : lo ≤ 100000) (h2 : -100000 ≤ hi) (h3 : hi ≤ 100000) (h4 : -100000 ≤ first) (h5 : first ≤ 100000) (h6 : -100000 ≤ last) (h7 : last ≤ 100000) :
    Calls Yba.prog 23 #[.int .i64 lo, .int .i64 hi, .int .i64 first, .int .i64 last] w fun e w' => e = .returned (.tuple #[.int .i64 (loOf lo first), .int .i64 (hiOf hi last)]) ∧ w' = w := by
  unfold loOf hiOf
  by_cases c1 : lo < first
  · have r1 : (first - lo).tmod 2 = (first - lo) % 2 := Int.tmod_eq_emod_of_nonneg (by omega)
    rw [if_pos c1]
    by_cases c2 : last < hi
    · have r2 : (hi - last).tmod 2 = (hi - last) % 2 := Int.tmod_eq_emod_of_nonneg (by omega)
      rw [if_pos c2]
      go_enter Yba.func23, Yba.ntmps23
      go_wp2
      exact bodyPost_ret (by simp [results, Yba.results23, go_sem]) rfl ⟨rfl, rfl⟩
    · rw [if_neg c2]
      go_enter Yba.func23, Yba.ntmps23
      go_wp2
      exact bodyPost_ret (by simp [results, Yba.results23, go_sem]) rfl ⟨rfl, rfl⟩
  · rw [if_neg c1]
    by_cases c2 : last < hi
    · have r2 : (hi - last).tmod 2 = (hi - last) % 2 := Int.tmod_eq_emod_of_nonneg (by omega)
      rw [if_pos c2]
      go_enter Yba.func23, Yba.ntmps23
      go_wp2
      exact bodyPost_ret (by simp [results, Yba.results23, go_sem]) rfl ⟨rfl, rfl⟩
    · rw [if_neg c2]
      go_enter Yba.func23, Yba.ntmps23
      go_wp2
      exact bodyPost_ret (by simp [results, Yba.results23, go_sem]) rfl ⟨rfl, rfl⟩
end Go.Proofs.Ybulkacye
