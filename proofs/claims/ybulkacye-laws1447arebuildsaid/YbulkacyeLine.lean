import Derived.Test.YbulkacyeWv
import Derived.BigQuiet
namespace Go.Proofs.Ybulkacye
open Go.RowKit
set_option linter.unusedVariables false

/-- The line of a code. -/
def chOf (b : UInt8) : UInt8 := if b.toNat % 4 = 0 then 97 else if b.toNat % 4 = 1 then 98 else if b.toNat % 4 = 2 then 99 else 100
def lnOf (b : UInt8) : ByteArray := ⟨#[chOf b, 10]⟩
theorem lnOf_bytes (b : UInt8) : (lnOf b).data.toList = [chOf b, 10] := rfl

set_option maxHeartbeats 400000 in
theorem aline_any (b : UInt8) (w : World) : Calls Yba.prog 15 #[.int .u8 (b.toNat : Int)] w fun e w' => e = .returned (.string (lnOf b)) ∧ w' = w := by
  have hb : b.toNat < 256 := b.toNat_lt
  obtain ⟨n, hn⟩ : ∃ n, b.toNat = n := ⟨_, rfl⟩
  have e1 : ((n : Int)).tmod 4 = ((n % 4 : Nat) : Int) := by rw [Int.tmod_eq_emod_of_nonneg (by omega)]; omega
  unfold lnOf chOf
  rw [hn] at hb ⊢
  clear hn
  rcases (by omega : n % 4 = 0 ∨ n % 4 = 1 ∨ n % 4 = 2 ∨ n % 4 = 3) with h | h | h | h
  all_goals
    rw [h] at e1 ⊢
    clear h
    go_enter Yba.func15, Yba.ntmps15
    go_wp2
    go_ret
    exact ⟨rfl, rfl⟩

set_option maxRecDepth 20000 in
set_option maxHeartbeats 1000000 in
theorem line_any {w : World} {B Wb : Nat} {ev vv dv iv : Value} {bo : List UInt8} {en ve : List Int} {g cp : Nat} (h : WvG w B Wb (.slice (some ⟨g, 0, none⟩) bo.length cp) ev vv dv iv bo en ve) (i : Nat) (hi : i < 1000) (hl : bo.length ≤ 100000) (hcp : bo.length ≤ cp) (hcp2 : cp ≤ 9223372036854775807)
    (h0 : en[i]? = some (2 * (i : Int) + 2)) (h1 : 0 < i → en[i - 1]? = some (2 * (i : Int))) (h2 : 2 * i + 2 ≤ bo.length) :
    Calls Yba.prog 17 #[.pointer (some ⟨Wb, 0, none⟩), .int .i64 i] w fun e w' => ∃ n, e = .returned (.slice (some ⟨g, 2 * i, none⟩) 2 (cp - 2 * i)) ∧ w' = w.drewN n := by
  obtain ⟨c1, c2, c3, c4, c5, c6⟩ := h.cells
  have hel := (List.getElem?_eq_some_iff.1 h0).1
  obtain ⟨ge, ce, hv, _, _⟩ := h.oe.form (by omega)
  subst hv
  have r0 : w.cell? ⟨ge, i, none⟩ = some (.int .i64 (2 * (i : Int) + 2)) := by rw [h.oe.cellAt i (by omega)]; simp [ints, h0]
  by_cases hz : 0 < i
  · obtain ⟨k, hk⟩ : ∃ k : Nat, (i : Int) - 1 = k := ⟨i - 1, by omega⟩
    have r1 : w.cell? ⟨ge, k, none⟩ = some (.int .i64 (2 * (i : Int))) := by
      have e : i - 1 = k := by omega
      rw [h.oe.cellAt k (by omega), ← e]
      have := h1 hz
      simp [ints, this]
    have hkl : k < en.length := by omega
    go_enter Yba.func17, Yba.ntmps17
    go_wp2
    go_quiet (fail)
    go_wp2
    go_ret
    refine ⟨_, ?_, rfl⟩
    have e : 2 * i + 2 - 2 * i = 2 := by omega
    show Ending.returned (Value.slice (some ⟨g, 2 * i, none⟩) (2 * i + 2 - 2 * i) (cp - 2 * i)) = _
    rw [e]
  · obtain rfl : i = 0 := by omega
    go_enter Yba.func17, Yba.ntmps17
    go_wp2
    go_quiet (fail)
    go_wp2
    go_ret
    exact ⟨_, rfl, rfl⟩
end Go.Proofs.Ybulkacye
