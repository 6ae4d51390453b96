import Derived.Test.YbulkacyeBld
import Derived.OpenShut
namespace Go.Proofs.Ybulkacye
open Go.ChangeShapes Go.WideShapes Go.RowKit
set_option linter.unusedVariables false

/-- A slice of bytes that came in, as the walks take it. -/
theorem byts_in {W : World} {a : Option Addr} {len cap : Nat} {zs : List Int}
    (h : (a = none ∧ len = 0 ∧ cap = 0 ∧ zs = []) ∨ ∃ x, a = some x ∧ len ≤ cap ∧ cap ≤ maxLen ∧ zs.length = cap ∧ (∀ i, i < zs.length → W.cell? (x.add i) = some (.int .u8 (zs.getD i 0))) ∧ ∀ n ∈ zs, (Lit.int .u8 n).wf = true) :
    ∃ l : List UInt8, l.length = len ∧ len ≤ 9223372036854775807 ∧ Byts W.heap.size W a l := by
  rcases h with ⟨rfl, rfl, rfl, rfl⟩ | ⟨x, rfl, hl, hm, hz, hcell, hwz⟩
  · exact ⟨[], rfl, by omega, fun i b hb => by simp at hb⟩
  · refine ⟨(zs.take len).map (fun n => UInt8.ofNat n.toNat), by simp; omega, by unfold maxLen at hm; omega, ?_⟩
    intro i b hb
    have hi : i < len := by
      have := (List.getElem?_eq_some_iff.1 hb).1
      simp at this; omega
    have hiz : i < zs.length := by omega
    obtain ⟨g, off, rfl, hc⟩ := ints_at hcell (by omega)
    have hci := hc i hiz
    refine ⟨g, off, rfl, ?_, ?_⟩
    · rcases Nat.lt_or_ge g W.heap.size with q | q
      · exact q
      · exfalso
        have hn : W.heap[g]? = none := Array.getElem?_eq_none q
        simp [World.cell?, hn] at hci
    · rw [hci]
      have hmem : zs[i] ∈ zs := List.getElem_mem hiz
      have hbd := bounds_u8 (hwz _ hmem)
      have e : b = UInt8.ofNat (zs[i]).toNat := by
        rw [List.getElem?_map, List.getElem?_take, if_pos hi, List.getElem?_eq_getElem hiz] at hb
        simpa using hb.symm
      subst e
      simp [List.getD, hiz]
      omega
end Go.Proofs.Ybulkacye
