import Derived.Test.YbulkacyeCAppend
import Derived.WalkKit
import Derived.ProofKit
import Derived.OpenShut
import Derived.ShutString
import Derived.ChangeOld
import Derived.Below
import Derived.SliceStrings
namespace Go.Proofs.Ybulkacye
open Go.ChangeShapes Go.WideShapes Go.ChangeAt Go.RowKit
open Go.ChangeMaps (open_string shut_string)
set_option linter.unusedVariables false

theorem own : ownKnob Yba.prog.godebug = none := by kernel_rfl
theorem laidOut : laidOutB Yba.prog = true := by kernel_rfl

theorem bytes_in {W : World} {x : Addr} {len cap : Nat} {zs : List Int} (hl : len ≤ cap) (hz : zs.length = cap) (hcell : ∀ i, i < zs.length → W.cell? (x.add i) = some (.int .u8 (zs.getD i 0))) (hwz : ∀ n ∈ zs, (Lit.int .u8 n).wf = true) :
    ∃ l : List UInt8, l.length = len ∧ IsBytes W (some x) l := by
  refine ⟨(zs.take len).map (fun n => UInt8.ofNat n.toNat), by simp; omega, ?_⟩
  intro k hk
  have hkl : k < len := by simp at hk; omega
  obtain ⟨b, off, rfl, hc⟩ := ints_at hcell (by omega)
  refine ⟨b, off, rfl, fun i hi => ?_⟩
  have hil : i < len := by simp at hi; omega
  have hiz : i < zs.length := by omega
  rw [hc i hiz]
  have hmem : zs[i] ∈ zs := List.getElem_mem hiz
  have hb := bounds_u8 (hwz _ hmem)
  have e : ((zs.take len).map (fun n => UInt8.ofNat n.toNat)).getD i 0 = UInt8.ofNat (zs[i]).toNat := by
    simp [List.getD, hil, hiz]
  rw [e]
  simp [List.getD, hiz]
  omega

theorem strs_in {W : World} {x : Addr} {len cap : Nat} {ss : List ByteArray} (hl : len ≤ cap) (hz : ss.length = cap) (hcell : ∀ i, i < ss.length → W.cell? (x.add i) = some (.string (ss.getD i ByteArray.empty))) :
    IsStrs W (some x) (ss.take len) := by
  intro k hk
  simp at hk
  obtain ⟨b, off, spot⟩ := x
  have hspot : spot = none := by simpa [Addr.add] using World.cell?_spot (hcell 0 (by omega))
  subst hspot
  refine ⟨b, off, rfl, fun i hi => ?_⟩
  simp at hi
  have := hcell i (by omega)
  rw [Go.WideShapes.add_plain] at this
  rw [this]
  simp [List.getD, show i < len by omega]

end Go.Proofs.Ybulkacye
