/-
  No cell of these rows narrows 'for every input' (looked for: loops, veiled, ifaces, maps, wideKeys, modest, calm, conditions, laid).
  DERIVED. THE GIVEN ROWS OF THIS SEAT. 2 by the template 'for every input the law returns true; each argument reads behind the call as it read before'; 0 by the template 'total and deterministic' (their statements: YbulkadfsTotals.lean).
  GIVEN WITH THE SEED: the statements are not yours to turn. If you find one false, say at which input.
  Laid BY PROGRAM, IN A SANDBOX (cutbox-rows.mjs): the forced cells as the released guide's own fill.sh prints them over the translation 0f4a452c0c51a353… (all of the seat's roots in one cut). By AI agents, Wed Nov 11 2026. No macro, syntax, notation, axiom, sorry.
-/
import Derived.Test.YbulkadfsChecked
import GoSem.Claim
import GoSem.ClaimJoined
import GoSem.ClaimMapViews
import Derived.JoinedTies
import Derived.KernelRfl
namespace Go.Proofs.Ybulkadfs
/- THE CELL 'sum', in the pinned program and in every row, IS THE sha256 OF THE DUMP (.gsa) THAT YbulkadfsProg.lean LOADS. Nothing in Lean hashes anything: it is a label: what it is worth is what the hold of that sum in a sandbox is worth. -/
noncomputable def Yba.pinned : Pinned := { name := "ybulkadfs", sum := "0f4a452c0c51a3536595cb92e3daa056f7ab290ed880faccc219b1c88d3653ff", checked := Yba.checked }
namespace Rows
def none {H : Type} : Left H := { results := [], args := [] }

/-- 'sim.LawS1461AStep': WHATEVER THE INPUT: true; the input reads as it did. -/
def lawS1461AStepSpec : ChangeSpec := { name := "lawS1461AStep", fn := fun _ => fun
  | [d1, d2, d3, d4] => { results := [.lit (.bool true)], args := [d1, d2, d3, d4] }
  | _ => none }
def lawS1461AStepRow : OpenClaim := { program := "ybulkadfs", sum := "0f4a452c0c51a3536595cb92e3daa056f7ab290ed880faccc219b1c88d3653ff", func := "example.com/ballast/ballast/internal/sim.LawS1461AStep", spec := "lawS1461AStep", apart := false }
def LawS1461AStepSaid : Prop := lawS1461AStepRow.holds Yba.pinned (OpenSpec.ofChange lawS1461AStepSpec)

/-- ITS FALSE NEIGHBOUR: 'it returns false'. Refute it at one input. -/
def lawS1461AStepWrong : ChangeSpec := { name := "lawS1461AStep", fn := fun _ => fun
  | [d1, d2, d3, d4] => { results := [.lit (.bool false)], args := [d1, d2, d3, d4] }
  | _ => none }
def LawS1461AStepWrongFalsely : Prop := lawS1461AStepRow.holds Yba.pinned (OpenSpec.ofChange lawS1461AStepWrong)

/-- 'sim.LawS1461ASeq': WHATEVER THE INPUT: true; the input reads as it did. -/
def lawS1461ASeqSpec : ChangeSpec := { name := "lawS1461ASeq", fn := fun _ => fun
  | [d] => { results := [.lit (.bool true)], args := [d] }
  | _ => none }
def lawS1461ASeqRow : OpenClaim := { program := "ybulkadfs", sum := "0f4a452c0c51a3536595cb92e3daa056f7ab290ed880faccc219b1c88d3653ff", func := "example.com/ballast/ballast/internal/sim.LawS1461ASeq", spec := "lawS1461ASeq", apart := false }
def LawS1461ASeqSaid : Prop := lawS1461ASeqRow.holds Yba.pinned (OpenSpec.ofChange lawS1461ASeqSpec)

/-- ITS FALSE NEIGHBOUR: 'it returns false'. Refute it at one input. -/
def lawS1461ASeqWrong : ChangeSpec := { name := "lawS1461ASeq", fn := fun _ => fun
  | [d] => { results := [.lit (.bool false)], args := [d] }
  | _ => none }
def LawS1461ASeqWrongFalsely : Prop := lawS1461ASeqRow.holds Yba.pinned (OpenSpec.ofChange lawS1461ASeqWrong)

end Rows
end Go.Proofs.Ybulkadfs
