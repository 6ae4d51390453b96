/-
  No cell of these rows narrows 'for every input' (looked for: loops, veiled, ifaces, maps, wideKeys, modest, calm, conditions, laid).
  DERIVED. THE GIVEN ROWS OF THIS SEAT. 4 by the template 'for every input the law returns true; each argument reads behind the call as it read before'; 0 by the template 'total and deterministic' (their statements: YbulkacyeTotals.lean).
  GIVEN WITH THE SEED: the statements are not yours to turn. If you find one false, say at which input.
  Laid BY PROGRAM, IN A SANDBOX (cutbox-rows.mjs): the forced cells as the released guide's own fill.sh prints them over the translation 15961c9e055161a0… (all of the seat's roots in one cut). By AI agents, Wed Nov 11 2026. No macro, syntax, notation, axiom, sorry.
-/
import Derived.Test.YbulkacyeChecked
import GoSem.Claim
import GoSem.ClaimJoined
import GoSem.ClaimMapViews
import Derived.JoinedTies
import Derived.KernelRfl
namespace Go.Proofs.Ybulkacye
/- THE CELL 'sum', in the pinned program and in every row, IS THE sha256 OF THE DUMP (.gsa) THAT YbulkacyeProg.lean LOADS. Nothing in Lean hashes anything: it is a label: what it is worth is what the hold of that sum in a sandbox is worth. -/
noncomputable def Yba.pinned : Pinned := { name := "ybulkacye", sum := "15961c9e055161a0d723e0b282c25f3d7a4ed02c4ae942aa80c3d1dcec963c0e", checked := Yba.checked }
namespace Rows
def none {H : Type} : Left H := { results := [], args := [] }

/-- 'history.LawS1447ARebuild': WHATEVER THE INPUT: true; the input reads as it did. -/
def lawS1447ARebuildSpec : ChangeSpec := { name := "lawS1447ARebuild", fn := fun _ => fun
  | [d1, d2] => { results := [.lit (.bool true)], args := [d1, d2] }
  | _ => none }
def lawS1447ARebuildRow : OpenClaim := { program := "ybulkacye", sum := "15961c9e055161a0d723e0b282c25f3d7a4ed02c4ae942aa80c3d1dcec963c0e", func := "example.com/weavekeep/weavekeep/internal/history.LawS1447ARebuild", spec := "lawS1447ARebuild", recurses := true, apart := false }
def LawS1447ARebuildSaid : Prop := lawS1447ARebuildRow.holds Yba.pinned (OpenSpec.ofChange lawS1447ARebuildSpec)

/-- ITS FALSE NEIGHBOUR: 'it returns false'. Refute it at one input. -/
def lawS1447ARebuildWrong : ChangeSpec := { name := "lawS1447ARebuild", fn := fun _ => fun
  | [d1, d2] => { results := [.lit (.bool false)], args := [d1, d2] }
  | _ => none }
def LawS1447ARebuildWrongFalsely : Prop := lawS1447ARebuildRow.holds Yba.pinned (OpenSpec.ofChange lawS1447ARebuildWrong)

/-- 'history.LawS1447ALongest': WHATEVER THE INPUT: true; the input reads as it did. -/
def lawS1447ALongestSpec : ChangeSpec := { name := "lawS1447ALongest", fn := fun _ => fun
  | [d1, d2] => { results := [.lit (.bool true)], args := [d1, d2] }
  | _ => none }
def lawS1447ALongestRow : OpenClaim := { program := "ybulkacye", sum := "15961c9e055161a0d723e0b282c25f3d7a4ed02c4ae942aa80c3d1dcec963c0e", func := "example.com/weavekeep/weavekeep/internal/history.LawS1447ALongest", spec := "lawS1447ALongest", recurses := true, apart := false }
def LawS1447ALongestSaid : Prop := lawS1447ALongestRow.holds Yba.pinned (OpenSpec.ofChange lawS1447ALongestSpec)

/-- ITS FALSE NEIGHBOUR: 'it returns false'. Refute it at one input. -/
def lawS1447ALongestWrong : ChangeSpec := { name := "lawS1447ALongest", fn := fun _ => fun
  | [d1, d2] => { results := [.lit (.bool false)], args := [d1, d2] }
  | _ => none }
def LawS1447ALongestWrongFalsely : Prop := lawS1447ALongestRow.holds Yba.pinned (OpenSpec.ofChange lawS1447ALongestWrong)

/-- 'history.LawS1447CAppend': WHATEVER THE INPUT: true; the input reads as it did. -/
def lawS1447CAppendSpec : ChangeSpec := { name := "lawS1447CAppend", fn := fun _ => fun
  | [d1, d2] => { results := [.lit (.bool true)], args := [d1, d2] }
  | _ => none }
def lawS1447CAppendRow : OpenClaim := { program := "ybulkacye", sum := "15961c9e055161a0d723e0b282c25f3d7a4ed02c4ae942aa80c3d1dcec963c0e", func := "example.com/weavekeep/weavekeep/internal/history.LawS1447CAppend", spec := "lawS1447CAppend", apart := false }
def LawS1447CAppendSaid : Prop := lawS1447CAppendRow.holds Yba.pinned (OpenSpec.ofChange lawS1447CAppendSpec)

/-- ITS FALSE NEIGHBOUR: 'it returns false'. Refute it at one input. -/
def lawS1447CAppendWrong : ChangeSpec := { name := "lawS1447CAppend", fn := fun _ => fun
  | [d1, d2] => { results := [.lit (.bool false)], args := [d1, d2] }
  | _ => none }
def LawS1447CAppendWrongFalsely : Prop := lawS1447CAppendRow.holds Yba.pinned (OpenSpec.ofChange lawS1447CAppendWrong)

/-- 'history.LawS1447CWriteTo': WHATEVER THE INPUT: true; the input reads as it did. -/
def lawS1447CWriteToSpec : ChangeSpec := { name := "lawS1447CWriteTo", fn := fun _ => fun
  | [d] => { results := [.lit (.bool true)], args := [d] }
  | _ => none }
def lawS1447CWriteToRow : OpenClaim := { program := "ybulkacye", sum := "15961c9e055161a0d723e0b282c25f3d7a4ed02c4ae942aa80c3d1dcec963c0e", func := "example.com/weavekeep/weavekeep/internal/history.LawS1447CWriteTo", spec := "lawS1447CWriteTo", unfollowed := true, recurses := true, apart := false }
def LawS1447CWriteToSaid : Prop := lawS1447CWriteToRow.holds Yba.pinned (OpenSpec.ofChange lawS1447CWriteToSpec)

/-- ITS FALSE NEIGHBOUR: 'it returns false'. Refute it at one input. -/
def lawS1447CWriteToWrong : ChangeSpec := { name := "lawS1447CWriteTo", fn := fun _ => fun
  | [d] => { results := [.lit (.bool false)], args := [d] }
  | _ => none }
def LawS1447CWriteToWrongFalsely : Prop := lawS1447CWriteToRow.holds Yba.pinned (OpenSpec.ofChange lawS1447CWriteToWrong)

end Rows
end Go.Proofs.Ybulkacye
