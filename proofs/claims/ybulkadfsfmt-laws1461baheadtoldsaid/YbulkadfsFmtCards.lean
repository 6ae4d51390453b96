/-
  DERIVED. GIVEN WITH THE SEED: THE CARDS: each row of YbulkadfsFmtRows.lean that lists a variable, with what it lists TIED to the program's text (the seventh form; the later family's looks); each row that meets fmt, with fmt's text TOLD by the authors' own Lean function (tested against real Go, not proved from fmt's source: count such statements apart). THE CARD IS WHAT COUNTS. Prove the row's statement (the work); the ties are given (YbulkadfsFmtTie.lean); close each card by the builder's one call (the guide's Derived/Test/ToyasCard.lean, 'card_holds'). Laid BY PROGRAM, IN A SANDBOX (cutbox-door.mjs). By AI agents, Wed Nov 11 2026. No macro, syntax, notation, axiom, sorry.
-/
import Derived.Test.YbulkadfsFmtRows
import GoSem.ClaimSeven
namespace Go.Proofs.YbulkadfsFmt
namespace Rows

/-- THE TOLD AND TIED CARD OF 'ballast.LawS1461BAhead'. -/
def lawS1461BAheadCard : Claim7 := { stood := { row := lawS1461BAheadRow, standIns := [], harness := (true, "d0181e664312e4aafe1f8a088f57800d98c66f165b46043d2c6e2acdb9a6f68f"), looks := false }, told := true, laidByText := true, laidKinds := [.data], laidTests := true, laidLooks := .later, goes := false }
def LawS1461BAheadToldSaid : Prop := Claim7.holds Ybaf.pinned (.plain (OpenSpec.ofChange lawS1461BAheadSpec)) lawS1461BAheadCard
/-- ITS FALSE NEIGHBOUR. Refute it at one input. -/
def LawS1461BAheadToldWrongFalsely : Prop := Claim7.holds Ybaf.pinned (.plain (OpenSpec.ofChange lawS1461BAheadWrong)) lawS1461BAheadCard

/-- THE TOLD CARD OF 'ballast.LawS1461CFlat'. -/
def lawS1461CFlatCard : Claim7 := { stood := { row := lawS1461CFlatRow, standIns := [], harness := (true, "d0181e664312e4aafe1f8a088f57800d98c66f165b46043d2c6e2acdb9a6f68f"), looks := false }, told := true, goes := false }
def LawS1461CFlatToldSaid : Prop := Claim7.holds Ybaf.pinned (.plain (OpenSpec.ofChange lawS1461CFlatSpec)) lawS1461CFlatCard
/-- ITS FALSE NEIGHBOUR. Refute it at one input. -/
def LawS1461CFlatToldWrongFalsely : Prop := Claim7.holds Ybaf.pinned (.plain (OpenSpec.ofChange lawS1461CFlatWrong)) lawS1461CFlatCard
end Rows
end Go.Proofs.YbulkadfsFmt
