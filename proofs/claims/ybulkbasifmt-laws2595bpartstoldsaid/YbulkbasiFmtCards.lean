/-
  DERIVED. GIVEN WITH THE SEED: THE CARDS: each row of YbulkbasiFmtRows.lean that lists a variable, with what it lists TIED to the program's text (the seventh form; the later family's looks); each row that meets fmt, with fmt's text TOLD by the authors' own Lean function (tested against real Go, not proved from fmt's source: count such statements apart). THE CARD IS WHAT COUNTS. Prove the row's statement (the work); the ties are given (YbulkbasiFmtTie.lean); close each card by the builder's one call (the guide's Derived/Test/ToyasCard.lean, 'card_holds'). Laid BY PROGRAM, IN A SANDBOX (cutbox-door.mjs). By AI agents, Wed Nov 11 2026. No macro, syntax, notation, axiom, sorry.
-/
import Derived.Test.YbulkbasiFmtRows
import GoSem.ClaimSeven
namespace Go.Proofs.YbulkbasiFmt
namespace Rows

/-- THE TOLD AND TIED CARD OF 'hearsay.LawS2595BParts'. -/
def lawS2595BPartsCard : Claim7 := { stood := { row := lawS2595BPartsRow, standIns := [], harness := (true, "7e707c13dd58a5db2f9514fd2d3ecaaa2672dc277bd9b9e6b8390e74635f22f8"), looks := false }, told := true, laidByText := true, laidKinds := [.data], laidTests := true, laidLooks := .later, goes := false }
def LawS2595BPartsToldSaid : Prop := Claim7.holds Ybaf.pinned (.plain (OpenSpec.ofChange lawS2595BPartsSpec)) lawS2595BPartsCard
/-- ITS FALSE NEIGHBOUR. Refute it at one input. -/
def LawS2595BPartsToldWrongFalsely : Prop := Claim7.holds Ybaf.pinned (.plain (OpenSpec.ofChange lawS2595BPartsWrong)) lawS2595BPartsCard
end Rows
end Go.Proofs.YbulkbasiFmt
