/-
  DERIVED. GIVEN WITH THE SEED: THE CARDS: each row of YbulkraaFmtRows.lean that lists a variable, with what it lists TIED to the program's text (the seventh form; the later family's looks); each row that meets fmt, with fmt's text TOLD by the authors' own Lean function (tested against real Go, not proved from fmt's source: count such statements apart). THE CARD IS WHAT COUNTS. Prove the row's statement (the work); the ties are given (YbulkraaFmtTie.lean); close each card by the builder's one call (the guide's Derived/Test/ToyasCard.lean, 'card_holds'). Laid BY PROGRAM, IN A SANDBOX (cutbox-door.mjs). By AI agents, Wed Nov 11 2026. No macro, syntax, notation, axiom, sorry.
-/
import Derived.Test.YbulkraaFmtRows
import GoSem.ClaimSeven
namespace Go.Proofs.YbulkraaFmt
namespace Rows

/-- THE TOLD AND TIED CARD OF 'stats.LawS0871CChiSquare'. -/
def lawS0871CChiSquareCard : Claim7 := { stood := { row := lawS0871CChiSquareRow, standIns := [], harness := (true, "b3ce4b846dc096b709583e21d03f6b46b0970183555dd89d85a07e932c790b10"), looks := false }, told := true, laidByText := true, laidKinds := [.data], laidTests := true, laidLooks := .later, goes := false }
def LawS0871CChiSquareToldSaid : Prop := Claim7.holds Ybaf.pinned (.plain (OpenSpec.ofChange lawS0871CChiSquareSpec)) lawS0871CChiSquareCard
/-- ITS FALSE NEIGHBOUR. Refute it at one input. -/
def LawS0871CChiSquareToldWrongFalsely : Prop := Claim7.holds Ybaf.pinned (.plain (OpenSpec.ofChange lawS0871CChiSquareWrong)) lawS0871CChiSquareCard
end Rows
end Go.Proofs.YbulkraaFmt
