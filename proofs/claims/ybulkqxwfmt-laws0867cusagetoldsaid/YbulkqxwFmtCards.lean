/-
  DERIVED. GIVEN WITH THE SEED: THE CARDS: each row of YbulkqxwFmtRows.lean that lists a variable, with what it lists TIED to the program's text (the seventh form; the later family's looks); each row that meets fmt, with fmt's text TOLD by the authors' own Lean function (tested against real Go, not proved from fmt's source: count such statements apart). THE CARD IS WHAT COUNTS. Prove the row's statement (the work); the ties are given (YbulkqxwFmtTie.lean); close each card by the builder's one call (the guide's Derived/Test/ToyasCard.lean, 'card_holds'). Laid BY PROGRAM, IN A SANDBOX (cutbox-door.mjs). By AI agents, Wed Nov 11 2026. No macro, syntax, notation, axiom, sorry.
-/
import Derived.Test.YbulkqxwFmtRows
import GoSem.ClaimSeven
namespace Go.Proofs.YbulkqxwFmt
namespace Rows

/-- THE TOLD AND TIED CARD OF 'cli.LawS0867CPassThrough'. -/
def lawS0867CPassThroughCard : Claim7 := { stood := { row := lawS0867CPassThroughRow, standIns := [], harness := (true, "0840a7d62b457716f3f6532a4c729441dd2d05713617eee24d66a14668a3789c"), looks := true }, told := true, laidByText := true, laidKinds := [.handle], laidTests := true, laidLooks := .later, goes := false }
def LawS0867CPassThroughToldSaid : Prop := Claim7.holds Ybaf.pinned (.plain (OpenSpec.ofChange lawS0867CPassThroughSpec)) lawS0867CPassThroughCard
/-- ITS FALSE NEIGHBOUR. Refute it at one input. -/
def LawS0867CPassThroughToldWrongFalsely : Prop := Claim7.holds Ybaf.pinned (.plain (OpenSpec.ofChange lawS0867CPassThroughWrong)) lawS0867CPassThroughCard

/-- THE TOLD AND TIED CARD OF 'cli.LawS0867CUsage'. -/
def lawS0867CUsageCard : Claim7 := { stood := { row := lawS0867CUsageRow, standIns := [], harness := (true, "0840a7d62b457716f3f6532a4c729441dd2d05713617eee24d66a14668a3789c"), looks := true }, told := true, laidByText := true, laidKinds := [.handle], laidTests := true, laidLooks := .later, goes := false }
def LawS0867CUsageToldSaid : Prop := Claim7.holds Ybaf.pinned (.plain (OpenSpec.ofChange lawS0867CUsageSpec)) lawS0867CUsageCard
/-- ITS FALSE NEIGHBOUR. Refute it at one input. -/
def LawS0867CUsageToldWrongFalsely : Prop := Claim7.holds Ybaf.pinned (.plain (OpenSpec.ofChange lawS0867CUsageWrong)) lawS0867CUsageCard
end Rows
end Go.Proofs.YbulkqxwFmt
