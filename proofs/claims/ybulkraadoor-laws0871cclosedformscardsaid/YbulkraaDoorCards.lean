/-
  DERIVED. GIVEN WITH THE SEED: THE CARDS: each row of YbulkraaDoorRows.lean that lists a variable, with what it lists TIED to the program's text (the seventh form; the later family's looks); each row that meets fmt, with fmt's text TOLD by the authors' own Lean function (tested against real Go, not proved from fmt's source: count such statements apart). THE CARD IS WHAT COUNTS. Prove the row's statement (the work); the ties are given (YbulkraaDoorTie.lean); close each card by the builder's one call (the guide's Derived/Test/ToyasCard.lean, 'card_holds'). Laid BY PROGRAM, IN A SANDBOX (cutbox-door.mjs). By AI agents, Wed Nov 11 2026. No macro, syntax, notation, axiom, sorry.
-/
import Derived.Test.YbulkraaDoorRows
import GoSem.ClaimSeven
namespace Go.Proofs.YbulkraaDoor
namespace Rows

/-- THE TIED CARD OF 'stats.LawS0871CClosedForms'. -/
def lawS0871CClosedFormsCard : Claim7 := { stood := { row := lawS0871CClosedFormsRow, standIns := [], harness := (true, "da97b1f8f04d7eef17943a76a32eccefa6012660602bb37b6e89207e00307297"), looks := false }, kinds := [], alts := [], laidByText := true, laidKinds := [.data], laidTests := true, laidLooks := .later }
def LawS0871CClosedFormsCardSaid : Prop := Claim7.holds Ybad.pinned (.plain (OpenSpec.ofChange lawS0871CClosedFormsSpec)) lawS0871CClosedFormsCard

/-- THE TIED CARD OF 'stats.LawS0871CSeriesRange'. -/
def lawS0871CSeriesRangeCard : Claim7 := { stood := { row := lawS0871CSeriesRangeRow, standIns := [], harness := (true, "da97b1f8f04d7eef17943a76a32eccefa6012660602bb37b6e89207e00307297"), looks := false }, kinds := [], alts := [], laidByText := true, laidKinds := [.data], laidTests := true, laidLooks := .later }
def LawS0871CSeriesRangeCardSaid : Prop := Claim7.holds Ybad.pinned (.plain (OpenSpec.ofChange lawS0871CSeriesRangeSpec)) lawS0871CSeriesRangeCard
end Rows
end Go.Proofs.YbulkraaDoor
