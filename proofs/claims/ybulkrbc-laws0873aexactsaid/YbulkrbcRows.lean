/-
  No cell of these rows narrows 'for every input' (looked for: loops, veiled, ifaces, maps, wideKeys, modest, calm, conditions, laid).
  DERIVED. THE GIVEN ROWS OF THIS SEAT. 2 by the template 'for every input the law returns true; each argument reads behind the call as it read before'; 0 by the template 'total and deterministic' (their statements: YbulkrbcTotals.lean).
  GIVEN WITH THE SEED: the statements are not yours to turn. If you find one false, say at which input.
  Laid BY PROGRAM, IN A SANDBOX (cutbox-rows.mjs): the forced cells as the released guide's own fill.sh prints them over the translation 1a50d5008dc57e60… (all of the seat's roots in one cut). By AI agents, Wed Nov 11 2026. No macro, syntax, notation, axiom, sorry.
-/
import Derived.Test.YbulkrbcChecked
import GoSem.Claim
import GoSem.ClaimJoined
import GoSem.ClaimMapViews
import Derived.JoinedTies
import Derived.KernelRfl
namespace Go.Proofs.Ybulkrbc
/- THE CELL 'sum', in the pinned program and in every row, IS THE sha256 OF THE DUMP (.gsa) THAT YbulkrbcProg.lean LOADS. Nothing in Lean hashes anything: it is a label: what it is worth is what the hold of that sum in a sandbox is worth. -/
noncomputable def Yba.pinned : Pinned := { name := "ybulkrbc", sum := "1a50d5008dc57e601c9b7e98e9e0cb506266034398760a1bd0b114a6a64e0c2f", checked := Yba.checked }
namespace Rows
def none {H : Type} : Left H := { results := [], args := [] }

/-- 'cli.LawS0873AExact': WHATEVER THE INPUT: true; the input reads as it did. -/
def lawS0873AExactSpec : ChangeSpec := { name := "lawS0873AExact", fn := fun _ => fun
  | [d] => { results := [.lit (.bool true)], args := [d] }
  | _ => none }
def lawS0873AExactRow : OpenClaim := { program := "ybulkrbc", sum := "1a50d5008dc57e601c9b7e98e9e0cb506266034398760a1bd0b114a6a64e0c2f", func := "example.com/orrery/orrery/internal/cli.LawS0873AExact", spec := "lawS0873AExact", apart := false }
def LawS0873AExactSaid : Prop := lawS0873AExactRow.holds Yba.pinned (OpenSpec.ofChange lawS0873AExactSpec)

/-- ITS FALSE NEIGHBOUR: 'it returns false'. Refute it at one input. -/
def lawS0873AExactWrong : ChangeSpec := { name := "lawS0873AExact", fn := fun _ => fun
  | [d] => { results := [.lit (.bool false)], args := [d] }
  | _ => none }
def LawS0873AExactWrongFalsely : Prop := lawS0873AExactRow.holds Yba.pinned (OpenSpec.ofChange lawS0873AExactWrong)

/-- 'cli.LawS0873AInputKept': WHATEVER THE INPUT: true; the input reads as it did. -/
def lawS0873AInputKeptSpec : ChangeSpec := { name := "lawS0873AInputKept", fn := fun _ => fun
  | [d] => { results := [.lit (.bool true)], args := [d] }
  | _ => none }
def lawS0873AInputKeptRow : OpenClaim := { program := "ybulkrbc", sum := "1a50d5008dc57e601c9b7e98e9e0cb506266034398760a1bd0b114a6a64e0c2f", func := "example.com/orrery/orrery/internal/cli.LawS0873AInputKept", spec := "lawS0873AInputKept", apart := false }
def LawS0873AInputKeptSaid : Prop := lawS0873AInputKeptRow.holds Yba.pinned (OpenSpec.ofChange lawS0873AInputKeptSpec)

/-- ITS FALSE NEIGHBOUR: 'it returns false'. Refute it at one input. -/
def lawS0873AInputKeptWrong : ChangeSpec := { name := "lawS0873AInputKept", fn := fun _ => fun
  | [d] => { results := [.lit (.bool false)], args := [d] }
  | _ => none }
def LawS0873AInputKeptWrongFalsely : Prop := lawS0873AInputKeptRow.holds Yba.pinned (OpenSpec.ofChange lawS0873AInputKeptWrong)

end Rows
end Go.Proofs.Ybulkrbc
