/-
  NARROWER THAN 'FOR EVERY INPUT', by the rows' own cells (each row's printed sentence says how): LawS0867CPassThrough: laid · LawS0867CUsage: laid.
  DERIVED. THE GIVEN ROWS OF THIS SEAT. 2 by the template 'for every input the law returns true; each argument reads behind the call as it read before'; 0 by the template 'total and deterministic' (their statements: YbulkqxwFmtTotals.lean).
  GIVEN WITH THE SEED: the statements are not yours to turn. If you find one false, say at which input.
  Laid BY PROGRAM, IN A SANDBOX (cutbox-rows.mjs): the forced cells as the released guide's own fill.sh prints them over the translation 74bb9f020cf59637… (all of the seat's roots in one cut). By AI agents, Wed Nov 11 2026. No macro, syntax, notation, axiom, sorry.
-/
import Derived.Test.YbulkqxwFmtChecked
import GoSem.Claim
import GoSem.ClaimJoined
import GoSem.ClaimMapViews
import Derived.JoinedTies
import Derived.KernelRfl
namespace Go.Proofs.YbulkqxwFmt
/- THE CELL 'sum', in the pinned program and in every row, IS THE sha256 OF THE DUMP (.gsa) THAT YbulkqxwFmtProg.lean LOADS. Nothing in Lean hashes anything: it is a label: what it is worth is what the hold of that sum in a sandbox is worth. -/
noncomputable def Ybaf.pinned : Pinned := { name := "ybulkqxwfmt", sum := "74bb9f020cf596375ae9e6ffc26f79e523267b7eec28e833f77024fe36030fda", checked := Ybaf.checked }
namespace Rows
def none {H : Type} : Left H := { results := [], args := [] }

/- WHAT THE LISTED PACKAGE-LEVEL VARIABLES READ AS WHEN THE CALL BEGINS. Each datum BY PROGRAM (the guide's laid-datum.mjs) off the statement by which the dump's own 'gosem.cut.vars' lays the variable. In a bare row this is a premise. The card (YbulkqxwFmtCards.lean) ties it to the program's text. -/
def laid_errors_errorType {H : Type} : DataW H := .iface "internal/reflectlite.rtype" (.agg [.ptr (.lit (.string [101, 114, 114, 111, 114]))])

/-- 'cli.LawS0867CPassThrough': WHATEVER THE INPUT: true; the input reads as it did. -/
def lawS0867CPassThroughSpec : ChangeSpec := { name := "lawS0867CPassThrough", fn := fun _ => fun
  | [d1, d2, d3, d4] => { results := [.lit (.bool true)], args := [d1, d2, d3, d4] }
  | _ => none }
def lawS0867CPassThroughRow : OpenClaim := { program := "ybulkqxwfmt", sum := "74bb9f020cf596375ae9e6ffc26f79e523267b7eec28e833f77024fe36030fda", func := "example.com/zhaomu/zhaomu/pkg/cli.LawS0867CPassThrough", spec := "lawS0867CPassThrough", stops := ["fmt.Sprintf, its operands' methods called"], inPlace := ["internal/reflectlite.ValueOf", "(internal/reflectlite.Value).Type", "(internal/reflectlite.Value).IsNil", "internal/reflectlite.TypeOf", "(internal/reflectlite.Value).Elem", "(internal/reflectlite.Value).Set", "fmt.Sprintf"], unfollowed := true, recurses := true, named := ["errors.errorType"], apart := false, laid := [("errors.errorType", laid_errors_errorType)] }
/-- NO THEOREM (fmt's text is open here; it may be false): for the released tool's asking of the row's closed facts alone. THE STATEMENT IS 'LawS0867CPassThroughToldSaid' (YbulkqxwFmtCards.lean). -/
def LawS0867CPassThroughFormAsk : Prop := lawS0867CPassThroughRow.holds Ybaf.pinned (OpenSpec.ofChange lawS0867CPassThroughSpec)

/-- ITS FALSE NEIGHBOUR: 'it returns false'. Refute it at one input. -/
def lawS0867CPassThroughWrong : ChangeSpec := { name := "lawS0867CPassThrough", fn := fun _ => fun
  | [d1, d2, d3, d4] => { results := [.lit (.bool false)], args := [d1, d2, d3, d4] }
  | _ => none }
def LawS0867CPassThroughWrongFormAsk : Prop := lawS0867CPassThroughRow.holds Ybaf.pinned (OpenSpec.ofChange lawS0867CPassThroughWrong)

/-- 'cli.LawS0867CUsage': WHATEVER THE INPUT: true; the input reads as it did. -/
def lawS0867CUsageSpec : ChangeSpec := { name := "lawS0867CUsage", fn := fun _ => fun
  | [d1, d2, d3] => { results := [.lit (.bool true)], args := [d1, d2, d3] }
  | _ => none }
def lawS0867CUsageRow : OpenClaim := { program := "ybulkqxwfmt", sum := "74bb9f020cf596375ae9e6ffc26f79e523267b7eec28e833f77024fe36030fda", func := "example.com/zhaomu/zhaomu/pkg/cli.LawS0867CUsage", spec := "lawS0867CUsage", stops := ["fmt.Sprintf, its operands' methods called"], inPlace := ["internal/reflectlite.ValueOf", "(internal/reflectlite.Value).Type", "(internal/reflectlite.Value).IsNil", "internal/reflectlite.TypeOf", "(internal/reflectlite.Value).Elem", "(internal/reflectlite.Value).Set", "fmt.Sprintf"], unfollowed := true, recurses := true, named := ["errors.errorType"], apart := false, laid := [("errors.errorType", laid_errors_errorType)] }
/-- NO THEOREM (fmt's text is open here; it may be false): for the released tool's asking of the row's closed facts alone. THE STATEMENT IS 'LawS0867CUsageToldSaid' (YbulkqxwFmtCards.lean). -/
def LawS0867CUsageFormAsk : Prop := lawS0867CUsageRow.holds Ybaf.pinned (OpenSpec.ofChange lawS0867CUsageSpec)

/-- ITS FALSE NEIGHBOUR: 'it returns false'. Refute it at one input. -/
def lawS0867CUsageWrong : ChangeSpec := { name := "lawS0867CUsage", fn := fun _ => fun
  | [d1, d2, d3] => { results := [.lit (.bool false)], args := [d1, d2, d3] }
  | _ => none }
def LawS0867CUsageWrongFormAsk : Prop := lawS0867CUsageRow.holds Ybaf.pinned (OpenSpec.ofChange lawS0867CUsageWrong)

end Rows
end Go.Proofs.YbulkqxwFmt
