/-
  NARROWER THAN 'FOR EVERY INPUT', by the rows' own cells (each row's printed sentence says how): LawS0871CChiSquare: laid.
  DERIVED. THE GIVEN ROWS OF THIS SEAT. 1 by the template 'for every input the law returns true; each argument reads behind the call as it read before'; 0 by the template 'total and deterministic' (their statements: YbulkraaFmtTotals.lean).
  GIVEN WITH THE SEED: the statements are not yours to turn. If you find one false, say at which input.
  Laid BY PROGRAM, IN A SANDBOX (cutbox-rows.mjs): the forced cells as the released guide's own fill.sh prints them over the translation 7e943b883f5fc498… (all of the seat's roots in one cut). By AI agents, Wed Nov 11 2026. No macro, syntax, notation, axiom, sorry.
-/
import Derived.Test.YbulkraaFmtChecked
import GoSem.Claim
import GoSem.ClaimJoined
import GoSem.ClaimMapViews
import Derived.JoinedTies
import Derived.KernelRfl
namespace Go.Proofs.YbulkraaFmt
/- THE CELL 'sum', in the pinned program and in every row, IS THE sha256 OF THE DUMP (.gsa) THAT YbulkraaFmtProg.lean LOADS. Nothing in Lean hashes anything: it is a label: what it is worth is what the hold of that sum in a sandbox is worth. -/
noncomputable def Ybaf.pinned : Pinned := { name := "ybulkraafmt", sum := "7e943b883f5fc49829ec6adf249c0754013f3183c35cb2dfacb265f9ec569b25", checked := Ybaf.checked }
namespace Rows
def none {H : Type} : Left H := { results := [], args := [] }

/- WHAT THE LISTED PACKAGE-LEVEL VARIABLES READ AS WHEN THE CALL BEGINS. Each datum BY PROGRAM (the guide's laid-datum.mjs) off the statement by which the dump's own 'gosem.cut.vars' lays the variable. In a bare row this is a premise. The card (YbulkraaFmtCards.lean) ties it to the program's text. -/
def laid_example_com_coincord_coincord_internal_detmath_stirling {H : Type} : DataW H := .agg [.lit (.float .f64 4590669220166325589), .lit (.float .f64 13791923578851126295), .lit (.float .f64 4560459359808757786), .lit (.float .f64 13782001362529237012), .lit (.float .f64 4560903004447375139), .lit (.float .f64 13789857891829234813), .lit (.float .f64 4574040544619111450)]

/-- 'stats.LawS0871CChiSquare': WHATEVER THE INPUT: true; the input reads as it did. -/
def lawS0871CChiSquareSpec : ChangeSpec := { name := "lawS0871CChiSquare", vars := ["example.com/coincord/coincord/internal/detmath.stirling"], fn := fun _ => fun
  | [d1, d2, g1] => { results := [.lit (.bool true)], args := [d1, d2], vars := [g1] }
  | _ => none }
def lawS0871CChiSquareRow : OpenClaim := { program := "ybulkraafmt", sum := "7e943b883f5fc49829ec6adf249c0754013f3183c35cb2dfacb265f9ec569b25", func := "example.com/coincord/coincord/internal/stats.LawS0871CChiSquare", spec := "lawS0871CChiSquare", stops := ["fmt.Sprintf"], inPlace := ["fmt.Sprintf", "math.Float64bits", "math.Float64frombits", "math.RoundToEven"], named := ["example.com/coincord/coincord/internal/detmath.stirling"], apart := false, laid := [("example.com/coincord/coincord/internal/detmath.stirling", laid_example_com_coincord_coincord_internal_detmath_stirling)] }
/-- NO THEOREM (fmt's text is open here; it may be false): for the released tool's asking of the row's closed facts alone. THE STATEMENT IS 'LawS0871CChiSquareToldSaid' (YbulkraaFmtCards.lean). -/
def LawS0871CChiSquareFormAsk : Prop := lawS0871CChiSquareRow.holds Ybaf.pinned (OpenSpec.ofChange lawS0871CChiSquareSpec)

/-- ITS FALSE NEIGHBOUR: 'it returns false'. Refute it at one input. -/
def lawS0871CChiSquareWrong : ChangeSpec := { name := "lawS0871CChiSquare", vars := ["example.com/coincord/coincord/internal/detmath.stirling"], fn := fun _ => fun
  | [d1, d2, g1] => { results := [.lit (.bool false)], args := [d1, d2], vars := [g1] }
  | _ => none }
def LawS0871CChiSquareWrongFormAsk : Prop := lawS0871CChiSquareRow.holds Ybaf.pinned (OpenSpec.ofChange lawS0871CChiSquareWrong)

end Rows
end Go.Proofs.YbulkraaFmt
