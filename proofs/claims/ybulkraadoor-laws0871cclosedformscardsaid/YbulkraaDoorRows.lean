/-
  NARROWER THAN 'FOR EVERY INPUT', by the rows' own cells (each row's printed sentence says how): LawS0871CClosedForms: laid · LawS0871CSeriesRange: laid.
  DERIVED. THE GIVEN ROWS OF THIS SEAT. 2 by the template 'for every input the law returns true; each argument reads behind the call as it read before'; 0 by the template 'total and deterministic' (their statements: YbulkraaDoorTotals.lean).
  GIVEN WITH THE SEED: the statements are not yours to turn. If you find one false, say at which input.
  Laid BY PROGRAM, IN A SANDBOX (cutbox-rows.mjs): the forced cells as the released guide's own fill.sh prints them over the translation a5851216800f7df1… (all of the seat's roots in one cut). By AI agents, Wed Nov 11 2026. No macro, syntax, notation, axiom, sorry.
-/
import Derived.Test.YbulkraaDoorChecked
import GoSem.Claim
import GoSem.ClaimJoined
import GoSem.ClaimMapViews
import Derived.JoinedTies
import Derived.KernelRfl
namespace Go.Proofs.YbulkraaDoor
/- THE CELL 'sum', in the pinned program and in every row, IS THE sha256 OF THE DUMP (.gsa) THAT YbulkraaDoorProg.lean LOADS. Nothing in Lean hashes anything: it is a label: what it is worth is what the hold of that sum in a sandbox is worth. -/
noncomputable def Ybad.pinned : Pinned := { name := "ybulkraadoor", sum := "a5851216800f7df1b289550d8d8435824fcfb5410e87ad77f947be677f2b0cf4", checked := Ybad.checked }
namespace Rows
def none {H : Type} : Left H := { results := [], args := [] }

/- WHAT THE LISTED PACKAGE-LEVEL VARIABLES READ AS WHEN THE CALL BEGINS. Each datum BY PROGRAM (the guide's laid-datum.mjs) off the statement by which the dump's own 'gosem.cut.vars' lays the variable. In a bare row this is a premise. The card (YbulkraaDoorCards.lean) ties it to the program's text. -/
def laid_example_com_coincord_coincord_internal_detmath_stirling {H : Type} : DataW H := .agg [.lit (.float .f64 4590669220166325589), .lit (.float .f64 13791923578851126295), .lit (.float .f64 4560459359808757786), .lit (.float .f64 13782001362529237012), .lit (.float .f64 4560903004447375139), .lit (.float .f64 13789857891829234813), .lit (.float .f64 4574040544619111450)]

/-- 'stats.LawS0871CClosedForms': WHATEVER THE INPUT: true; the input reads as it did. -/
def lawS0871CClosedFormsSpec : ChangeSpec := { name := "lawS0871CClosedForms", vars := ["example.com/coincord/coincord/internal/detmath.stirling"], fn := fun _ => fun
  | [d1, d2, g1] => { results := [.lit (.bool true)], args := [d1, d2], vars := [g1] }
  | _ => none }
def lawS0871CClosedFormsRow : OpenClaim := { program := "ybulkraadoor", sum := "a5851216800f7df1b289550d8d8435824fcfb5410e87ad77f947be677f2b0cf4", func := "example.com/coincord/coincord/internal/stats.LawS0871CClosedForms", spec := "lawS0871CClosedForms", inPlace := ["math.Float64frombits", "math.RoundToEven", "math.Float64bits"], named := ["example.com/coincord/coincord/internal/detmath.stirling"], apart := false, laid := [("example.com/coincord/coincord/internal/detmath.stirling", laid_example_com_coincord_coincord_internal_detmath_stirling)] }
def LawS0871CClosedFormsSaid : Prop := lawS0871CClosedFormsRow.holds Ybad.pinned (OpenSpec.ofChange lawS0871CClosedFormsSpec)

/-- ITS FALSE NEIGHBOUR: 'it returns false'. Refute it at one input. -/
def lawS0871CClosedFormsWrong : ChangeSpec := { name := "lawS0871CClosedForms", vars := ["example.com/coincord/coincord/internal/detmath.stirling"], fn := fun _ => fun
  | [d1, d2, g1] => { results := [.lit (.bool false)], args := [d1, d2], vars := [g1] }
  | _ => none }
def LawS0871CClosedFormsWrongFalsely : Prop := lawS0871CClosedFormsRow.holds Ybad.pinned (OpenSpec.ofChange lawS0871CClosedFormsWrong)

/-- 'stats.LawS0871CSeriesRange': WHATEVER THE INPUT: true; the input reads as it did. -/
def lawS0871CSeriesRangeSpec : ChangeSpec := { name := "lawS0871CSeriesRange", vars := ["example.com/coincord/coincord/internal/detmath.stirling"], fn := fun _ => fun
  | [d1, d2, g1] => { results := [.lit (.bool true)], args := [d1, d2], vars := [g1] }
  | _ => none }
def lawS0871CSeriesRangeRow : OpenClaim := { program := "ybulkraadoor", sum := "a5851216800f7df1b289550d8d8435824fcfb5410e87ad77f947be677f2b0cf4", func := "example.com/coincord/coincord/internal/stats.LawS0871CSeriesRange", spec := "lawS0871CSeriesRange", inPlace := ["math.Float64bits", "math.Float64frombits", "math.RoundToEven"], named := ["example.com/coincord/coincord/internal/detmath.stirling"], apart := false, laid := [("example.com/coincord/coincord/internal/detmath.stirling", laid_example_com_coincord_coincord_internal_detmath_stirling)] }
def LawS0871CSeriesRangeSaid : Prop := lawS0871CSeriesRangeRow.holds Ybad.pinned (OpenSpec.ofChange lawS0871CSeriesRangeSpec)

/-- ITS FALSE NEIGHBOUR: 'it returns false'. Refute it at one input. -/
def lawS0871CSeriesRangeWrong : ChangeSpec := { name := "lawS0871CSeriesRange", vars := ["example.com/coincord/coincord/internal/detmath.stirling"], fn := fun _ => fun
  | [d1, d2, g1] => { results := [.lit (.bool false)], args := [d1, d2], vars := [g1] }
  | _ => none }
def LawS0871CSeriesRangeWrongFalsely : Prop := lawS0871CSeriesRangeRow.holds Ybad.pinned (OpenSpec.ofChange lawS0871CSeriesRangeWrong)

end Rows
end Go.Proofs.YbulkraaDoor
