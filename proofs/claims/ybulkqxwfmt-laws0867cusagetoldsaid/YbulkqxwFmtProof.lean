import Derived.Test.YbulkqxwFmtCards
import Derived.Test.YbulkqxwFmtTie
import Derived.Test.YbulkqxwFmtLaw
import Derived.ProofKit
import Derived.LaidLaws
import Derived.LaidHandle
import Derived.ChangeVars
import Derived.Stop.Joined
import Derived.Stop.JoinedAt
import Derived.Stop.JoinedTold
import Derived.SevenTiedAt
import Derived.OpenShut
namespace Go.Proofs.YbulkqxwFmt
open Go.ChangeShapes Go.WideShapes Go.RowKit
open Go.ChangeMaps (open_string shut_string)
open Go.Extern.Stop Go.Stop Go.Extern

theorem Ybaf.own : ownKnob Ybaf.prog.godebug = none := by kernel_rfl
theorem Ybaf.et : Ybaf.prog.globalNamed "errors.errorType" = some 0 := by kernel_rfl
theorem Ybaf.oneRow : ((List.range 103).filter fun t => Ybaf.prog.rowNamed t [101, 114, 114, 111, 114]) = [23] := by kernel_rfl
theorem Ybaf.size : Ybaf.prog.types.size = 103 := by kernel_rfl
theorem Ybaf.laidOut : laidOutB Ybaf.pinned.checked.prog = true := by kernel_rfl
theorem Ybaf.stopKnobs : Ybaf.pinned.checked.prog.stopKnobs = [] := by kernel_rfl
theorem Ybaf.quiet (os : Os) : Stop.quiet Ybaf.pinned.checked.prog os := by
  intro k hk
  rw [Ybaf.stopKnobs] at hk
  cases hk

/-- What the condition gives a walk: the variable's one cell. -/
theorem handle_of_laid {W : World} (h : laidMetH Ybaf.prog Rows.lawS0867CUsageRow.laid W) : W.cell? ⟨0, 0, none⟩ = some (.iface 60 (.agg #[.pointer (some ⟨1, 23, none⟩)])) := by
  have h' : laidMet Ybaf.prog [] W ∧ handlesMet Ybaf.prog Rows.lawS0867CUsageRow.laid W := h
  obtain ⟨name, u, ty, e1, e2, e3, e4, e5⟩ := h'.2 _ (List.mem_singleton.2 rfl)
  have en : name = [101, 114, 114, 111, 114] := (Option.some.inj e1).symm
  subst en
  have rt : some u = some 60 := e2.symm.trans (by kernel_rfl)
  obtain rfl := Option.some.inj rt
  have hm : ty ∈ (List.range 103).filter fun t => Ybaf.prog.rowNamed t [101, 114, 114, 111, 114] := List.mem_filter.2 ⟨List.mem_range.2 (by rw [← Ybaf.size]; exact e3), e4⟩
  rw [Ybaf.oneRow] at hm
  obtain rfl := List.mem_singleton.1 hm
  have hh : typeHandle Ybaf.prog 23 = .pointer (some ⟨1, 23, none⟩) := by kernel_rfl
  rw [hh] at e5
  simpa using World.var?_cell Ybaf.et e5 0

/-- A world that meets the condition: the settled one, the variable's cell laid. -/
def laidWorld (P : Program) (os : Os) : World :=
  let w0 := World.holding P os ⟨#[], #[], []⟩
  { w0 with heap := w0.heap.modify 0 fun
      | .cells _ t frozen => .cells #[.iface 60 (.agg #[.pointer (some ⟨1, 23, none⟩)])] t frozen
      | o => o }
theorem laidWorld_met (os : Os) (args : Array Value) : laidMetH Ybaf.prog Rows.lawS0867CUsageRow.laid ((laidWorld Ybaf.prog os).forCall (fun _ _ => 0) ⟨#[], args, []⟩).memory :=
  laidMetH_of_parts (laidMet_nil _ _) (by kernel_rfl)

set_option maxRecDepth 100000 in
theorem law_lifted (os : Os) (started : os.Started) (H : Type) (enc : TypeId × Value → H) :
    ReturnsInTold none {} Ybaf.checked os 4 .any Input.okWide ((OpenSpec.ofChange Rows.lawS0867CUsageSpec).preRow enc Ybaf.prog Ybaf.f4 Rows.lawS0867CUsageRow.domain false Rows.lawS0867CUsageRow.laid) (fun F => ((OpenSpec.ofChange Rows.lawS0867CUsageSpec).at F).post enc Ybaf.prog Ybaf.f4 false true false false) (aloneAtReturn Ybaf.prog) nothingAlways := by
  refine returnsInTold_of_row (C := Ybaf.checked) (s := OpenSpec.ofChange Rows.lawS0867CUsageSpec) (by kernel_rfl) Ybaf.own started (by kernel_rfl) Ybaf.func4
    (OpenSpec.witness_stopped_at (enc := enc) (C := Ybaf.checked) false (laidWorld Ybaf.prog os) #[.string ⟨#[]⟩, .string ⟨#[]⟩, .int .u8 0] rfl (by kernel_rfl) (by kernel_rfl) (by kernel_rfl) (OpenSpec.preRow_of_B rfl 8 (by kernel_rfl) (by kernel_rfl) (laidWorld_met os _))) ?_
  intro F W base args ds gs before _ hF hval0 hW _ _ _ hL _
  have hval : ∀ (j : Nat) t v, Ybaf.f4.params[j]? = some t → args[j]? = some v → Value.okWide Ybaf.prog W .any base t v := hval0
  have hW' := hW
  obtain ⟨p, q, hA0, hV0, rfl, _, _⟩ := hW
  have hA : DataW.TrodAll enc Ybaf.prog W 0 (fun _ => true) true Ybaf.f4.params.toList args.toList ds p := hA0
  rw [Ybaf.params4] at hA hval
  obtain ⟨v0, v1, v2, d0, d1, d2, p0, p1, p2, rfl, rfl, rfl, h0, h1, h2⟩ := trodAll_three hA
  obtain ⟨rfl, rfl⟩ := trodVars_none hV0
  obtain ⟨c, rfl, rfl, rfl, wc⟩ := open_string Ybaf.underlying9 (hval 0 9 v0 rfl rfl) h0
  obtain ⟨s, rfl, rfl, rfl, ws⟩ := open_string Ybaf.underlying9 (hval 1 9 v1 rfl rfl) h1
  obtain ⟨d, rfl, rfl, rfl, wd⟩ := open_int Ybaf.underlying5 (hval 2 5 v2 rfl rfl) h2
  obtain ⟨b0, b1⟩ := bounds_u8 wd
  have hg := handle_of_laid hL
  have e1 : ((OpenSpec.ofChange Rows.lawS0867CUsageSpec).at F.told).fn H ([.lit (.string c.data.toList), .lit (.string s.data.toList), .lit (.int .u8 d)] ++ []) = { results := [.lit (.bool true)], args := [.lit (.string c.data.toList), .lit (.string s.data.toList), .lit (.int .u8 d)] } := rfl
  refine (law4 F.told c s d W hF b0 b1 hg).mono fun e W' ⟨he, hw⟩ => ?_
  subst he
  refine ⟨_, rfl, _, _, _, [], [], [], hW', ?_, ?_, ?_, hw.frame _, fun h => by cases h⟩
  · rw [e1]; exact trodAll_mk1 (shut_bool Ybaf.underlying4 true)
  · rw [e1]; exact trodAll_mk3 (shut_string Ybaf.underlying9 wc) (shut_string Ybaf.underlying9 ws) (shut_int Ybaf.underlying5 wd)
  · rw [e1]; rfl

theorem lawS0867CUsage_told : Rows.LawS0867CUsageToldSaid :=
  Claim7.holds_of_told_tied_any_at .later 4 Ybaf.f4 _ [] [] _ _ _ _ _ (by kernel_rfl) rfl rfl rfl Ybaf.laidOut (by kernel_rfl) rfl ⟨rfl, rfl, rfl, rfl, rfl, rfl, rfl⟩ rfl rfl (by kernel_rfl) (by kernel_rfl) Ybaf.func4 (by kernel_rfl)
    (of_decide_eq_true (by kernel_rfl)) (by unfold Func.isWrapper; rw [if_neg (of_decide_eq_false (by kernel_rfl))]; exact ⟨rfl, rfl⟩) (by kernel_rfl) rfl Ybaf.stopKnobs.symm (by kernel_rfl)
    (by kernel_rfl) (by kernel_rfl) (by kernel_rfl) (by kernel_rfl) (by kernel_rfl) (by kernel_rfl) (by kernel_rfl) (by kernel_rfl) (by kernel_rfl) rfl (by kernel_rfl) rfl rfl
    rfl rfl
    rfl (by kernel_rfl) (by kernel_rfl) (by kernel_rfl) (by decide) (by kernel_rfl) lawS0867CUsage_row_tie
    (OpenClaim.moreEntering_of (by kernel_rfl) (by kernel_rfl) (by kernel_rfl) (by kernel_rfl) (by kernel_rfl) (by kernel_rfl) (by kernel_rfl) (by kernel_rfl) (by kernel_rfl) (by kernel_rfl))
    ⟨_, WideRow.started_initial, Ybaf.quiet _⟩
    (fun os started _ H enc _ => law_lifted os started H enc)
end Go.Proofs.YbulkqxwFmt
