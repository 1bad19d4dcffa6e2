import Derived.Test.YbulkraaFmtCards
import Derived.Test.YbulkraaFmtTie
import Derived.Test.YbulkraaFmtChi
import Derived.Test.YbulkraaFmtFlLaid
import Derived.ProofKit
import Derived.LaidLaws
import Derived.LaidHandle
import Derived.ChangeVars
import Derived.Stop.Joined
import Derived.Stop.JoinedAt
import Derived.Stop.JoinedTold
import Derived.SevenTiedAt
import Derived.OpenShut
import Derived.WalkSmall
import Derived.Below
namespace Go.Proofs.YbulkraaFmt
open Go.ChangeShapes Go.WideShapes Go.RowKit
open Go.Extern.Stop Go.Stop Go.Extern

theorem Ybaf.own : ownKnob Ybaf.prog.godebug = none := by kernel_rfl
theorem Ybaf.laidOut : laidOutB Ybaf.pinned.checked.prog = true := by kernel_rfl
theorem Ybaf.stopKnobs : Ybaf.pinned.checked.prog.stopKnobs = [] := by kernel_rfl
theorem Ybaf.quiet (os : Os) : Stop.quiet Ybaf.pinned.checked.prog os := by
  intro k hk
  rw [Ybaf.stopKnobs] at hk
  cases hk
theorem word_of {b : Nat} (h : (Lit.float .f64 b).wf = true) : b < 2 ^ 64 := by
  simpa [Lit.wf] using h

set_option maxRecDepth 100000 in
theorem law_lifted (os : Os) (started : os.Started) (H : Type) (enc : TypeId × Value → H) :
    ReturnsInTold none {} Ybaf.checked os 3 .any Input.okWide ((OpenSpec.ofChange Rows.lawS0871CChiSquareSpec).preRow enc Ybaf.prog Ybaf.f3 Rows.lawS0871CChiSquareRow.domain false Rows.lawS0871CChiSquareRow.laid) (fun F => ((OpenSpec.ofChange Rows.lawS0871CChiSquareSpec).at F).post enc Ybaf.prog Ybaf.f3 false true false false) (aloneAtReturn Ybaf.prog) nothingAlways := by
  refine returnsInTold_of_row (C := Ybaf.checked) (s := OpenSpec.ofChange Rows.lawS0871CChiSquareSpec) (by kernel_rfl) Ybaf.own started (by kernel_rfl) Ybaf.func3
    (OpenSpec.witness_stopped_at (enc := enc) (C := Ybaf.checked) false (World.doorLaid Ybaf.prog 400 os) #[.float .f64 0, .int .u8 0] rfl (by kernel_rfl) (by kernel_rfl) (by kernel_rfl) (OpenSpec.preRow_of_B rfl 8 (by kernel_rfl) (by kernel_rfl) (Fl.door_met os _))) ?_
  intro F W base args ds gs before _ hF hval0 hW _ _ _ hL _
  have hval : ∀ (j : Nat) t v, Ybaf.f3.params[j]? = some t → args[j]? = some v → Value.okWide Ybaf.prog W .any base t v := hval0
  have hW' := hW
  obtain ⟨p, q, hA0, hV0, rfl, _, _⟩ := hW
  have hV : DataW.TrodVars enc Ybaf.prog W (fun _ => true) Rows.lawS0871CChiSquareSpec.vars gs q := hV0
  have hA : DataW.TrodAll enc Ybaf.prog W 0 (fun _ => true) true Ybaf.f3.params.toList args.toList ds p := hA0
  rw [Ybaf.params3] at hA hval
  obtain ⟨v0, v1, d0, d1, p0, p1, rfl, rfl, rfl, h0, h1⟩ := trodAll_two hA
  obtain ⟨b, rfl, rfl, rfl, wb⟩ := open_float Ybaf.underlying22 (hval 0 22 v0 rfl rfl) h0
  obtain ⟨u, rfl, rfl, rfl, wu⟩ := open_int Ybaf.underlying5 (hval 1 5 v1 rfl rfl) h1
  obtain ⟨u0, u1⟩ := bounds_u8 wu
  have T := Fl.stir_of_laid hL
  have hlt := hV.lt
  obtain ⟨g, rfl⟩ : ∃ g, gs = [g] := by
    obtain ⟨g, t, cs, fuel, d, p, rfl, _⟩ := trodVars_one hV
    exact ⟨_, rfl⟩
  have e1 : ((OpenSpec.ofChange Rows.lawS0871CChiSquareSpec).at F.told).fn H ([.lit (.float .f64 b), .lit (.int .u8 u)] ++ [g]) = { results := [.lit (.bool true)], args := [.lit (.float .f64 b), .lit (.int .u8 u)], vars := [g] } := rfl
  refine (Fl.law_any (Fl.is_word (word_of wb)) u W T u0 u1).mono fun e W' ⟨he, n, hw⟩ => ?_
  subst he
  subst hw
  refine ⟨_, rfl, _, _, _, [], [], q, hW', ?_, ?_, ?_, (below_drewN (Below.refl _ _) n).frame _, fun h => by cases h⟩
  · rw [e1]; exact trodAll_mk1 (shut_bool Ybaf.underlying4 true)
  · rw [e1]; exact (trodAll_cons_mk (p := []) (shut_float Ybaf.underlying22 wb) (trodAll_cons_mk (p := []) (shut_int Ybaf.underlying5 wu) trodAll_mk0))
  · rw [e1]; exact Fl.vars_again hV _ (fun p hp => by simpa using hlt p hp)

theorem lawS0871CChiSquare_told : Rows.LawS0871CChiSquareToldSaid :=
  Claim7.holds_of_told_tied_any_at .later 3 Ybaf.f3 _ [] [] _ _ _ _ _ (by kernel_rfl) rfl rfl rfl Ybaf.laidOut (by kernel_rfl) rfl ⟨rfl, rfl, rfl, rfl, rfl, rfl, rfl⟩ rfl rfl (by kernel_rfl) (by kernel_rfl) Ybaf.func3 (by kernel_rfl)
    (of_decide_eq_true (by kernel_rfl)) (by unfold Func.isWrapper; rw [if_neg (of_decide_eq_false (by kernel_rfl))]; exact ⟨rfl, rfl⟩) (by kernel_rfl) rfl Ybaf.stopKnobs.symm (by kernel_rfl)
    (by kernel_rfl) (by kernel_rfl) (by kernel_rfl) (by kernel_rfl) (by kernel_rfl) (by kernel_rfl) (by kernel_rfl) (by kernel_rfl) (by kernel_rfl) rfl (by kernel_rfl) rfl rfl
    rfl rfl
    rfl (by kernel_rfl) (by kernel_rfl) (by kernel_rfl) (by decide) (by kernel_rfl) lawS0871CChiSquare_row_tie
    (OpenClaim.moreEntering_of (by kernel_rfl) (by kernel_rfl) (by kernel_rfl) (by kernel_rfl) (by kernel_rfl) (by kernel_rfl) (by kernel_rfl) (by kernel_rfl) (by kernel_rfl) (by kernel_rfl))
    ⟨_, WideRow.started_initial, Ybaf.quiet _⟩
    (fun os started _ H enc _ => law_lifted os started H enc)
end Go.Proofs.YbulkraaFmt
