import Derived.Test.YbulkraaDoorCards
import Derived.Test.YbulkraaDoorTie
import Derived.Test.YbulkraaDoorLaw
import Derived.Test.YbulkraaDoorFlLaid
import Derived.Test.YbulkraaDoorFlEv0
import Derived.Test.YbulkraaDoorFlEv1
import Derived.Test.YbulkraaDoorFlEv2
import Derived.Test.YbulkraaDoorFlEv3
import Derived.SevenTiedAt
import Derived.WalkSmall
import Derived.Below
namespace Go.Proofs.YbulkraaDoor
open Go.ChangeShapes Go.WideShapes Go.ChangeAt Go.RowKit

namespace Fl
theorem own : ownKnob Ybad.prog.godebug = none := by kernel_rfl
theorem closed_of {p a : Nat} (h : closedAll p a 20 = true) (i : Nat) (h0 : a ≤ i) (h1 : i < a + 20) : closed p i = true :=
  List.all_eq_true.1 h i (List.mem_range'_1.2 ⟨h0, h1⟩)
theorem closed_even (i : Nat) (h : i < 160) : closed 0 i = true := by
  rcases (by omega : i < 20 ∨ (20 ≤ i ∧ i < 40) ∨ (40 ≤ i ∧ i < 60) ∨ (60 ≤ i ∧ i < 80) ∨ (80 ≤ i ∧ i < 100) ∨ (100 ≤ i ∧ i < 120) ∨ (120 ≤ i ∧ i < 140) ∨ (140 ≤ i ∧ i < 160)) with h | ⟨a, b⟩ | ⟨a, b⟩ | ⟨a, b⟩ | ⟨a, b⟩ | ⟨a, b⟩ | ⟨a, b⟩ | ⟨a, b⟩
  · exact closed_of ev_0_0 i (by omega) (by omega)
  · exact closed_of ev_0_20 i a b
  · exact closed_of ev_0_40 i a b
  · exact closed_of ev_0_60 i a b
  · exact closed_of ev_0_80 i a b
  · exact closed_of ev_0_100 i a b
  · exact closed_of ev_0_120 i a b
  · exact closed_of ev_0_140 i a b
theorem closed_odd (i : Nat) (h : i < 160) : closed 1 i = true := by
  rcases (by omega : i < 20 ∨ (20 ≤ i ∧ i < 40) ∨ (40 ≤ i ∧ i < 60) ∨ (60 ≤ i ∧ i < 80) ∨ (80 ≤ i ∧ i < 100) ∨ (100 ≤ i ∧ i < 120) ∨ (120 ≤ i ∧ i < 140) ∨ (140 ≤ i ∧ i < 160)) with h | ⟨a, b⟩ | ⟨a, b⟩ | ⟨a, b⟩ | ⟨a, b⟩ | ⟨a, b⟩ | ⟨a, b⟩ | ⟨a, b⟩
  · exact closed_of ev_1_0 i (by omega) (by omega)
  · exact closed_of ev_1_20 i a b
  · exact closed_of ev_1_40 i a b
  · exact closed_of ev_1_60 i a b
  · exact closed_of ev_1_80 i a b
  · exact closed_of ev_1_100 i a b
  · exact closed_of ev_1_120 i a b
  · exact closed_of ev_1_140 i a b
theorem law_any (sel k : Int) (w : World) (T : Stir w) (s0 : 0 ≤ sel) (s1 : sel ≤ 255) (k0 : 0 ≤ k) (k1 : k ≤ 65535) :
    Calls Ybad.prog 3 #[.int .u8 sel, .int .u16 k] w fun e w' => e = .returned (.bool true) ∧ ∃ n, w' = w.drewN n := by
  have hi : k % 160 = ((k % 160).toNat : Int) := by omega
  have hl : (k % 160).toNat < 160 := by omega
  rcases (by omega : sel % 2 = 0 ∨ sel % 2 = 1) with hp | hp
  · exact law_even sel k _ w T s0 s1 hp k0 k1 hi (closed_even _ hl)
  · exact law_odd sel k _ w T s0 s1 hp k0 k1 hi (closed_odd _ hl)

set_option maxRecDepth 100000 in
theorem lifted (os : Os) (started : os.Started) (H : Type) (enc : TypeId × Value → H) :
    ReturnsInHanded {} Ybad.checked os 3 .any (fun w args => (Rows.lawS0871CClosedFormsSpec.pre enc Ybad.prog Ybad.f3 [] false w args ∧ laidMetH Ybad.prog Rows.lawS0871CClosedFormsRow.laid w) ∧ sizedMet enc Ybad.prog Ybad.f3 (OpenSpec.ofChange Rows.lawS0871CClosedFormsSpec) false w args)
      (Rows.lawS0871CClosedFormsSpec.post enc Ybad.prog Ybad.f3 false true false false) := by
  refine returnsInHanded_of_change_and (C := Ybad.checked) (X := fun w _ => laidMetH Ybad.prog Rows.lawS0871CClosedFormsRow.laid w) (fun _ _ _ hh h => h.of_heap hh) own started (by kernel_rfl) Ybad.func3
    (ChangeSpec.witness_shaped (enc := enc) (C := Ybad.checked) (os := os) (X := fun w _ => laidMetH Ybad.prog Rows.lawS0871CClosedFormsRow.laid w) false (World.doorLaid Ybad.prog 400 os) #[.int .u8 0, .int .u16 0] 8 rfl (World.shaped_of_RefB (by kernel_rfl) (by kernel_rfl)) (by kernel_rfl) (by kernel_rfl) (by kernel_rfl) (door_met os _)) ?_
  intro W base args ds gs before hval0 hW _ _ hL _
  have hval : ∀ (j : Nat) t v, Ybad.f3.params[j]? = some t → args[j]? = some v → Value.okWide Ybad.prog W .any base t v := hval0
  have hW' := hW
  obtain ⟨p, q, hA0, hV, rfl, hfz, hnd⟩ := hW
  have hA : DataW.TrodAll enc Ybad.prog W 0 (fun _ => true) true Ybad.f3.params.toList args.toList ds p := hA0
  rw [Ybad.params3] at hA hval
  obtain ⟨v0, v1, d0, d1, p0, p1, rfl, rfl, rfl, h0, h1⟩ := trodAll_two hA
  obtain ⟨sel, rfl, rfl, rfl, ws⟩ := open_int Ybad.underlying5 (hval 0 5 v0 rfl rfl) h0
  obtain ⟨k, rfl, rfl, rfl, wk⟩ := open_int Ybad.underlying22 (hval 1 22 v1 rfl rfl) h1
  obtain ⟨s0, s1⟩ := bounds_u8 ws
  obtain ⟨k0, k1⟩ := bounds_u16 wk
  have T := stir_of_laid hL
  have hlt := hV.lt
  refine (law_any sel k W T s0 s1 k0 k1).mono fun e W' ⟨he, n, hw⟩ => ?_
  subst he
  subst hw
  obtain ⟨g, rfl⟩ : ∃ g, gs = [g] := by
    obtain ⟨g, t, cs, fuel, d, p, rfl, _⟩ := trodVars_one hV
    exact ⟨_, rfl⟩
  exact ⟨_, rfl, _, _, _, [], [], _, hW', trodAll_mk1 (shut_bool Ybad.underlying4 _), (trodAll_cons_mk (p := []) (shut_int Ybad.underlying5 ws) (trodAll_cons_mk (p := []) (shut_int Ybad.underlying22 wk) trodAll_mk0)), vars_again hV _ (fun p hp => by simpa using hlt p hp), (below_drewN (Below.refl _ _) n).frame _, fun h => by cases h⟩
end Fl

theorem closedForms_holds : Rows.LawS0871CClosedFormsSaid :=
  OpenClaim.holds_of_wide 3 Ybad.f3 rfl rfl rfl rfl rfl rfl rfl ⟨rfl, rfl, rfl, rfl, rfl⟩ rfl rfl rfl rfl rfl (by kernel_rfl) Ybad.func3 (by kernel_rfl)
    (of_decide_eq_true (by kernel_rfl)) (by unfold Func.isWrapper; rw [if_neg (of_decide_eq_false (by kernel_rfl))]; exact ⟨rfl, rfl⟩)
    (fun os started H enc _ => Fl.lifted os started H enc)

theorem closedFormsCard_holds : Rows.LawS0871CClosedFormsCardSaid :=
  Claim7.holds_tied_plain_at .later [] [.data] true _ false
    closedForms_holds (fun _ h => by cases h) (by kernel_rfl) (fun _ h => by cases h) lawS0871CClosedForms_row_tie rfl ⟨rfl, rfl⟩ (by kernel_rfl) rfl
    (fun f fn hf hfn => by
      obtain rfl : f = 3 := Option.some.inj (hf.symm.trans (by kernel_rfl))
      obtain rfl : fn = Ybad.f3 := (Option.some.inj (Ybad.func3.symm.trans hfn)).symm
      exact ⟨by kernel_rfl, fun j t ht => by
        rw [Ybad.params3] at ht
        rcases j with _ | _ | j
        · obtain rfl : t = 5 := by simpa using ht.symm
          exact (show Ybad.prog.wantsStandIn 5 = false by kernel_rfl)
        · obtain rfl : t = 22 := by simpa using ht.symm
          exact (show Ybad.prog.wantsStandIn 22 = false by kernel_rfl)
        · simp at ht⟩)
    (by kernel_rfl)
end Go.Proofs.YbulkraaDoor
