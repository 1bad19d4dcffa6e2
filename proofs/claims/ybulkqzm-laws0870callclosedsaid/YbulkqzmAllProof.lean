import Derived.Test.YbulkqzmRows
import Derived.Test.YbulkqzmAllWalk
import Derived.WalkKit
import Derived.ProofKit
import Derived.OpenShut
import Derived.ShutString
import Derived.ChangeOld
import Derived.Below
import Derived.Deep.Slices
namespace Go.Proofs.Ybulkqzm
open Go.ChangeShapes Go.WideShapes Go.ChangeAt Go.RowKit

namespace AllClosed
theorem own : ownKnob Yba.prog.godebug = none := by kernel_rfl
theorem laidOut : laidOutB Yba.prog = true := by kernel_rfl

/-- What the walk is told of a slice of bools that came in. -/
def IsRow (w : World) (a : Option Addr) (len cap : Nat) (cs : List Bool) : Prop :=
  (a = none ∧ len = 0 ∧ cap = 0 ∧ cs = []) ∨ ∃ b off, (0 < len → a = some ⟨b, off, none⟩) ∧ cs.length = len ∧ len ≤ maxLen ∧ ∀ i (h : i < cs.length), w.cell? ⟨b, off + i, none⟩ = some (.bool cs[i])

theorem big (a : Option Addr) (n cap : Nat) (w : World) (hn : 1024 < n) (hm : n ≤ maxLen) :
    Calls Yba.prog 5 #[.slice a n cap] w fun e w' => e = .returned (.bool true) ∧ Below w.heap.size w w' := by
  unfold maxLen at hm
  go_enter Yba.func5, Yba.ntmps5
  go_wp2
  go_ret
  exact ⟨rfl, Below.refl _ _⟩

theorem row_of {w : World} {x : Addr} {len cap : Nat} {V : Nat → Value} (hm : len ≤ maxLen) (hc : ∀ i, i < len → w.cell? (x.add i) = some (V i)) (hV : ∀ i, i < len → ∃ b, V i = .bool b) : ∃ cs, IsRow w (some x) len cap cs := by
  obtain ⟨f, hf⟩ := Go.Deep.choose_lt hV
  by_cases hz : len = 0
  · subst hz
    exact ⟨[], .inr ⟨0, 0, fun h => absurd h (by decide), rfl, hm, fun i h => absurd h (Nat.not_lt_zero _)⟩⟩
  · obtain ⟨b, off, sp⟩ := x
    have h0 := hc 0 (by omega)
    have hsp : sp = none := by
      simp only [Addr.add] at h0
      cases sp with
      | none => rfl
      | some y =>
        simp [World.cell?] at h0
        split at h0 <;> simp at h0
    subst hsp
    refine ⟨(List.range len).map f, .inr ⟨b, off, fun _ => rfl, by simp, hm, fun i h => ?_⟩⟩
    have hi : i < len := by simpa using h
    have h1 := hc i hi
    rw [hf i hi] at h1
    rw [show (⟨b, off + i, none⟩ : Addr) = (⟨b, off, none⟩ : Addr).add i from by simp [Addr.add], h1]
    simp

theorem walk (a : Option Addr) (n cap : Nat) (cs : List Bool) (w : World) (h : IsRow w a n cap cs) :
    Calls Yba.prog 5 #[.slice a n cap] w fun e w' => e = .returned (.bool true) ∧ Below w.heap.size w w' := by
  rcases h with ⟨rfl, rfl, rfl, rfl⟩ | ⟨b, off, ha, hl, hm, hc⟩
  · exact law5 none 0 0 0 0 [] w (fun h => absurd h (by decide)) rfl (by decide) (fun i h => absurd h (Nat.not_lt_zero _))
  · by_cases hn : n ≤ 1024
    · exact law5 _ b off cap n cs w ha hl hn hc
    · exact big _ n cap w (by omega) hm

set_option maxRecDepth 100000 in
theorem lifted (os : Os) (started : os.Started) (H : Type) (enc : TypeId × Value → H) :
    ReturnsInHanded {} Yba.checked os 5 .any (Rows.lawS0870CAllClosedSpec.pre6 enc Yba.prog Yba.f5 Rows.lawS0870CAllClosedRow.domain false) (Rows.lawS0870CAllClosedSpec.post enc Yba.prog Yba.f5 false true false false) := by
  refine returnsInHanded_of_change (C := Yba.checked) own started (by kernel_rfl) Yba.func5
    (ChangeSpec.witness6 (enc := enc) (C := Yba.checked) false ⟨#[], #[.slice none 0 0], []⟩ 8 (by kernel_rfl) (by kernel_rfl) (by kernel_rfl) (by kernel_rfl)) ?_
  intro W base args ds gs before hval0 hW _ _
  have hval : ∀ (j : Nat) t v, Yba.f5.params[j]? = some t → args[j]? = some v → Value.okWide Yba.prog W .any base t v := hval0
  have hW' := hW
  obtain ⟨p, q, hA0, hV, rfl, hfz, hnd⟩ := hW
  have hA : DataW.TrodAll enc Yba.prog W 0 (fun _ => true) true Yba.f5.params.toList args.toList ds p := hA0
  rw [Yba.params5] at hA hval
  obtain ⟨v0, vs0, d0, ds0, p0, q0, hargs, rfl, rfl, h0, r0⟩ := trodAll_cons hA
  obtain ⟨rfl, rfl, rfl⟩ := trodAll_nil r0
  obtain rfl : args = #[v0] := by cases args; simp_all
  obtain ⟨rfl, rfl⟩ := trodVars_none hV
  obtain ⟨a0, len0, cap0, rfl⟩ := okWide_slice Yba.underlying78 (hval 0 78 v0 rfl rfl)
  have k0 := h0
  have lt0 : ∀ x ∈ p0, x.block < W.heap.size := by obtain ⟨m, hm⟩ := k0; exact DataW.trod_lt m _ _ _ hm
  obtain ⟨z0, w0⟩ : ∃ cs, IsRow W a0 len0 cap0 cs := by
    obtain ⟨fuel, hf⟩ := h0
    rcases Go.Deep.open_slice1 Yba.underlying78 (by kernel_rfl) hf with ⟨hcs, _⟩ | ⟨x, l, c, m, n, V, D, Pl, hcs, _, hl, hm, hmm, _, hcell⟩
    · simp [Value.cells] at hcs
      obtain ⟨rfl, rfl, rfl⟩ := hcs
      exact ⟨[], .inl ⟨rfl, rfl, rfl, rfl⟩⟩
    · simp [Value.cells] at hcs
      obtain ⟨rfl, rfl, rfl⟩ := hcs
      have hlm : len0 ≤ m := by rw [hmm]; split <;> omega
      exact row_of (by omega) (fun i hi => (hcell i (by omega)).1) (fun i hi => by
        obtain ⟨b, hb, _⟩ := DataW.trod_bool Yba.underlying4 (hcell i (by omega)).2
        exact ⟨b, by simpa using hb⟩)
  clear hA0 hval0
  refine (walk a0 len0 cap0 z0 W w0).mono fun e W' ⟨he, bel⟩ => ?_
  subst he
  exact ⟨_, rfl, _, _, _, [], _, [], hW', trodAll_mk1 (shut_bool Yba.underlying4 _), (trodAll_cons_mk (Below.trod laidOut (by kernel_rfl) (of_decide_eq_true (by kernel_rfl)) k0 bel lt0) trodAll_mk0), rfl, bel.frame _, fun h => by cases h⟩
end AllClosed

theorem allClosed_holds : Rows.LawS0870CAllClosedSaid :=
  OpenClaim.holds_of_wide 5 Yba.f5 rfl rfl rfl rfl rfl rfl rfl ⟨rfl, rfl, rfl, rfl, rfl⟩ rfl rfl rfl rfl rfl (by kernel_rfl) Yba.func5 (by kernel_rfl)
    (of_decide_eq_true (by kernel_rfl)) (by unfold Func.isWrapper; rw [if_neg (of_decide_eq_false (by kernel_rfl))]; exact ⟨rfl, rfl⟩)
    (fun os started H enc _ => AllClosed.lifted os started H enc)
end Go.Proofs.Ybulkqzm
