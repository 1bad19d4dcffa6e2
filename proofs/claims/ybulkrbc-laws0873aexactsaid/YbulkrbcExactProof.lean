import Derived.Test.YbulkrbcLaw
import Derived.ProofKit
import Derived.OpenShut
import Derived.ShutString
import Derived.ChangeOld
import Derived.Below
import Derived.Deep.SlicePairs
namespace Go.Proofs.Ybulkrbc
open Go.ChangeShapes Go.WideShapes Go.ChangeAt Go.RowKit

theorem own : ownKnob Yba.prog.godebug = none := by kernel_rfl
theorem laidOut : laidOutB Yba.prog = true := by kernel_rfl

/-- What the walk is told of a slice of pairs that came in. -/
def IsRow (w : World) (a : Option Addr) (n : Nat) (S D : Nat → ByteArray) : Prop :=
  n ≤ maxLen ∧ (a = none → n = 0) ∧ ∃ b off, (0 < n → a = some ⟨b, off, none⟩) ∧ Pairs w b off n S D

theorem row_of {w : World} {x : Addr} {len : Nat} {V0 V1 : Nat → Value} (hm : len ≤ maxLen) (hc : ∀ i, i < len → w.cell? (x.add (i * 2)) = some (V0 i) ∧ w.cell? (x.add (i * 2 + 1)) = some (V1 i))
    (h0 : ∀ i, i < len → ∃ b, V0 i = .string b) (h1 : ∀ i, i < len → ∃ b, V1 i = .string b) : ∃ S D, IsRow w (some x) len S D := by
  obtain ⟨f, hf⟩ := Go.Deep.choose_lt h0
  obtain ⟨d, hd⟩ := Go.Deep.choose_lt h1
  refine ⟨f, d, hm, (fun h => by cases h), ?_⟩
  by_cases hz : len = 0
  · subst hz
    exact ⟨0, 0, fun h => absurd h (by decide), fun i h => absurd h (Nat.not_lt_zero _)⟩
  · obtain ⟨b, off, sp⟩ := x
    have hc0 := (hc 0 (by omega)).1
    have hsp : sp = none := by
      simp only [Addr.add] at hc0
      cases sp with
      | none => rfl
      | some y =>
        simp [World.cell?] at hc0
        split at hc0 <;> simp at hc0
    subst hsp
    refine ⟨b, off, fun _ => rfl, fun i hi => ⟨?_, ?_⟩⟩
    · rw [← hf i hi, ← (hc i hi).1]; cases i <;> simp [Addr.add]
    · rw [← hd i hi, ← (hc i hi).2]; simp [Addr.add, Nat.add_assoc]

theorem walk (a : Option Addr) (n cap : Nat) (S D : Nat → ByteArray) (w : World) (h : IsRow w a n S D) :
    Calls Yba.prog 3 #[.slice a n cap] w fun e w' => e = .returned (.bool true) ∧ Below w.heap.size w w' := by
  obtain ⟨hm, hz, b, off, ha, hP⟩ := h
  by_cases hn : n ≤ 4096
  · exact law3 a b off n cap S D w ha hz hn hP
  · exact big3 a n cap w (by omega) hm

set_option maxRecDepth 100000 in
theorem lifted (os : Os) (started : os.Started) (H : Type) (enc : TypeId × Value → H) :
    ReturnsInHanded {} Yba.checked os 3 .any (Rows.lawS0873AExactSpec.pre6 enc Yba.prog Yba.f3 Rows.lawS0873AExactRow.domain false) (Rows.lawS0873AExactSpec.post enc Yba.prog Yba.f3 false true false false) := by
  refine returnsInHanded_of_change (C := Yba.checked) own started (by kernel_rfl) Yba.func3
    (ChangeSpec.witness6 (enc := enc) (C := Yba.checked) false ⟨#[], #[.slice none 0 0], []⟩ 8 (by kernel_rfl) (by kernel_rfl) (by kernel_rfl) (by kernel_rfl)) ?_
  intro W base args ds gs before hval0 hW _ _
  have hval : ∀ (j : Nat) t v, Yba.f3.params[j]? = some t → args[j]? = some v → Value.okWide Yba.prog W .any base t v := hval0
  have hW' := hW
  obtain ⟨p, q, hA0, hV, rfl, hfz, hnd⟩ := hW
  have hA : DataW.TrodAll enc Yba.prog W 0 (fun _ => true) true Yba.f3.params.toList args.toList ds p := hA0
  rw [Yba.params3] at hA hval
  obtain ⟨v0, vs0, d0, ds0, p0, q0, hargs, rfl, rfl, h0, r0⟩ := trodAll_cons hA
  obtain ⟨rfl, rfl, rfl⟩ := trodAll_nil r0
  obtain rfl : args = #[v0] := by cases args; simp_all
  obtain ⟨rfl, rfl⟩ := trodVars_none hV
  obtain ⟨a0, len0, cap0, rfl⟩ := okWide_slice Yba.underlying22 (hval 0 22 v0 rfl rfl)
  have k0 := h0
  have lt0 : ∀ x ∈ p0, x.block < W.heap.size := by obtain ⟨m, hm⟩ := k0; exact DataW.trod_lt m _ _ _ hm
  obtain ⟨S, D, w0⟩ : ∃ S D, IsRow W a0 len0 S D := by
    obtain ⟨fuel, hf⟩ := h0
    rcases Go.Deep.open_slice_pairs Yba.underlying22 Yba.underlying30 (by kernel_rfl) rfl rfl (by kernel_rfl) (by kernel_rfl) hf with ⟨hcs, _⟩ | ⟨x, l, c, m, n, V0, V1, D0, D1, P0, P1, hcs, _, hl, hm, hmm, _, hcell⟩
    · simp [Value.cells] at hcs
      obtain ⟨rfl, rfl, rfl⟩ := hcs
      exact ⟨fun _ => ⟨#[]⟩, fun _ => ⟨#[]⟩, Nat.zero_le _, fun _ => rfl, 0, 0, fun h => absurd h (by decide), fun i h => absurd h (Nat.not_lt_zero _)⟩
    · simp [Value.cells] at hcs
      obtain ⟨rfl, rfl, rfl⟩ := hcs
      have hlm : len0 ≤ m := by rw [hmm]; split <;> omega
      exact row_of (by omega) (fun i hi => ⟨(hcell i (by omega)).1, (hcell i (by omega)).2.1⟩) (fun i hi => by
        obtain ⟨b, hb, _⟩ := DataW.trod_string Yba.underlying9 (hcell i (by omega)).2.2.1
        exact ⟨b, by simpa using hb⟩) (fun i hi => by
        obtain ⟨b, hb, _⟩ := DataW.trod_string Yba.underlying9 (hcell i (by omega)).2.2.2
        exact ⟨b, by simpa using hb⟩)
  clear hA0 hval0
  refine (walk a0 len0 cap0 S D W w0).mono fun e W' ⟨he, bel⟩ => ?_
  subst he
  exact ⟨_, rfl, _, _, _, [], _, [], hW', trodAll_mk1 (shut_bool Yba.underlying4 _), (trodAll_cons_mk (Below.trod laidOut (by kernel_rfl) (of_decide_eq_true (by kernel_rfl)) k0 bel lt0) trodAll_mk0), rfl, bel.frame _, fun h => by cases h⟩

theorem lawS0873AExact_holds : Rows.LawS0873AExactSaid :=
  OpenClaim.holds_of_wide 3 Yba.f3 rfl rfl rfl rfl rfl rfl rfl ⟨rfl, rfl, rfl, rfl, rfl⟩ rfl rfl rfl rfl rfl (by kernel_rfl) Yba.func3 (by kernel_rfl)
    (of_decide_eq_true (by kernel_rfl)) (by unfold Func.isWrapper; rw [if_neg (of_decide_eq_false (by kernel_rfl))]; exact ⟨rfl, rfl⟩)
    (fun os started H enc _ => lifted os started H enc)
end Go.Proofs.Ybulkrbc
