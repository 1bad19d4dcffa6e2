import Derived.Test.YbulkqzmRows
import Derived.Test.YbulkqzmExact
import Derived.WalkKit
import Derived.ProofKit
import Derived.OpenShut
import Derived.ShutString
import Derived.ChangeOld
import Derived.Below
namespace Go.Proofs.Ybulkqzm
open Go.ChangeShapes Go.WideShapes Go.ChangeAt Go.RowKit

namespace Exact
theorem own : ownKnob Yba.prog.godebug = none := by kernel_rfl
theorem laidOut : laidOutB Yba.prog = true := by kernel_rfl
theorem cells24 : Yba.prog.cellsOf 24 = 6 := by kernel_rfl
theorem cells22 : Yba.prog.cellsOf 22 = 1 := by kernel_rfl
theorem cells4 : Yba.prog.cellsOf 4 = 1 := by kernel_rfl

theorem array6 {α : Type} {cs : Array α} (h : cs.size = 6) : ∃ c0 c1 c2 c3 c4 c5, cs = #[c0, c1, c2, c3, c4, c5] := by
  obtain ⟨l⟩ := cs
  match l, h with
  | [c0, c1, c2, c3, c4, c5], _ => exact ⟨c0, c1, c2, c3, c4, c5, rfl⟩

theorem u16_of {H : Type} {enc : TypeId × Value → H} {w : World} {base : Nat} {spare : Nat → Bool} {held : Bool} {n : Nat} {v : Value} {y : Option (DataW H × List MemPlace)} (hy : y.isSome = true)
    (h : DataW.trod enc Yba.prog w base spare held n 22 [v] = y) : ∃ x : Int, v = .int .u16 x ∧ 0 ≤ x ∧ x ≤ 65535 := by
  obtain ⟨z, rfl⟩ := Option.isSome_iff_exists.1 hy
  obtain ⟨x, e, _, hw⟩ := DataW.trod_int Yba.underlying22 h
  obtain ⟨b0, b1⟩ := bounds_u16 hw
  exact ⟨x, by simpa using e, b0, b1⟩

set_option maxRecDepth 100000 in
/-- The struct that came in, its six cells written out. -/
theorem opened {H : Type} {enc : TypeId × Value → H} {w : World} {base b0 : Nat} {spare : Nat → Bool} {held : Bool} {r : Reach} {v : Value} {d : DataW H} {p : List MemPlace}
    (hv : Value.okWide Yba.prog w r b0 24 v) (h : DataW.Trod enc Yba.prog w base spare held 24 v d p) :
    ∃ (c : Int) (nc : Bool) (rn n a b : Int), v = .agg #[.int .u16 c, .bool nc, .int .u16 rn, .int .u16 n, .int .u16 a, .int .u16 b] ∧
      (0 ≤ c ∧ c ≤ 65535) ∧ (0 ≤ rn ∧ rn ≤ 65535) ∧ (0 ≤ n ∧ n ≤ 65535) ∧ (0 ≤ a ∧ a ≤ 65535) ∧ (0 ≤ b ∧ b ≤ 65535) := by
  obtain ⟨cs, rfl, hsz⟩ := okWide_struct Yba.underlying24 hv
  obtain ⟨c0, c1, c2, c3, c4, c5, rfl⟩ := array6 (hsz.trans cells24)
  obtain ⟨fuel, hf⟩ := h
  obtain ⟨xs, n, _, hx, hl, hlen, hfs⟩ := DataW.trod_struct Yba.underlying24 hf
  have hlen6 : xs.length = 6 := hlen
  have f0 := hfs 0 _ rfl
  have f1 := hfs 1 _ rfl
  have f2 := hfs 2 _ rfl
  have f3 := hfs 3 _ rfl
  have f4 := hfs 4 _ rfl
  have f5 := hfs 5 _ rfl
  simp [Value.cells, cells22, cells4] at f0 f1 f2 f3 f4 f5
  obtain ⟨c, rfl, hc⟩ := u16_of (by simp [hlen6]) f0
  obtain ⟨rn, rfl, hr⟩ := u16_of (by simp [hlen6]) f2
  obtain ⟨n', rfl, hn⟩ := u16_of (by simp [hlen6]) f3
  obtain ⟨a, rfl, ha⟩ := u16_of (by simp [hlen6]) f4
  obtain ⟨b, rfl, hb⟩ := u16_of (by simp [hlen6]) f5
  obtain ⟨z, hz⟩ : ∃ z, xs[1]? = some z := Option.isSome_iff_exists.1 (by simp [hlen6])
  obtain ⟨nc, e, _⟩ := DataW.trod_bool Yba.underlying4 (f1.trans hz)
  have e' : c1 = .bool nc := by simpa using e
  subst e'
  exact ⟨c, nc, rn, n', a, b, rfl, hc, hr, hn, ha, hb⟩

set_option maxRecDepth 100000 in
theorem lifted (os : Os) (started : os.Started) (H : Type) (enc : TypeId × Value → H) :
    ReturnsInHanded {} Yba.checked os 3 .any (Rows.lawS0870BExactSpec.pre6 enc Yba.prog Yba.f3 Rows.lawS0870BExactRow.domain false) (Rows.lawS0870BExactSpec.post enc Yba.prog Yba.f3 false true false false) := by
  refine returnsInHanded_of_change (C := Yba.checked) own started (by kernel_rfl) Yba.func3
    (ChangeSpec.witness6 (enc := enc) (C := Yba.checked) false ⟨#[], #[.agg #[.int .u16 0, .bool false, .int .u16 0, .int .u16 0, .int .u16 0, .int .u16 0]], []⟩ 8 (by kernel_rfl) (by kernel_rfl) (by kernel_rfl) (by kernel_rfl)) ?_
  intro W base args ds gs before hval0 hW _ _
  have hval : ∀ (j : Nat) t v, Yba.f3.params[j]? = some t → args[j]? = some v → Value.okWide Yba.prog W .any base t v := hval0
  have hW' := hW
  obtain ⟨p, q, hA0, hV, rfl, hfz, hnd⟩ := hW
  have hA : DataW.TrodAll enc Yba.prog W 0 (fun _ => true) true Yba.f3.params.toList args.toList ds p := hA0
  rw [Yba.params3] at hA hval
  obtain ⟨v0, vs0, d0, ds0, p0, q0, hargs, rfl, rfl, h0, r0⟩ := trodAll_cons hA
  obtain ⟨rfl, rfl, rfl⟩ := trodAll_nil r0
  obtain rfl : args = #[v0] := by cases args; simp_all
  obtain ⟨rfl, rfl⟩ := trodVars_none hV
  have lt0 : ∀ x ∈ p0, x.block < W.heap.size := by obtain ⟨m, hm⟩ := h0; exact DataW.trod_lt m _ _ _ hm
  have ho := opened (hval 0 24 v0 rfl rfl) h0
  clear hA0 hval0
  suffices hc : Calls Yba.prog 3 #[v0] W fun e w' => e = .returned (.bool true) ∧ Below W.heap.size W w' by
    refine hc.mono fun e W' ⟨he, bel⟩ => ?_
    subst he
    exact ⟨_, rfl, _, _, _, [], _, [], hW', trodAll_mk1 (shut_bool Yba.underlying4 _), (trodAll_cons_mk (Below.trod laidOut (by kernel_rfl) (of_decide_eq_true (by kernel_rfl)) h0 bel lt0) trodAll_mk0), rfl, bel.frame _, fun h => by cases h⟩
  obtain ⟨c, nc, rn, n, a, b, hv0, ⟨k0, k1⟩, ⟨k2, k3⟩, ⟨k4, k5⟩, ⟨k6, k7⟩, ⟨k8, k9⟩⟩ := ho
  rw [hv0]
  cases nc with
  | true => exact exact3_nocap c rn n a b W k0 k1 k2 k3 k4 k5 k6 k7 k8 k9
  | false => exact exact3_cap c rn n a b W k0 k1 k2 k3 k4 k5 k6 k7 k8 k9
end Exact

theorem exact_holds : Rows.LawS0870BExactSaid :=
  OpenClaim.holds_of_wide 3 Yba.f3 rfl rfl rfl rfl rfl rfl rfl ⟨rfl, rfl, rfl, rfl, rfl⟩ rfl rfl rfl rfl rfl (by kernel_rfl) Yba.func3 (by kernel_rfl)
    (of_decide_eq_true (by kernel_rfl)) (by unfold Func.isWrapper; rw [if_neg (of_decide_eq_false (by kernel_rfl))]; exact ⟨rfl, rfl⟩)
    (fun os started H enc _ => Exact.lifted os started H enc)
end Go.Proofs.Ybulkqzm
