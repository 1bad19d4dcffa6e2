import Derived.Test.YbulkraaFmtRows
import Derived.Test.YbulkraaFmtFlLg
import Derived.ProofKit
import Derived.LaidMore
import Derived.LaidLaws
import Derived.LaidHandle
import Derived.OpenShut
import Derived.ReadAgain
import Derived.Laws.Cover2
import Derived.Stop.Joined
namespace Go.Proofs.YbulkraaFmt
open Go.ChangeShapes Go.WideShapes Go.ChangeAt Go.RowKit
namespace Fl

theorem kids : Kids Ybaf.prog (· < Ybaf.prog.types.size) := kids_rows (by kernel_rfl) (by kernel_rfl)
theorem full : ∀ t e, t < Ybaf.prog.types.size → Ybaf.prog.underlying t = some (.slice e) → 0 < Ybaf.prog.cellsOf e := slices_full_of _ (by kernel_rfl)

/-- One cell that reads as a float's bits is that float. -/
theorem trod_float {H : Type} {enc : TypeId × Value → H} {w : World} {base : Nat} {spare : Nat → Bool} {held : Bool} {fuel : Nat} {v : Value} {b : Nat} {ps : List MemPlace}
    (h : DataW.trod enc Ybaf.prog w base spare held fuel 22 [v] = some (.lit (.float .f64 b), ps)) : v = .float .f64 b := by
  cases fuel with
  | zero => simp [DataW.trod] at h
  | succ n =>
    simp only [DataW.trod, Ybaf.underlying22] at h
    split at h <;> simp_all

/-- The table, out of the condition. -/
theorem stir_of_laid {W : World} (h : laidMetH Ybaf.prog Rows.lawS0871CChiSquareRow.laid W) : Stir W := by
  rw [MakeChecks.laidMetH_plain _ _ _ (by kernel_rfl)] at h
  obtain ⟨ps, ⟨g0, t0, cs0, f0, p0, q0, hg0, ht0, hv0, hd0, _, _⟩, _, _⟩ := h
  have hg := hg0
  obtain rfl : g0 = 0 := Option.some.inj (hg0.symm.trans (by kernel_rfl))
  obtain rfl : t0 = 34 := Option.some.inj (ht0.symm.trans (by kernel_rfl))
  obtain ⟨xs, m1, rfl, hx1, hlen, hn, hel⟩ := DataW.trod_array Ybaf.underlying34 hd0
  have c1 : Ybaf.prog.cellsOf 22 = 1 := by kernel_rfl
  have c7 : Ybaf.prog.cellsOf 34 = 7 := by kernel_rfl
  rw [c7] at hlen
  rw [c1] at hel
  have hx2 := congrArg Prod.fst hx1
  have hx3 : (xs.map (·.1)) = [.lit (.float .f64 (stw 0)), .lit (.float .f64 (stw 1)), .lit (.float .f64 (stw 2)), .lit (.float .f64 (stw 3)), .lit (.float .f64 (stw 4)), .lit (.float .f64 (stw 5)), .lit (.float .f64 (stw 6))] := by
    injection hx2.symm
  refine ⟨fun i hi => ?_⟩
  have hv := World.var?_cell hg hv0 i
  rw [hv]
  have hi7 : i < 7 := by omega
  have h1 := hel i hi7
  have hs : cs0.size = 7 := by simpa using hlen
  have e1 : (cs0.toList.drop (i * 1)).take 1 = [cs0[i]'(by omega)] := by
    rw [Nat.mul_one]
    rw [List.drop_eq_getElem_cons (by simpa using (by omega : i < cs0.size))]
    simp
  rw [e1] at h1
  have hxi : ∃ ps, xs[i]? = some (.lit (.float .f64 (stw i)), ps) := by
    have e2 := congrArg (fun l => l[i]?) hx3
    simp only [List.getElem?_map] at e2
    cases hq : xs[i]? with
    | none => simp [hq] at e2; rcases (by omega : i = 0 ∨ i = 1 ∨ i = 2 ∨ i = 3 ∨ i = 4 ∨ i = 5 ∨ i = 6) with rfl | rfl | rfl | rfl | rfl | rfl | rfl <;> simp at e2
    | some x =>
      obtain ⟨d, p⟩ := x
      rw [hq] at e2
      refine ⟨p, ?_⟩
      rcases (by omega : i = 0 ∨ i = 1 ∨ i = 2 ∨ i = 3 ∨ i = 4 ∨ i = 5 ∨ i = 6) with rfl | rfl | rfl | rfl | rfl | rfl | rfl <;> simp at e2 <;> rw [e2]
  obtain ⟨p, hp⟩ := hxi
  rw [hp] at h1
  have := trod_float h1
  rw [← this]
  simp [hs, hi7]

/-- The door's own heap meets the condition. -/
theorem door_met (os : Os) (args : Array Value) : laidMetH Ybaf.prog Rows.lawS0871CChiSquareRow.laid ((World.doorLaid Ybaf.prog 400 os).forCall (fun _ _ => 0) ⟨#[], args, []⟩).memory :=
  laidMetH_of_parts3 (fuel := 8) (laidMet_of_run' 8 (by kernel_rfl) (by kernel_rfl)) (by kernel_rfl) (by kernel_rfl)

/-- The listed variable reads again, in a world alike, as it did. -/
theorem vars_again {H : Type} {enc : TypeId × Value → H} {W : World} {gs : List (DataW H)} {q : List MemPlace} {n : Nat}
    (hV : DataW.TrodVars enc Ybaf.prog W (fun _ => true) Rows.lawS0871CChiSquareSpec.vars gs q) (sp : Nat → Bool) (hsp : ∀ p ∈ q, sp p.block = true) :
    DataW.TrodVars enc Ybaf.prog (W.drewN n) sp Rows.lawS0871CChiSquareSpec.vars gs q := by
  refine DataW.TrodVars.of_heap (w := W) (w' := W.drewN n) rfl ?_
  obtain ⟨g, t, cs, fuel, d, p, rfl, h1, h2, h3, h4, rfl⟩ := trodVars_one hV
  refine trodVars_mk1 (fuel := fuel) h1 h2 h3 ?_
  refine DataW.trod_respare kids full _ _ _ _ ?_ h4 fun x hx => hsp x (List.mem_append_right _ hx)
  obtain rfl : g = 0 := Option.some.inj (h1.symm.trans (by kernel_rfl))
  obtain rfl : t = 34 := Option.some.inj (h2.symm.trans (by kernel_rfl))
  exact of_decide_eq_true (by kernel_rfl)
end Fl
end Go.Proofs.YbulkraaFmt
