import Derived.Test.YbulkqzmCore
import Derived.Laws.Tables
namespace Go.Proofs.Ybulkqzm
open Go.RowKit

/-- The cells of '&core[int]{}'. -/
def zeroCells (P : Program) : Array Value := (P.built 75 []).getD #[]
theorem zero_built : (Yba.prog.built 75 []).isSome = true := by kernel_rfl
theorem zero0 : (zeroCells Yba.prog)[0]? = some (.int .u64 0) := by kernel_rfl
theorem zero58 : (zeroCells Yba.prog)[58]? = some (.int .u64 0) := by kernel_rfl
theorem zero166 : (zeroCells Yba.prog)[166]? = some (.int .i64 0) := by kernel_rfl
theorem zero167 : (zeroCells Yba.prog)[167]? = some (.int .u64 0) := by kernel_rfl
theorem zero254 : (zeroCells Yba.prog)[254]? = some (.int .i64 0) := by kernel_rfl
theorem zero255 : (zeroCells Yba.prog)[255]? = some (.int .i64 0) := by kernel_rfl
theorem zero306 : (zeroCells Yba.prog)[306]? = some (.int .i32 0) := by kernel_rfl

theorem wpList_zero {ops : Array Oper} {rest : List Oper} {o : Oper} {a : Act} {w : World} {Q : Exit → Act → World → Prop} (hg : o.guard = none) (ho : o.op = .build 75 #[])
    (h : wpList Yba.prog ops Q rest (a.put o.dst (.agg (zeroCells Yba.prog))) w) : wpList Yba.prog ops Q (o :: rest) a w := by
  refine wpList_build hg 75 #[] ho ?_ ?_
  · simp only [List.map_toArray, List.map_nil]; exact zero_built
  · simp only [List.map_toArray, List.map_nil]; exact h

theorem cell_new {w : World} {c : Array Value} {t k : Nat} {v : Value} (h : c[k]? = some v) : (w.alloc (.cells c t)).cell? ⟨w.heap.size, k, none⟩ = some v := by
  simp only [World.cell?, heap_alloc_new]; exact h
theorem frozen_new {w : World} {c : Array Value} {t k : Nat} : (w.alloc (.cells c t)).frozen? ⟨w.heap.size, k, none⟩ = false := by
  simp only [World.frozen?, heap_alloc_new]; simp
theorem set_ne {w : World} {b o o' : Nat} {u v : Value} (h : w.cell? ⟨b, o, none⟩ = some v) (hne : o' ≠ o) : (w.setCell ⟨b, o', none⟩ u).cell? ⟨b, o, none⟩ = some v := by
  rw [World.cell?_setCell_other _ _ _ _ (by intro e; injection e with _ e; exact hne e)]; exact h
theorem set_eq {w : World} {b o : Nat} {u v : Value} (h : w.cell? ⟨b, o, none⟩ = some v) : (w.setCell ⟨b, o, none⟩ u).cell? ⟨b, o, none⟩ = some u :=
  World.cell?_setCell_same w ⟨b, o, none⟩ u h
theorem set_fr {w : World} {b o o' : Nat} {u : Value} (h : w.frozen? ⟨b, o, none⟩ = false) : (w.setCell ⟨b, o', none⟩ u).frozen? ⟨b, o, none⟩ = false := by simp [h]

/-- A core with these counters, its lock free. -/
structure CoreIs (w : World) (b : Nat) (cap run inn hd hn : Int) : Prop where
  c254 : w.cell? ⟨b, 254, none⟩ = some (.int .i64 cap)
  c255 : w.cell? ⟨b, 255, none⟩ = some (.int .i64 run)
  c58 : w.cell? ⟨b, 58, none⟩ = some (.int .u64 inn)
  c0 : w.cell? ⟨b, 0, none⟩ = some (.int .u64 hd)
  c167 : w.cell? ⟨b, 167, none⟩ = some (.int .u64 hn)
  c166 : w.cell? ⟨b, 166, none⟩ = some (.int .i64 0)
  c306 : w.cell? ⟨b, 306, none⟩ = some (.int .i32 0)
  f306 : w.frozen? ⟨b, 306, none⟩ = false

theorem CoreIs.drewN {w : World} {b : Nat} {cap run inn hd hn : Int} (h : CoreIs w b cap run inn hd hn) (n : Nat) : CoreIs (w.drewN n) b cap run inn hd hn :=
  ⟨h.c254, h.c255, h.c58, h.c0, h.c167, h.c166, h.c306, h.f306⟩

set_option maxRecDepth 100000 in
set_option maxHeartbeats 1600000 in
theorem build6 (cap run inn hd hn : Int) (w : World) :
    Calls Yba.prog 6 #[.int .i64 cap, .int .i64 run, .int .u64 inn, .int .u64 hd, .int .u64 hn] w fun e w' =>
      e = .returned (.pointer (some ⟨w.heap.size, 0, none⟩)) ∧ Below w.heap.size w w' ∧ CoreIs w' w.heap.size cap run inn hd hn := by
  have z254 := cell_new (w := w) (t := 75) zero254
  have z255 := cell_new (w := w) (t := 75) zero255
  have z58 := cell_new (w := w) (t := 75) zero58
  have z0 := cell_new (w := w) (t := 75) zero0
  have z167 := cell_new (w := w) (t := 75) zero167
  have z166 := cell_new (w := w) (t := 75) zero166
  have z306 := cell_new (w := w) (t := 75) zero306
  have zf : ∀ k, (w.alloc (.cells (zeroCells Yba.prog) 75)).frozen? ⟨w.heap.size, k, none⟩ = false := fun k => frozen_new
  have hB : Below w.heap.size w (w.alloc (.cells (zeroCells Yba.prog) 75)) := (Below.refl _ w).alloc (Nat.le_refl _) _
  have hN : (w.alloc (.cells (zeroCells Yba.prog) 75)).heap.size = w.heap.size + 1 := by simp
  generalize hW : w.alloc (.cells (zeroCells Yba.prog) 75) = W at *
  have HW : Hid (w.alloc (.cells (zeroCells Yba.prog) 75) = W) := hW
  clear hW
  go_enter Yba.func6, Yba.ntmps6
  go_wp2_with (refine wpList_zero rfl rfl ?_)
  rw [show w.alloc (.cells (zeroCells Yba.prog) 75) = W from HW]
  refine (store12 _ _ _ cap W z254 (zf _)).mono ?_
  rintro e w' ⟨rfl, rfl⟩
  go_wp2_with fail
  refine (store12 _ _ _ run _ (set_ne z255 (by decide)) (set_fr (zf _))).mono ?_
  rintro e w' ⟨rfl, rfl⟩
  go_wp2_with fail
  refine (store13 _ _ _ inn _ (set_ne (set_ne z58 (by decide)) (by decide)) (set_fr (set_fr (zf _)))).mono ?_
  rintro e w' ⟨rfl, rfl⟩
  go_wp2_with fail
  refine (store13 _ _ _ hd _ (set_ne (set_ne (set_ne z0 (by decide)) (by decide)) (by decide)) (set_fr (set_fr (set_fr (zf _))))).mono ?_
  rintro e w' ⟨rfl, rfl⟩
  go_wp2_with fail
  refine (store13 _ _ _ hn _ (set_ne (set_ne (set_ne (set_ne z167 (by decide)) (by decide)) (by decide)) (by decide)) (set_fr (set_fr (set_fr (set_fr (zf _)))))).mono ?_
  rintro e w' ⟨rfl, rfl⟩
  go_wp2
  go_ret
  refine ⟨rfl, ?_, ?_⟩
  · exact ((((hB.setCell (Nat.le_refl _) _).setCell (Nat.le_refl _) _).setCell (Nat.le_refl _) _).setCell (Nat.le_refl _) _).setCell (Nat.le_refl _) _
  · exact ⟨set_ne (set_ne (set_ne (set_ne (set_eq z254) (by decide)) (by decide)) (by decide)) (by decide),
      set_ne (set_ne (set_ne (set_eq (set_ne z255 (by decide))) (by decide)) (by decide)) (by decide),
      set_ne (set_ne (set_eq (set_ne (set_ne z58 (by decide)) (by decide))) (by decide)) (by decide),
      set_ne (set_eq (set_ne (set_ne (set_ne z0 (by decide)) (by decide)) (by decide))) (by decide),
      set_eq (set_ne (set_ne (set_ne (set_ne z167 (by decide)) (by decide)) (by decide)) (by decide)),
      set_ne (set_ne (set_ne (set_ne (set_ne z166 (by decide)) (by decide)) (by decide)) (by decide)) (by decide),
      set_ne (set_ne (set_ne (set_ne (set_ne z306 (by decide)) (by decide)) (by decide)) (by decide)) (by decide),
      set_fr (set_fr (set_fr (set_fr (set_fr (zf _)))))⟩
end Go.Proofs.Ybulkqzm
