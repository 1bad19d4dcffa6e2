import Derived.Test.YbulkqzmLocks
import Derived.Conc.MuLone
import Derived.WalkKit
import Derived.Laws.LoneSync
namespace Go.Proofs.Ybulkqzm
open Go.RowKit (wrap32 wrap64)
open Go.MuLone

theorem setCell_back {w : World} {a : Addr} {v u : Value} (h : w.cell? a = some v) : (w.setCell a u).setCell a v = w := by
  have hs : a.spot = none := by
    unfold World.cell? at h
    split at h
    · split at h
      · cases h
      · rename_i hn; simpa using hn
    · cases h
  obtain ⟨b, o, s⟩ := a
  subst hs
  unfold World.cell? at h
  split at h
  · rename_i c e f hb
    simp at h
    unfold World.setCell
    cases w with
    | mk heap tape drawn os output =>
      simp only
      congr 1
      apply Array.ext
      · simp
      · intro i h1 h2
        simp only [Array.getElem_modify]
        by_cases hi : b = i
        · subst hi
          have hv : heap[b] = .cells c e f := (Array.getElem?_eq_some_iff.1 hb).2
          simp only [hv, if_true]
          simp
          apply Array.ext_getElem?
          intro j
          rw [Array.getElem?_setIfInBounds]
          by_cases hj : o = j
          · subst hj
            have hlt : o < c.size := (Array.getElem?_eq_some_iff.1 h).1
            simp [hlt, (Array.getElem?_eq_some_iff.1 h).2]
          · simp [hj]
        · simp [hi]
  · cases h

set_option maxHeartbeats 800000 in
/-- IsClosed of one core, the lock free. -/
theorem core_closed (b : Nat) (c : Bool) (w : World)
    (h0 : w.cell? ⟨b, 306, none⟩ = some (.int .i32 0)) (h1 : w.cell? ⟨b, 317, none⟩ = some (.bool c)) (f0 : w.frozen? ⟨b, 306, none⟩ = false) :
    Calls Yba.prog 18 #[.pointer (some ⟨b, 0, none⟩)] w fun e w' => e = .returned (.bool c) ∧ w' = w := by
  go_enter_defers Yba.func18, Yba.ntmps18
  go_wp2_with (go_at_call 14; refine (lock_free Yba.muLib ⟨b, 306, none⟩ _ h0 f0).mono ?_; rintro e w' ⟨rfl, rfl⟩)
  refine leaves_cons (f := 15) (args := #[.pointer (some ⟨b, 306, none⟩)]) (by simp) (by simp [go_sem]) ?_
  refine (unlock_deferred Yba.muLib ⟨b, 306, none⟩ .returning _ ?_ ?_).mono ?_
  · exact World.cell?_setCell_same w ⟨b, 306, none⟩ (.int .i32 1) h0
  · simp [f0]
  rintro e u' w'' ⟨rfl, rfl, rfl⟩
  exact ⟨_, results_tmp rfl _ _ _, rfl, setCell_back h0⟩
end Go.Proofs.Ybulkqzm
