import Derived.Test.YbulkqzmBase
import Derived.Deep.QuietTactic
import Derived.BigQuiet
namespace Go.Proofs.Ybulkqzm
open Go.RowKit
open Go.MuLone

theorem hidden {p : Prop} (h : p) : Hid p := h
theorem load8 (b o : Nat) (n : Int) (w : World) (h : w.cell? ⟨b, o, none⟩ = some (.int .i64 n)) :
    Calls Yba.prog 8 #[.pointer (some ⟨b, o, none⟩)] w fun e w' => e = .returned (.int .i64 n) ∧ w' = w := by
  have hl := run_call_load (P := Yba.prog) Yba.func16 (by kernel_rfl) (by kernel_rfl) (by kernel_rfl) .i64 (by kernel_rfl) h
  go_enter Yba.func8, Yba.ntmps8
  go_wp2
  go_ret
  exact ⟨rfl, rfl⟩

theorem load34 (b o : Nat) (n : Int) (w : World) (h : w.cell? ⟨b, o, none⟩ = some (.int .u64 n)) :
    Calls Yba.prog 34 #[.pointer (some ⟨b, o, none⟩)] w fun e w' => e = .returned (.int .u64 n) ∧ w' = w := by
  have hl := run_call_load (P := Yba.prog) Yba.func42 (by kernel_rfl) (by kernel_rfl) (by kernel_rfl) .u64 (by kernel_rfl) h
  go_enter Yba.func34, Yba.ntmps34
  go_wp2
  go_ret
  exact ⟨rfl, rfl⟩

theorem store12 (b o : Nat) (u : Value) (n : Int) (w : World) (h : w.cell? ⟨b, o, none⟩ = some u) (hf : w.frozen? ⟨b, o, none⟩ = false) :
    Calls Yba.prog 12 #[.pointer (some ⟨b, o, none⟩), .int .i64 n] w fun e w' => e = .returned (.tuple #[]) ∧ w' = w.setCell ⟨b, o, none⟩ (.int .i64 n) := by
  have hs := run_call_store (P := Yba.prog) (k := .i64) (y := n) Yba.func19 (by kernel_rfl) (by kernel_rfl) (by kernel_rfl) (by kernel_rfl) h hf
  go_enter Yba.func12, Yba.ntmps12
  go_wp2
  go_end0
  exact ⟨rfl, rfl⟩

theorem store13 (b o : Nat) (u : Value) (n : Int) (w : World) (h : w.cell? ⟨b, o, none⟩ = some u) (hf : w.frozen? ⟨b, o, none⟩ = false) :
    Calls Yba.prog 13 #[.pointer (some ⟨b, o, none⟩), .int .u64 n] w fun e w' => e = .returned (.tuple #[]) ∧ w' = w.setCell ⟨b, o, none⟩ (.int .u64 n) := by
  have hs := run_call_store (P := Yba.prog) (k := .u64) (y := n) Yba.func20 (by kernel_rfl) (by kernel_rfl) (by kernel_rfl) (by kernel_rfl) h hf
  go_enter Yba.func13, Yba.ntmps13
  go_wp2
  go_end0
  exact ⟨rfl, rfl⟩

theorem popped33 (b : Nat) (n : Int) (w : World) (h : w.cell? ⟨b, 0, none⟩ = some (.int .u64 n)) :
    Calls Yba.prog 33 #[.pointer (some ⟨b, 0, none⟩)] w fun e w' => e = .returned (.int .u64 n) ∧ w' = w := by
  go_enter Yba.func33, Yba.ntmps33
  go_wp2_with (go_at_call 34; refine (load34 _ _ n _ h).mono ?_; rintro e w' ⟨rfl, rfl⟩)
  go_ret
  exact ⟨rfl, rfl⟩

theorem cap9 (b : Nat) (n : Int) (w : World) (h : w.cell? ⟨b, 254, none⟩ = some (.int .i64 n)) :
    Calls Yba.prog 9 #[.pointer (some ⟨b, 0, none⟩)] w fun e w' => e = .returned (.int .i64 n) ∧ w' = w := by
  go_enter Yba.func9, Yba.ntmps9
  go_wp2_with (go_at_call 8; refine (load8 _ _ n _ h).mono ?_; rintro e w' ⟨rfl, rfl⟩)
  go_ret
  exact ⟨rfl, rfl⟩

/-- in &^ closedBit, as the model reckons it. -/
def admF (n : Int) : Int := bits BinOp.andNot IntKind.u64 n 9223372036854775808

theorem admitted24 (b : Nat) (n : Int) (w : World) (h : w.cell? ⟨b, 58, none⟩ = some (.int .u64 n)) :
    Calls Yba.prog 24 #[.pointer (some ⟨b, 0, none⟩)] w fun e w' => e = .returned (.int .u64 (admF n)) ∧ w' = w := by
  go_enter Yba.func24, Yba.ntmps24
  go_wp2_with (go_at_call 34; refine (load34 _ _ n _ h).mono ?_; rintro e w' ⟨rfl, rfl⟩)
  go_ret
  exact ⟨rfl, rfl⟩

theorem u64_wrap (x : Int) : IntKind.u64.wrap x = x % 18446744073709551616 := by
  simp [IntKind.wrap, IntKind.signed, IntKind.bits]
theorem u64_nonneg (x : Int) : 0 ≤ IntKind.u64.wrap x := by
  rw [u64_wrap]; exact Int.emod_nonneg _ (by decide)

def finF (hd hn : Int) : Int := IntKind.u64.wrap (IntKind.u64.wrap (hd + hn))

theorem finished23 (b : Nat) (hd hn : Int) (w : World) (h0 : w.cell? ⟨b, 0, none⟩ = some (.int .u64 hd)) (h1 : w.cell? ⟨b, 167, none⟩ = some (.int .u64 hn)) (h2 : w.cell? ⟨b, 166, none⟩ = some (.int .i64 0)) :
    Calls Yba.prog 23 #[.pointer (some ⟨b, 0, none⟩)] w fun e w' => e = .returned (.int .u64 (finF hd hn)) ∧ ∃ n, w' = w.drewN n := by
  have hnn := u64_nonneg (hd + hn)
  go_enter Yba.func23, Yba.ntmps23
  go_wp2
  go_quiet ((first | (go_at_call 33; exact Calls.quiet_of_same (popped33 _ _ _ h0)) | (go_at_call 34; exact Calls.quiet_of_same (load34 _ _ _ _ h1))))
  go_wp2_with (go_at_call 8; refine (load8 _ _ 0 _ (by simpa using h2)).mono ?_; rintro e w' ⟨rfl, rfl⟩)
  go_ret
  exact ⟨rfl, nq, rfl⟩

def inflF (inn hd hn : Int) : Int := wrap64 (IntKind.u64.wrap (admF inn - finF hd hn))

theorem inFlight17 (b : Nat) (inn hd hn : Int) (w : World) (h : w.cell? ⟨b, 58, none⟩ = some (.int .u64 inn)) (h0 : w.cell? ⟨b, 0, none⟩ = some (.int .u64 hd)) (h1 : w.cell? ⟨b, 167, none⟩ = some (.int .u64 hn)) (h2 : w.cell? ⟨b, 166, none⟩ = some (.int .i64 0)) :
    Calls Yba.prog 17 #[.pointer (some ⟨b, 0, none⟩)] w fun e w' => e = .returned (.int .i64 (inflF inn hd hn)) ∧ ∃ n, w' = w.drewN n := by
  go_enter Yba.func17, Yba.ntmps17
  go_wp2_with (first | (go_at_call 23; refine (finished23 b hd hn _ h0 h1 h2).mono ?_; rintro e w' ⟨rfl, nq, rfl⟩) | (go_at_call 24; refine (admitted24 b inn _ (by simpa using h)).mono ?_; rintro e w' ⟨rfl, rfl⟩))
  go_ret
  exact ⟨rfl, nq, rfl⟩

def runF (cap run inn hd hn : Int) : Int := max run (if 0 ≤ cap then min (inflF inn hd hn) cap else inflF inn hd hn)

theorem ret_int {k : IntKind} {a b : Int} (h : a = b) : Ending.returned (.int k a) = .returned (.int k b) := by rw [h]

set_option maxHeartbeats 800000 in
theorem running10 (b : Nat) (cap run inn hd hn : Int) (w : World) (hc : w.cell? ⟨b, 254, none⟩ = some (.int .i64 cap)) (hr : w.cell? ⟨b, 255, none⟩ = some (.int .i64 run))
    (h : w.cell? ⟨b, 58, none⟩ = some (.int .u64 inn)) (h0 : w.cell? ⟨b, 0, none⟩ = some (.int .u64 hd)) (h1 : w.cell? ⟨b, 167, none⟩ = some (.int .u64 hn)) (h2 : w.cell? ⟨b, 166, none⟩ = some (.int .i64 0)) :
    Calls Yba.prog 10 #[.pointer (some ⟨b, 0, none⟩)] w fun e w' => e = .returned (.int .i64 (runF cap run inn hd hn)) ∧ ∃ n, w' = w.drewN n := by
  by_cases hz : 0 ≤ cap
  all_goals
    go_enter Yba.func10, Yba.ntmps10
    go_wp2_with fail
    refine (inFlight17 b inn hd hn _ h h0 h1 h2).mono ?_
    rintro e w' ⟨rfl, nq, rfl⟩
    go_wp2_with fail
    refine (load8 _ _ cap _ (by simpa using hc)).mono ?_
    rintro e w' ⟨rfl, rfl⟩
    go_wp2_with fail
  all_goals
    refine (load8 _ _ run _ (by simpa using hr)).mono ?_
    rintro e w' ⟨rfl, rfl⟩
    go_wp2
  all_goals
    go_ret
    exact ⟨ret_int (by unfold runF; split <;> omega), nq, rfl⟩

theorem oth {w : World} {b o : Nat} {u v : Value} (h : w.cell? ⟨b, o, none⟩ = some v) (hne : o ≠ 306) : (w.setCell ⟨b, 306, none⟩ u).cell? ⟨b, o, none⟩ = some v := by
  rw [World.cell?_setCell_other _ _ _ _ (by intro e; injection e with _ e; exact hne e.symm)]; exact h

set_option maxHeartbeats 800000 in
theorem free7_neg (b : Nat) (cap : Int) (w : World) (hc : w.cell? ⟨b, 254, none⟩ = some (.int .i64 cap)) (hm : w.cell? ⟨b, 306, none⟩ = some (.int .i32 0)) (hf : w.frozen? ⟨b, 306, none⟩ = false) (hz : cap < 0) :
    Calls Yba.prog 7 #[.pointer (some ⟨b, 0, none⟩)] w fun e w' => e = .returned (.int .i64 (-1)) ∧ w' = w := by
  go_enter_defers Yba.func7, Yba.ntmps7
  go_wp2_with (first | (go_at_call 14; refine (lock_free Yba.muLib ⟨b, 306, none⟩ _ hm hf).mono ?_; rintro e w' ⟨rfl, rfl⟩) | (go_at_call 8; refine (load8 _ _ cap _ (oth hc (by decide))).mono ?_; rintro e w' ⟨rfl, rfl⟩))
  refine leaves_cons (f := 15) (args := #[.pointer (some ⟨b, 306, none⟩)]) (by simp) (by simp [go_sem]) ?_
  refine (unlock_deferred Yba.muLib ⟨b, 306, none⟩ .returning _ ?_ ?_).mono ?_
  · exact World.cell?_setCell_same w ⟨b, 306, none⟩ (.int .i32 1) hm
  · simp [hf]
  rintro e u' w'' ⟨rfl, rfl, rfl⟩
  exact ⟨_, results_tmp rfl _ _ _, rfl, setCell_back hm⟩

set_option maxHeartbeats 800000 in
theorem free7_pos (b : Nat) (cap run inn hd hn : Int) (w : World) (hc : w.cell? ⟨b, 254, none⟩ = some (.int .i64 cap)) (hr : w.cell? ⟨b, 255, none⟩ = some (.int .i64 run))
    (h : w.cell? ⟨b, 58, none⟩ = some (.int .u64 inn)) (h0 : w.cell? ⟨b, 0, none⟩ = some (.int .u64 hd)) (h1 : w.cell? ⟨b, 167, none⟩ = some (.int .u64 hn)) (h2 : w.cell? ⟨b, 166, none⟩ = some (.int .i64 0))
    (hm : w.cell? ⟨b, 306, none⟩ = some (.int .i32 0)) (hf : w.frozen? ⟨b, 306, none⟩ = false) (hz : 0 ≤ cap) :
    Calls Yba.prog 7 #[.pointer (some ⟨b, 0, none⟩)] w fun e w' => e = .returned (.int .i64 (wrap64 (cap - runF cap run inn hd hn))) ∧ ∃ n, w' = w.drewN n := by
  go_enter_defers Yba.func7, Yba.ntmps7
  go_wp2_with (first | (go_at_call 14; refine (lock_free Yba.muLib ⟨b, 306, none⟩ _ hm hf).mono ?_; rintro e w' ⟨rfl, rfl⟩) | (go_at_call 8; refine (load8 _ _ cap _ (oth hc (by decide))).mono ?_; rintro e w' ⟨rfl, rfl⟩) | (go_at_call 10; refine (running10 b cap run inn hd hn _ (oth hc (by decide)) (oth hr (by decide)) (oth h (by decide)) (oth h0 (by decide)) (oth h1 (by decide)) (oth h2 (by decide))).mono ?_; rintro e w' ⟨rfl, nq, rfl⟩))
  refine leaves_cons (f := 15) (args := #[.pointer (some ⟨b, 306, none⟩)]) (by simp) (by simp [go_sem]) ?_
  refine (unlock_deferred Yba.muLib ⟨b, 306, none⟩ .returning _ ?_ ?_).mono ?_
  · exact World.cell?_setCell_same w ⟨b, 306, none⟩ (.int .i32 1) hm
  · simp [hf]
  rintro e u' w'' ⟨rfl, rfl, rfl⟩
  refine ⟨_, results_tmp rfl _ _ _, rfl, nq, ?_⟩
  show ((w.setCell ⟨b, 306, none⟩ (.int .i32 1)).setCell ⟨b, 306, none⟩ (.int .i32 0)).drewN nq = w.drewN nq
  rw [setCell_back hm]
end Go.Proofs.Ybulkqzm
