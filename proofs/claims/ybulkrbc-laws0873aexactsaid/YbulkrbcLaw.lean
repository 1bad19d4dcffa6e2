import Derived.Test.YbulkrbcListed
import Derived.Test.YbulkrbcBuild
import Derived.Deep.QuietTactic
import Derived.BigQuiet
namespace Go.Proofs.Ybulkrbc
open Go.RowKit

theorem big3 (a : Option Addr) (n cap : Nat) (w : World) (hn : 4096 < n) (hm : n ≤ maxLen) :
    Calls Yba.prog 3 #[.slice a n cap] w fun e w' => e = .returned (.bool true) ∧ Below w.heap.size w w' := by
  unfold maxLen at hm
  go_enter Yba.func3, Yba.ntmps3
  go_wp2
  go_ret
  exact ⟨rfl, Below.refl _ _⟩

set_option maxHeartbeats 1600000 in
set_option maxRecDepth 100000 in
theorem law3 (a : Option Addr) (b off n cap : Nat) (S D : Nat → ByteArray) (w : World) (ha : 0 < n → a = some ⟨b, off, none⟩) (hz : a = none → n = 0) (hn : n ≤ 4096) (hP : Pairs w b off n S D) :
    Calls Yba.prog 3 #[.slice a n cap] w fun e w' => e = .returned (.bool true) ∧ Below w.heap.size w w' := by
  have Ha := hide ha
  have HP := hide hP
  have HZ := hide hz
  have hnil := nil25
  clear ha hP hz
  go_enter Yba.func3, Yba.ntmps3
  go_wp2_with (first | (go_at_call 5; refine (build_any a b off n cap S D w (unhide Ha) (unhide HZ) hn (unhide HP)).mono ?_; rintro e w1 ⟨a2, b2, off2, c2, rfl, h1, h2, h3⟩; have H1 := hide h1; have H2 := hide h2; have H3 := hide h3; clear h1 h2 h3) | (go_at_call 6; refine (listed6 _ _ _ n _ S D _ (unhide (by assumption)) hn (unhide (by assumption))).mono ?_; rintro e w2 ⟨g, rfl, k1, k2, k3⟩; have K1 := hide k1; have K2 := hide k2; have K3 := hide k3; clear k1 k2 k3))
  obtain ⟨h3⟩ : Nonempty (Hid (Below w.heap.size w w1)) := ⟨by assumption⟩
  obtain ⟨k3⟩ : Nonempty (Hid (Below w1.heap.size w1 w2)) := ⟨by assumption⟩
  obtain ⟨k1⟩ : Nonempty (Hid (Pairs w2 g 0 n S D)) := ⟨by assumption⟩
  have HB := hide ((unhide h3).trans ((unhide k3).mono (unhide h3).size))
  go_loopw [5] (fun i wr => ∃ k m : Nat, k ≤ n ∧ i = .int .i64 k ∧ wr = w2.drewN m) (fun i _ => n - (intOf i).toNat)
  case atStart => exact ⟨0, 0, Nat.zero_le _, rfl, rfl⟩
  case round =>
    obtain ⟨k, m, hk, rfl, rfl⟩ := hrel
    by_cases hlt : k < n
    · have ha := (unhide Ha) (by omega)
      subst ha
      obtain ⟨c0, c1⟩ := (unhide HP) k hlt
      have hb : b < w.heap.size := block_lt c0
      have d0 : w2.cell? ⟨b, off + k * 2, none⟩ = some (.string (S k)) := ((unhide HB).cell hb).trans c0
      have d1 : w2.cell? ⟨b, off + k * 2 + 1, none⟩ = some (.string (D k)) := ((unhide HB).cell hb).trans c1
      obtain ⟨g0, g1⟩ := (unhide k1) k hlt
      simp only [Nat.zero_add] at g0 g1
      have e0 : w2.cell? ⟨g, k * 2, none⟩ = some (.string (S k)) := g0
      have e1 : w2.cell? ⟨g, k * 2 + 1, none⟩ = some (.string (D k)) := g1
      clear c0 c1 g0 g1
      have hlti : (k : Int) < (n : Int) := by omega
      go_wp2_with fail
      go_quiet (fail)
      go_wp2
      go_roundw
      case rel => exact ⟨k + 1, _, by omega, by go_num, rfl⟩
      case measure => simp [intOf]; omega
    · have hkn : k = n := by omega
      subst hkn
      go_wp2
      go_ret
      exact ⟨rfl, below_drewN (unhide HB) _⟩
end Go.Proofs.Ybulkrbc
