import Derived.Test.YbulkrbcBase
namespace Go.Proofs.Ybulkrbc
open Go.RowKit

theorem build5_nil (n cap : Nat) (w : World) : Calls Yba.prog 5 #[.slice none n cap] w fun e w' => e = .returned (.slice none 0 0) ∧ w' = w := by
  have hnil := nil22
  go_enter Yba.func5, Yba.ntmps5
  go_wp2
  go_ret
  exact ⟨rfl, rfl⟩

set_option maxHeartbeats 1600000 in
set_option maxRecDepth 100000 in
theorem build5 (x : Addr) (b off n cap : Nat) (S D : Nat → ByteArray) (w : World) (ha : 0 < n → x = ⟨b, off, none⟩) (hn : n ≤ 4096) (hP : Pairs w b off n S D) :
    Calls Yba.prog 5 #[.slice (some x) n cap] w fun e w' => ∃ g, e = .returned (.slice (some ⟨g, 0, none⟩) n n) ∧ Pairs w' g 0 n S D ∧ w.heap.size ≤ g ∧ Below w.heap.size w w' := by
  have Ha := hide ha
  have HP := hide hP
  clear ha hP
  obtain ⟨i0, hi, hz0, hz1, hz2⟩ := info_parts Yba.info32
  have hnil := nil22
  go_enter Yba.func5, Yba.ntmps5
  go_wp2_with (at_make; refine wpList_make_own _ rfl _ _ 23 rfl w.heap.size 32 i0 _ 2 Yba.underlying23 hi hz0 hz1 .i64 .i64 _ n rfl rfl rfl (by rw [hz2]; omega) (by unfold maxLen; omega) (Nat.le_refl _) ?_; intro w1 own1 gr1; have HO := hide own1; have HB := hide ((Below.refl w.heap.size w).grown gr1 (Nat.le_refl _) (by intro g h; cases h)); clear own1 gr1)
  go_loopw [3, 4] (fun v i wr => ∃ k : Nat, k ≤ n ∧ i = .int .i64 k ∧ v = .slice (some ⟨w.heap.size, 0, none⟩) k n ∧ Hid (wr.ownsRow w.heap.size 32 2 v k (flat S D k)) ∧ Hid (Below w.heap.size w wr)) (fun _ i _ => n - (intOf i).toNat)
  case atStart => exact ⟨0, Nat.zero_le _, rfl, rfl, HO, HB⟩
  case round =>
    obtain ⟨k, hk, rfl, rfl, hO, hB⟩ := hrel
    by_cases hlt : k < n
    · have ha := (unhide Ha) (by omega)
      subst ha
      obtain ⟨c0, c1⟩ := (unhide HP) k hlt
      have hb : b < w.heap.size := block_lt c0
      have d0 : wr.cell? ⟨b, off + k * 2, none⟩ = some (.string (S k)) := by rw [(unhide hB).cell hb]; exact c0
      have d1 : wr.cell? ⟨b, off + k * 2 + 1, none⟩ = some (.string (D k)) := by rw [(unhide hB).cell hb]; exact c1
      clear c0 c1
      have hlti : (k : Int) < (n : Int) := by omega
      have hC := hide (two_new (w := wr.drew) (s := S k) (d := D k) (t := 32))
      have hO1 := hide ((unhide hO).drew.alloc (.cells #[.string (S k), .string (D k)] 32))
      have hB1 := hide ((unhide hB).drew.alloc (unhide hB).size (.cells #[.string (S k), .string (D k)] 32))
      go_wp2_with fail
      go_region_law (refine step_append_fits rfl (.tmp 16) (.tmp 28) 23 rfl w.heap.size 32 i0 2 Yba.underlying23 hi hz1 w.heap.size k n (flat S D k) (by simp [Act.eval]) (unhide hO1) ⟨wr.heap.size, 0, none⟩ 1 1 [.string (S k), .string (D k)] (by simp [Act.eval]) rfl (unhide hC) two_one (by omega) ?_; intro w2 own2 gr2; have hO2 := hide own2; have hB2 := hide ((unhide hB1).grown gr2 (unhide hB1).size (by intro g h; cases h; exact Nat.le_refl _)); clear own2 gr2)
      all_goals
        go_wp2
        go_roundw
        case rel => exact ⟨k + 1, by omega, by go_num, rfl, hO2, hB2⟩
        case measure => simp [intOf]; omega
    · have hkn : k = n := by omega
      subst hkn
      go_wp2
      go_ret
      exact ⟨_, rfl, Pairs.of_own (unhide hO), Nat.le_refl _, unhide hB⟩

theorem build_any (a : Option Addr) (b off n cap : Nat) (S D : Nat → ByteArray) (w : World) (ha : 0 < n → a = some ⟨b, off, none⟩) (hz : a = none → n = 0) (hn : n ≤ 4096) (hP : Pairs w b off n S D) :
    Calls Yba.prog 5 #[.slice a n cap] w fun e w' => ∃ a2 b2 off2 c2, e = .returned (.slice a2 n c2) ∧ (0 < n → a2 = some ⟨b2, off2, none⟩) ∧ Pairs w' b2 off2 n S D ∧ Below w.heap.size w w' := by
  cases a with
  | none =>
    obtain rfl := hz rfl
    refine (build5_nil 0 cap w).mono ?_
    rintro e w' ⟨rfl, rfl⟩
    exact ⟨_, 0, 0, _, rfl, fun h => absurd h (by decide), fun i h => absurd h (Nat.not_lt_zero _), Below.refl _ _⟩
  | some x =>
    refine (build5 x b off n cap S D w (fun h => Option.some.inj (ha h)) hn hP).mono ?_
    rintro e w' ⟨g, rfl, h1, _, h2⟩
    exact ⟨_, g, 0, _, rfl, fun _ => rfl, h1, h2⟩
end Go.Proofs.Ybulkrbc
