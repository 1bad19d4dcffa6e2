import Derived.Test.YbulkrbcBase
namespace Go.Proofs.Ybulkrbc
open Go.RowKit

set_option maxHeartbeats 1600000 in
set_option maxRecDepth 100000 in
theorem listed6 (a : Option Addr) (b off n cap : Nat) (S D : Nat → ByteArray) (w : World) (ha : 0 < n → a = some ⟨b, off, none⟩) (hn : n ≤ 4096) (hP : Pairs w b off n S D) :
    Calls Yba.prog 6 #[.slice a n cap] w fun e w' => ∃ g, e = .returned (.slice (some ⟨g, 0, none⟩) n n) ∧ Pairs w' g 0 n S D ∧ w.heap.size ≤ g ∧ Below w.heap.size w w' := by
  have Ha := hide ha
  have HP := hide hP
  clear ha hP
  obtain ⟨i0, hi, hz0, hz1, hz2⟩ := info_parts Yba.info28
  go_enter Yba.func6, Yba.ntmps6
  go_wp2_with (at_make; refine wpList_make_own _ rfl _ _ 25 rfl w.heap.size 28 i0 _ 2 Yba.underlying25 hi hz0 hz1 .i64 .i64 _ n rfl rfl rfl (by rw [hz2]; omega) (by unfold maxLen; omega) (Nat.le_refl _) ?_; intro w1 own1 gr1; have HO := hide own1; have HB := hide ((Below.refl w.heap.size w).grown gr1 (Nat.le_refl _) (by intro g h; cases h)); clear own1 gr1)
  go_loopw [3, 11] (fun v i wr => ∃ k : Nat, k ≤ n ∧ i = .int .i64 k ∧ v = .slice (some ⟨w.heap.size, 0, none⟩) k n ∧ Hid (wr.ownsRow w.heap.size 28 2 v k (flat S D k)) ∧ Hid (Below w.heap.size w wr)) (fun _ i _ => n - (intOf i).toNat)
  case atStart => exact ⟨0, Nat.zero_le _, rfl, rfl, HO, HB⟩
  case round =>
    obtain ⟨k, hk, rfl, rfl, hO, hB⟩ := hrel
    by_cases hlt : k < n
    · have ha := (unhide Ha) (by omega)
      subst ha
      obtain ⟨c0, c1⟩ := (unhide HP) k hlt
      have hb : b < w.heap.size := block_lt c0
      have d0 : wr.cell? ⟨b, off + k * 2, none⟩ = some (.string (S k)) := by rw [(unhide hB).cell hb]; exact c0
      have d1 : wr.cell? ⟨b, off + k * 2 + 1, none⟩ = some (.string (D k)) := by rw [(unhide hB).cell hb]; exact c1
      clear c0 c1
      have hC := hide (two_later (w := wr) (o := .cells #[.string (S k), .string (D k)] 32) (s := S k) (d := D k) (t := 28))
      have hO1 := hide (((unhide hO).alloc (.cells #[.string (S k), .string (D k)] 32)).alloc (.cells #[.string (S k), .string (D k)] 28))
      have hB1 := hide (((unhide hB).alloc (unhide hB).size (.cells #[.string (S k), .string (D k)] 32)).alloc (by have := (unhide hB).size; simp; omega) (.cells #[.string (S k), .string (D k)] 28))
      go_wp2_with (at_builtin; refine wpList_append_fits _ rfl (.tmp 15) (.tmp 17) 25 rfl w.heap.size 28 i0 2 Yba.underlying25 hi hz1 w.heap.size k n (flat S D k) rfl (unhide hO1) ⟨wr.heap.size + 1, 0, none⟩ 1 1 [.string (S k), .string (D k)] rfl rfl (unhide hC) two_one (by omega) ?_; intro w2 own2 gr2; have hO2 := hide own2; have hB2 := hide ((unhide hB1).grown gr2 (unhide hB1).size (by intro g h; cases h; exact Nat.le_refl _)); clear own2 gr2)
      go_roundw
      case rel => exact ⟨k + 1, by omega, by go_num, rfl, hO2, hB2⟩
      case measure => simp [intOf]; omega
    · have hkn : k = n := by omega
      subst hkn
      go_wp2
      go_ret
      exact ⟨_, rfl, Pairs.of_own (unhide hO), Nat.le_refl _, unhide hB⟩
end Go.Proofs.Ybulkrbc
