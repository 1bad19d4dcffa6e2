import Derived.Test.YbulkqzmBuild
import Derived.WalkSmall
import Derived.Laws.BitsAllLaws
namespace Go.Proofs.Ybulkqzm
open Go.RowKit

/-! ### The plain law -/
theorem adm_small (n : Int) (h0 : 0 ≤ n) (h1 : n ≤ 65535) : admF n = n := by
  unfold admF
  rw [u64_andNot n 9223372036854775808 h0 (by omega) (by decide) (by decide)]
  have e : (18446744073709551615 - Int.toNat 9223372036854775808) = 2 ^ 63 - 1 := by decide
  rw [e, Nat.and_two_pow_sub_one_eq_mod, Nat.mod_eq_of_lt (by omega)]
  omega
theorem fin_small (a b : Int) (h0 : 0 ≤ a) (h1 : a ≤ 65535) (h2 : 0 ≤ b) (h3 : b ≤ 65535) : finF a b = a + b := by
  unfold finF
  rw [u64_wrap, u64_wrap]
  omega
theorem wrap64_small (x : Int) (h0 : -9223372036854775808 ≤ x) (h1 : x ≤ 9223372036854775807) : wrap64 x = x := by
  unfold wrap64
  omega
theorem infl_small (n a b : Int) (g0 : 0 ≤ n) (g1 : n ≤ 65535) (h0 : 0 ≤ a) (h1 : a ≤ 65535) (h2 : 0 ≤ b) (h3 : b ≤ 65535) : inflF n a b = n - a - b := by
  unfold inflF
  rw [adm_small n g0 g1, fin_small a b h0 h1 h2 h3, u64_wrap]
  unfold wrap64
  omega
theorem free_small (c r n a b : Int) (c0 : 0 ≤ c) (c1 : c ≤ 65535) (r0 : 0 ≤ r) (r1 : r ≤ 65535) (g0 : 0 ≤ n) (g1 : n ≤ 65535) (h0 : 0 ≤ a) (h1 : a ≤ 65535) (h2 : 0 ≤ b) (h3 : b ≤ 65535) :
    wrap64 (c - runF c r n a b) = c - max r (min (n - a - b) c) := by
  unfold runF
  rw [if_pos c0, infl_small n a b g0 g1 h0 h1 h2 h3]
  apply wrap64_small <;> omega

theorem size_alloc (w : World) (o : Obj) : (w.alloc o).heap.size = w.heap.size + 1 := by simp

theorem ret_bool' {a b : Bool} (h : a = b) : Ending.returned (.bool a) = .returned (.bool b) := by rw [h]

set_option maxHeartbeats 1600000 in
theorem exact3_nocap (c r n a b : Int) (w : World) (c0 : 0 ≤ c) (c1 : c ≤ 65535) (r0 : 0 ≤ r) (r1 : r ≤ 65535) (g0 : 0 ≤ n) (g1 : n ≤ 65535) (h0 : 0 ≤ a) (h1 : a ≤ 65535) (h2 : 0 ≤ b) (h3 : b ≤ 65535) :
    Calls Yba.prog 3 #[.agg #[.int .u16 c, .bool true, .int .u16 r, .int .u16 n, .int .u16 a, .int .u16 b]] w fun e w' => e = .returned (.bool true) ∧ Below w.heap.size w w' := by
  have hW := hidden ((Below.refl _ w).alloc (Nat.le_refl _) (.cells #[.int .u16 c, .bool true, .int .u16 r, .int .u16 n, .int .u16 a, .int .u16 b] 24))
  go_enter Yba.func3, Yba.ntmps3
  go_wp2_with fail
  refine (build6 (-1 - c) r n a b _).mono ?_
  rintro e w1 ⟨he, hB, hC⟩
  rw [size_alloc] at he hB hC
  subst he
  have HB := hidden (hW.out.trans (hB.mono (by omega)))
  have HC := hidden hC
  clear hB hC
  go_wp2_with fail
  refine (free7_neg _ (-1 - c) w1 HC.out.c254 HC.out.c306 HC.out.f306 (by omega)).mono ?_
  rintro e w' ⟨rfl, rfl⟩
  go_wp2
  go_ret
  exact ⟨rfl, HB.out⟩

set_option maxHeartbeats 1600000 in
theorem exact3_cap (c r n a b : Int) (w : World) (c0 : 0 ≤ c) (c1 : c ≤ 65535) (r0 : 0 ≤ r) (r1 : r ≤ 65535) (g0 : 0 ≤ n) (g1 : n ≤ 65535) (h0 : 0 ≤ a) (h1 : a ≤ 65535) (h2 : 0 ≤ b) (h3 : b ≤ 65535) :
    Calls Yba.prog 3 #[.agg #[.int .u16 c, .bool false, .int .u16 r, .int .u16 n, .int .u16 a, .int .u16 b]] w fun e w' => e = .returned (.bool true) ∧ Below w.heap.size w w' := by
  have hW := hidden ((Below.refl _ w).alloc (Nat.le_refl _) (.cells #[.int .u16 c, .bool false, .int .u16 r, .int .u16 n, .int .u16 a, .int .u16 b] 24))
  have hF := hidden (free_small c r n a b c0 c1 r0 r1 g0 g1 h0 h1 h2 h3)
  go_enter Yba.func3, Yba.ntmps3
  go_wp2_with fail
  refine (build6 c r n a b _).mono ?_
  rintro e w1 ⟨he, hB, hC⟩
  rw [size_alloc] at he hB hC
  subst he
  have HB := hidden (hW.out.trans (hB.mono (by omega)))
  have HC := hidden hC
  have k2 : w1.cell? ⟨w.heap.size, 2, none⟩ = some (.int .u16 r) := by rw [hB.cell (by simp)]; simp
  have k3 : w1.cell? ⟨w.heap.size, 3, none⟩ = some (.int .u16 n) := by rw [hB.cell (by simp)]; simp
  have k4 : w1.cell? ⟨w.heap.size, 4, none⟩ = some (.int .u16 a) := by rw [hB.cell (by simp)]; simp
  have k5 : w1.cell? ⟨w.heap.size, 5, none⟩ = some (.int .u16 b) := by rw [hB.cell (by simp)]; simp
  clear hB hC
  go_wp2_with fail
  refine (free7_pos _ c r n a b w1 HC.out.c254 HC.out.c255 HC.out.c58 HC.out.c0 HC.out.c167 HC.out.c166 HC.out.c306 HC.out.f306 c0).mono ?_
  rintro e w' ⟨rfl, n1, rfl⟩
  have hG := hF.out
  generalize wrap64 (c - runF c r n a b) = g at hG ⊢
  have HG := hidden hG
  clear hG hF
  go_wp2
  all_goals
    go_ret
    refine ⟨ret_bool' ?_, below_drewN HB.out _⟩
    rw [beq_iff_eq, HG.out]
    omega
end Go.Proofs.Ybulkqzm
