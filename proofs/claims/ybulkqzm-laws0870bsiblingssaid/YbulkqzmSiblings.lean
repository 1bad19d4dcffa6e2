import Derived.Test.YbulkqzmBuild
import Derived.WalkSmall
namespace Go.Proofs.Ybulkqzm
open Go.RowKit

set_option maxHeartbeats 1600000 in
theorem siblings4 (cap run inn hd hn : Int) (w : World) :
    Calls Yba.prog 4 #[.int .i64 cap, .int .i64 run, .int .u64 inn, .int .u64 hd, .int .u64 hn] w fun e w' => e = .returned (.bool true) ∧ Below w.heap.size w w' := by
  by_cases hz : 0 ≤ cap
  · go_enter Yba.func4, Yba.ntmps4
    go_wp2_with fail
    refine (build6 cap run inn hd hn w).mono ?_
    rintro e w1 ⟨rfl, hB, hC⟩
    have HB := hidden hB
    have HC := hidden hC
    clear hB hC
    go_wp2_with fail
    refine (free7_pos _ cap run inn hd hn w1 HC.out.c254 HC.out.c255 HC.out.c58 HC.out.c0 HC.out.c167 HC.out.c166 HC.out.c306 HC.out.f306 hz).mono ?_
    rintro e w' ⟨rfl, n1, rfl⟩
    have HC := hidden (HC.out.drewN n1)
    go_wp2_with fail
    refine (load8 _ _ cap _ HC.out.c254).mono ?_
    rintro e w' ⟨rfl, rfl⟩
    go_wp2_with fail
    refine (load8 _ _ run _ HC.out.c255).mono ?_
    rintro e w' ⟨rfl, rfl⟩
    go_wp2_with fail
    refine (cap9 _ cap _ HC.out.c254).mono ?_
    rintro e w' ⟨rfl, rfl⟩
    go_wp2_with fail
    refine (cap9 _ cap _ HC.out.c254).mono ?_
    rintro e w' ⟨rfl, rfl⟩
    go_wp2_with fail
    refine (running10 _ cap run inn hd hn _ HC.out.c254 HC.out.c255 HC.out.c58 HC.out.c0 HC.out.c167 HC.out.c166).mono ?_
    rintro e w' ⟨rfl, n2, rfl⟩
    go_wp2
    go_ret
    exact ⟨rfl, below_drewN HB.out _⟩
  · go_enter Yba.func4, Yba.ntmps4
    go_wp2_with fail
    refine (build6 cap run inn hd hn w).mono ?_
    rintro e w1 ⟨rfl, hB, hC⟩
    have HB := hidden hB
    have HC := hidden hC
    clear hB hC
    go_wp2_with fail
    refine (free7_neg _ cap w1 HC.out.c254 HC.out.c306 HC.out.f306 (by omega)).mono ?_
    rintro e w' ⟨rfl, rfl⟩
    go_wp2_with fail
    refine (load8 _ _ cap _ HC.out.c254).mono ?_
    rintro e w' ⟨rfl, rfl⟩
    go_wp2_with fail
    refine (load8 _ _ run _ HC.out.c255).mono ?_
    rintro e w' ⟨rfl, rfl⟩
    go_wp2_with fail
    refine (cap9 _ cap _ HC.out.c254).mono ?_
    rintro e w' ⟨rfl, rfl⟩
    go_wp2
    go_ret
    exact ⟨rfl, HB.out⟩
end Go.Proofs.Ybulkqzm
