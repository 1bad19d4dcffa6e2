import Derived.Test.YbulkqzmBase
import Derived.LoopTactic
namespace Go.Proofs.Ybulkqzm
open Go.RowKit

theorem hide {p : Prop} (h : p) : Hid p := h
theorem unhide {p : Prop} (h : Hid p) : p := h

theorem ret_bool {a b : Bool} (h : a = b) : Ending.returned (.bool a) = .returned (.bool b) := by rw [h]
theorem all_take_succ (cs : List Bool) (k : Nat) (hk : k < cs.length) (h : (cs.take k).all id = true) (hc : cs[k] = true) : (cs.take (k + 1)).all id = true := by
  rw [List.take_succ_eq_append_getElem hk, List.all_append, h, hc]; rfl
theorem all_of_false (cs : List Bool) (k : Nat) (hk : k < cs.length) (hc : cs[k] = false) : cs.all id = false := by
  rw [List.all_eq_false]
  exact ⟨cs[k], List.getElem_mem hk, by rw [hc]; decide⟩

set_option maxHeartbeats 800000 in
theorem multi_closed (bm bp n : Nat) (cs : List Bool) (bs : Nat → Nat) (w : World) (hl : cs.length = n) (hn : n ≤ 1024)
    (hs : w.cell? ⟨bm, 0, none⟩ = some (.slice (some ⟨bp, 0, none⟩) n n))
    (hp : ∀ i, i < n → w.cell? ⟨bp, i, none⟩ = some (.pointer (some ⟨bs i, 0, none⟩)))
    (h0 : ∀ i, i < n → w.cell? ⟨bs i, 306, none⟩ = some (.int .i32 0)) (h1 : ∀ i (h : i < cs.length), w.cell? ⟨bs i, 317, none⟩ = some (.bool cs[i]))
    (f0 : ∀ i, i < n → w.frozen? ⟨bs i, 306, none⟩ = false) :
    Calls Yba.prog 11 #[.pointer (some ⟨bm, 0, none⟩)] w fun e w' => e = .returned (.bool (cs.all id)) ∧ w' = w := by
  have Hp := hide hp
  have H0 := hide h0
  have H1 := hide h1
  have Hf := hide f0
  have Hl := hide hl
  clear hp h0 h1 f0 hl
  go_enter Yba.func11, Yba.ntmps11
  go_wp2
  go_loop [10] (fun i => ∃ k : Nat, k ≤ n ∧ i = .int .i64 k ∧ Hid ((cs.take k).all id = true)) (fun i => n - (intOf i).toNat)
  case atStart => exact ⟨0, Nat.zero_le _, rfl, by rfl⟩
  case round =>
    obtain ⟨k, hk, rfl, ha⟩ := hrel
    by_cases hlt : k < n
    · have hlt' : k < cs.length := by rw [unhide Hl]; exact hlt
      have hpk := (unhide Hp) k hlt
      cases hc : cs[k] with
      | true =>
        have h1k := (unhide H1) k hlt'
        rw [hc] at h1k
        go_wp2_with (go_at_call 18; refine (core_closed (bs k) true w ((unhide H0) k hlt) h1k ((unhide Hf) k hlt)).mono ?_; rintro e w' ⟨rfl, rfl⟩)
        go_round
        case rel => exact ⟨k + 1, by omega, by go_num, all_take_succ cs k hlt' ha.out hc⟩
        case measure => simp [intOf]; omega
      | false =>
        have h1k := (unhide H1) k hlt'
        rw [hc] at h1k
        go_wp2_with (go_at_call 18; refine (core_closed (bs k) false w ((unhide H0) k hlt) h1k ((unhide Hf) k hlt)).mono ?_; rintro e w' ⟨rfl, rfl⟩)
        go_ret
        exact ⟨ret_bool (all_of_false cs k hlt' hc).symm, rfl⟩
    · go_wp2
      go_ret
      have e : cs.take k = cs := List.take_of_length_le (by rw [unhide Hl]; omega)
      have ha' := ha.out
      rw [e] at ha'
      exact ⟨ret_bool ha'.symm, rfl⟩
end Go.Proofs.Ybulkqzm
