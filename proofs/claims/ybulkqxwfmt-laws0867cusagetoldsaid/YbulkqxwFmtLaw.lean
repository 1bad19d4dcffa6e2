import Derived.Test.YbulkqxwFmtWalks
import Derived.Below
namespace Go.Proofs.YbulkqxwFmt
open Go.RowKit Go.Extern.Stop Go.Stop Go.Extern

theorem Chain.below {w w' : World} {e : Addr} (hb : Below w.heap.size w w') {n : Nat} {v : Value} (h : Chain w e n v) : Chain w' e n v :=
  h.keep fun a u hc => by rw [hb.cell (block_lt hc)]; exact hc

set_option maxHeartbeats 1600000 in
theorem wrapn6 (e : Addr) (d : Int) (w : World) (h0 : 0 ≤ d) (h1 : d ≤ 255) :
    Calls Ybaf.prog 6 #[.iface 31 (.pointer (some e)), .int .u8 d] w fun ev w' => ∃ n v, ev = .returned v ∧ Chain w' e n v ∧ Below w.heap.size w w' := by
  go_enter Ybaf.func6, Ybaf.ntmps6
  go_wp2
  go_loopw [0, 6] (fun v i wr => ∃ k : Nat, (k : Int) ≤ d % 4 ∧ i = .int .i64 k ∧ Chain wr e k v ∧ Below w.heap.size w wr) (fun _ i _ => 4 - (intOf i).toNat)
  case atStart => exact ⟨0, by omega, rfl, rfl, Below.refl _ _⟩
  case round =>
    obtain ⟨k, hk, rfl, hc, hb⟩ := hrel
    obtain ⟨tv, av, rfl⟩ := hc.form
    by_cases hlt : (k : Int) < d % 4
    · go_wp2
      go_roundw
      case rel => exact ⟨k + 1, by omega, by go_num, ⟨⟨wr.heap.size, 0, none⟩, _, rfl, by simp, hc.keep fun a u h => cell_alloc h _⟩, hb.alloc hb.size _⟩
      case measure => simp [intOf]; omega
    · go_wp2
      go_ret
      exact ⟨k, _, rfl, hc, hb⟩

theorem heap_new {W : World} {o : Obj} {k : Nat} (hk : k = W.heap.size) : (W.alloc o).drew.heap[k]? = some o := by
  subst hk; exact heap_alloc_new W o

theorem usage9 (F : Interp) (n : Nat) (v : Value) (c s : ByteArray) (e : Addr) (blk : Nat) (w : World) (hF : F.answers w.tape) (hch : Chain w e n v) (he : w.cell? e = some (.string s))
    (hc0 : w.cell? ⟨blk, 0, none⟩ = some (.iface 9 (.string c))) (hc1 : w.cell? ⟨blk, 1, none⟩ = some v) :
    Calls Ybaf.prog 9 #[.string ⟨#[37, 115, 58, 32, 37, 118]⟩, .slice (some ⟨blk, 0, none⟩) 2 2] w fun ev w' =>
      ∃ x, ev = .returned (.iface 31 (.pointer (some ⟨w.heap.size, 0, none⟩))) ∧ w' = (w.alloc (.cells #[.string x] 32)).drew := by
  match n, hch with
  | 0, h =>
    have hv : v = .iface 31 (.pointer (some e)) := h
    subst hv
    exact usage9_bare F c s e blk w hF hc0 hc1 he
  | m + 1, h =>
    obtain ⟨a, u, hv, _, _⟩ := h
    subst hv
    exact usage9_wrapped F c a blk w hF hc0 hc1

set_option maxHeartbeats 1600000 in
theorem inContext7 (F : Interp) (n : Nat) (v : Value) (c s : ByteArray) (e : Addr) (w : World) (hF : F.answers w.tape)
    (hg : w.cell? ⟨0, 0, none⟩ = some (.iface 60 (.agg #[.pointer (some ⟨1, 23, none⟩)]))) (hch : Chain w e n v) (he : w.cell? e = some (.string s)) :
    Calls Ybaf.prog 7 #[.string c, v] w fun ev w' => ∃ b x, ev = .returned (.iface 31 (.pointer (some ⟨b, 0, none⟩))) ∧ w.heap.size ≤ b ∧ Below w.heap.size w w' ∧ w'.heap[b]? = some (.cells #[.string x] 32 (0, 0)) := by
  obtain ⟨tv, av, hv⟩ := hch.form
  subst hv
  go_enter Ybaf.func7, Ybaf.ntmps7
  go_wp2_with (first | (go_at_call 8; refine (as8 n _ e ⟨w.heap.size, 0, none⟩ (.pointer none) _ (cell_alloc hg _) (hch.keep fun a u h => cell_alloc h _) (by simp) (by simp)).mono ?_; rintro ev w' ⟨rfl, rfl⟩))
  refine (usage9 F n (.iface tv (.pointer (some av))) c s e (w.heap.size + 1 + 1 + 1 + 1 + 1) _ ?_ ?_ ?_ ?_ ?_).mono ?_
  · exact hF
  · exact hch.keep fun a u h => cell_alloc (cell_alloc (cell_alloc (cell_alloc (cell_alloc (cell_alloc h _) _) _) _) _) _
  · exact cell_alloc (cell_alloc (cell_alloc (cell_alloc (cell_alloc (cell_alloc he _) _) _) _) _) _
  · rw [World.cell?_alloc_at _ _ _ _ (by simp)]; rfl
  · rw [World.cell?_alloc_at _ _ _ _ (by simp)]; rfl
  rintro ev w' ⟨x, rfl, rfl⟩
  go_wp2
  go_ret
  refine ⟨_, x, rfl, ?_, ?_, ?_⟩
  · show w.heap.size ≤ w.heap.size + 1 + 1 + 1 + 1 + 1 + 1; omega
  · exact (((((((((Below.refl _ w).alloc (Nat.le_refl _) _).alloc (by simp) _).alloc (by simp; omega) _).alloc (by simp; omega) _).alloc (by simp; omega) _).alloc (by simp; omega) _)).alloc (by simp; omega) _).drew
  · exact heap_new (by simp)

theorem heap_same {w w' : World} {k : Nat} (hb : Below w.heap.size w w') {o : Obj} (h : w.heap[k]? = some o) : w'.heap[k]? = some o := by
  have hk : k < w.heap.size := by
    rcases Nat.lt_or_ge k w.heap.size with h1 | h1
    · exact h1
    · rw [Array.getElem?_eq_none h1] at h; cases h
  rw [hb.block k hk]; exact h

theorem Ybaf.assert31 (v : Value) (w : World) : (Instr.typeAssert (.iface 31 v) 23 31 true).run Ybaf.prog w = .ok (.tuple #[v, .bool true]) w := by kernel_rfl
theorem Ybaf.info31 : (Ybaf.prog.info? 31).map (·.comparable) = some true := by kernel_rfl
theorem Ybaf.info32 : (Ybaf.prog.info? 32).map (·.size) = some 1 := by kernel_rfl

theorem eql_ptr {e f : Addr} {ca cb : Array Value} {ta tb : TypeId} (w : World) (hne : e ≠ f) (ha : w.heap[e.block]? = some (.cells ca ta (0, 0))) (hb : w.heap[f.block]? = some (.cells cb tb (0, 0))) :
    (binOp .eql 31 (.pointer (some e)) (.pointer (some f))).run Ybaf.prog w = .ok (.bool false) w := by
  obtain ⟨j, hj, hz⟩ := Option.map_eq_some_iff.1 Ybaf.info32
  have h : ∀ d : Nat, (Op.equalIn (d + 1) 31 (.pointer (some e)) (.pointer (some f))).run Ybaf.prog w = .ok false w := fun d => by
    simp [Op.equalIn, run_underlying Ybaf.underlying31, typeInfo, sizeOf, hj, hz, run_sameAddr_other w hne ha hb]
  simp only [binOp]
  simp [Op.equal, Op.maxDepth, h 9999]

theorem neq_ptr {e f : Addr} {ca cb : Array Value} {ta tb : TypeId} (w : World) (hne : e ≠ f) (ha : w.heap[e.block]? = some (.cells ca ta (0, 0))) (hb : w.heap[f.block]? = some (.cells cb tb (0, 0))) :
    (binOp .neq 23 (.iface 31 (.pointer (some e))) (.iface 31 (.pointer (some f)))).run Ybaf.prog w = .ok (.bool true) w := by
  obtain ⟨i, hi, hc⟩ := Option.map_eq_some_iff.1 Ybaf.info31
  obtain ⟨j, hj, hz⟩ := Option.map_eq_some_iff.1 Ybaf.info32
  simp only [binOp]
  simp [Op.equal, Op.maxDepth, run_equalIn_iface_ptr_other w 9998 Ybaf.underlying23 Ybaf.underlying31 hi hc hj (by rw [hz]; decide) hne ha hb]

theorem neq_types (tx ty : TypeId) (vx vy : Value) (hne : tx ≠ ty) (w : World) :
    (binOp .neq 23 (.iface tx vx) (.iface ty vy)).run Ybaf.prog w = .ok (.bool true) w := by
  have h : ∀ d : Nat, (Op.equalIn (d + 1) 23 (.iface tx vx) (.iface ty vy)).run Ybaf.prog w = .ok false w := fun d => by simp [Op.equalIn, run_underlying Ybaf.underlying23, hne]
  simp only [binOp]
  simp [Op.equal, Op.maxDepth, h 9999]

theorem neq_chain {w : World} {e f : Addr} {n : Nat} {v : Value} {w1 : World} {ca cb : Array Value} {ta tb : TypeId} (hch : Chain w1 e n v) (hne : f ≠ e) (ha : w.heap[f.block]? = some (.cells ca ta (0, 0))) (hb : w.heap[e.block]? = some (.cells cb tb (0, 0))) :
    (binOp .neq 23 (.iface 31 (.pointer (some f))) v).run Ybaf.prog w = .ok (.bool true) w := by
  match n, hch with
  | 0, h =>
    have hv : v = .iface 31 (.pointer (some e)) := h
    subst hv
    exact neq_ptr w hne ha hb
  | m + 1, h =>
    obtain ⟨a, u, hv, _, _⟩ := h
    subst hv
    exact neq_types 31 38 _ _ (by decide) w

set_option maxHeartbeats 1600000 in
theorem law4 (F : Interp) (c s : ByteArray) (d : Int) (w : World) (hF : F.answers w.tape) (h0 : 0 ≤ d) (h1 : d ≤ 255)
    (hg : w.cell? ⟨0, 0, none⟩ = some (.iface 60 (.agg #[.pointer (some ⟨1, 23, none⟩)]))) :
    Calls Ybaf.prog 4 #[.string c, .string s, .int .u8 d] w fun ev w' => ev = .returned (.bool true) ∧ Below w.heap.size w w' := by
  have hW : Below w.heap.size w (w.alloc (.cells #[.string s] 32)) := (Below.refl _ w).alloc (Nat.le_refl _) _
  go_enter Ybaf.func4, Ybaf.ntmps4
  go_wp2_with fail
  refine (wrapn6 _ d _ h0 h1).mono ?_
  rintro ev w1 ⟨n, v, rfl, hch, hb1⟩
  go_wp2_with fail
  have hg1 : w1.cell? ⟨0, 0, none⟩ = some (.iface 60 (.agg #[.pointer (some ⟨1, 23, none⟩)])) := by
    rw [hb1.cell (by have := block_lt hg; simp)]; exact cell_alloc hg _
  have hu0 : (w.alloc (.cells #[.string s] 32)).heap[w.heap.size]? = some (.cells #[.string s] 32 (0, 0)) := heap_alloc_new _ _
  have hu1 := heap_same hb1 hu0
  have he1 : w1.cell? ⟨w.heap.size, 0, none⟩ = some (.string s) := by simp [World.cell?, hu1]
  have hF1 : F.answers w1.tape := by rw [hb1.tape]; exact hF
  refine (inContext7 F n v c s _ w1 hF1 hg1 hch he1).mono ?_
  rintro ev w2 ⟨b, x, rfl, hlb, hb2, hx⟩
  have hu2 := heap_same hb2 hu1
  have hsz1 : w.heap.size + 1 ≤ w1.heap.size := by have := hb1.size; simpa using this
  have hne : (⟨b, 0, none⟩ : Addr) ≠ ⟨w.heap.size, 0, none⟩ := by intro h; injection h with h; omega
  have hbel : Below w.heap.size w w2 := (hW.trans (hb1.mono (by simp))).trans (hb2.mono (by omega))
  have t31 := Ybaf.assert31
  have eq1 := eql_ptr w2 hne hx hu2
  have eq2 := neq_chain hch hne hx hu2
  go_wp2
  go_ret
  exact ⟨rfl, hbel⟩
end Go.Proofs.YbulkqxwFmt
