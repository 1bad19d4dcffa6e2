import Derived.Test.YbulkqzmMulti
import Derived.Deep.OwnRows
import Derived.Laws.Tables
namespace Go.Proofs.Ybulkqzm
open Go.RowKit

/-- The cells of '&core[int]{closed: c}'. -/
def coreCells (P : Program) (c : Bool) : Array Value := (P.built 75 [(28, .bool c)]).getD #[]
theorem core_built (c : Bool) : (Yba.prog.built 75 [(28, .bool c)]).isSome = true := by kernel_rfl
theorem core306 (c : Bool) : (coreCells Yba.prog c)[306]? = some (.int .i32 0) := by kernel_rfl
theorem core317 (c : Bool) : (coreCells Yba.prog c)[317]? = some (.bool c) := by kernel_rfl

theorem block_lt {w : World} {a : Addr} {u : Value} (h : w.cell? a = some u) : a.block < w.heap.size := by
  rcases Nat.lt_or_ge a.block w.heap.size with h1 | h1
  · exact h1
  · simp [World.cell?, Array.getElem?_eq_none h1] at h

theorem wpList_core {ops : Array Oper} {rest : List Oper} {o : Oper} {a : Act} {w : World} {Q : Exit → Act → World → Prop} (hg : o.guard = none) (x : Operand) (ho : o.op = .build 75 #[(28, x)])
    (c : Bool) (hx : a.eval x = .bool c) (h : wpList Yba.prog ops Q rest (a.put o.dst (.agg (coreCells Yba.prog c))) w) : wpList Yba.prog ops Q (o :: rest) a w := by
  refine wpList_build hg 75 #[(28, x)] ho ?_ ?_
  · simp only [List.map_toArray, List.map_cons, List.map_nil, hx]; exact core_built c
  · simp only [List.map_toArray, List.map_cons, List.map_nil, hx]; exact h

/-- Block b holds such a core. -/
def CoreAt (w : World) (b : Nat) (c : Bool) : Prop := w.heap[b]? = some (.cells (coreCells Yba.prog c) 75 (0, 0))
theorem CoreAt.lock {w : World} {b : Nat} {c : Bool} (h : CoreAt w b c) : w.cell? ⟨b, 306, none⟩ = some (.int .i32 0) := by
  unfold CoreAt at h; simp only [World.cell?, h]; exact core306 c
theorem CoreAt.flag {w : World} {b : Nat} {c : Bool} (h : CoreAt w b c) : w.cell? ⟨b, 317, none⟩ = some (.bool c) := by
  unfold CoreAt at h; simp only [World.cell?, h]; exact core317 c
theorem CoreAt.free {w : World} {b : Nat} {c : Bool} (h : CoreAt w b c) : w.frozen? ⟨b, 306, none⟩ = false := by
  unfold CoreAt at h; simp [World.frozen?, h]
theorem CoreAt.alloc {w : World} {b : Nat} {c : Bool} (h : CoreAt w b c) (o : Obj) : CoreAt (w.alloc o) b c := by
  have hb : b < w.heap.size := (Array.getElem?_eq_some_iff.1 h).1
  unfold CoreAt; rw [Below.heap_alloc _ _ _ hb]; exact h
theorem CoreAt.set {w : World} {b : Nat} {c : Bool} (h : CoreAt w b c) {a : Addr} (v : Value) (hne : b ≠ a.block) : CoreAt (w.setCell a v) b c := by
  unfold CoreAt; rw [Below.heap_setCell _ _ _ _ hne]; exact h

/-- Row N holds, for j below k, pointers to cores whose flags are cs[j]. -/
def Pools (w : World) (N n k : Nat) (cs : List Bool) : Prop :=
  ∃ bs : Nat → Nat, w.rowIs N 25 n (fun j => if j < k then .pointer (some ⟨bs j, 0, none⟩) else .pointer none) ∧ ∀ j (h : j < cs.length), j < k → N < bs j ∧ CoreAt w (bs j) cs[j]

theorem Pools.made (w : World) (n : Nat) (cs : List Bool) : Pools (w.alloc (.cells (madeCells #[.pointer none] n) 25)) w.heap.size n 0 cs :=
  ⟨fun _ => 0, (World.rowIs_made w (.pointer none) n 25).congr (fun i _ => by simp), fun j _ h => absurd h (Nat.not_lt_zero _)⟩

theorem size_set (w : World) (a : Addr) (v : Value) : (w.setCell a v).heap.size = w.heap.size := by simp [World.setCell]

theorem Pools.step {w : World} {N n k : Nat} {cs : List Bool} (h : Pools w N n k cs) (hk : k < cs.length) :
    Pools ((w.setCell ⟨N, k, none⟩ (.pointer (some ⟨w.heap.size, 0, none⟩))).alloc (.cells (coreCells Yba.prog cs[k]) 75)) N n (k + 1) cs := by
  obtain ⟨bs, hr, hc⟩ := h
  have hN := hr.lt
  refine ⟨fun j => if j = k then w.heap.size else bs j, ((hr.set k _).alloc _).congr (fun i _ => ?_), fun j hj hjk => ?_⟩
  · by_cases e : i = k
    · subst e; simp
    · have e1 : (i < k + 1) = (i < k) := by simp; omega
      simp [e, e1]
  · by_cases e : j = k
    · subst e
      refine ⟨by simpa using hN, ?_⟩
      have h0 : CoreAt ((w.setCell ⟨N, j, none⟩ (.pointer (some ⟨w.heap.size, 0, none⟩))).alloc (.cells (coreCells Yba.prog cs[j]) 75)) (w.setCell ⟨N, j, none⟩ (.pointer (some ⟨w.heap.size, 0, none⟩))).heap.size cs[j] := heap_alloc_new _ _
      rw [size_set] at h0
      simpa using h0
    · obtain ⟨h1, h2⟩ := hc j hj (by omega)
      have h3 := (h2.set (a := ⟨N, k, none⟩) (.pointer (some ⟨w.heap.size, 0, none⟩)) (by show bs j ≠ N; omega)).alloc (.cells (coreCells Yba.prog cs[k]) 75)
      simpa [e] using ⟨h1, h3⟩

theorem Pools.slot {w : World} {N n k : Nat} {cs : List Bool} (h : Pools w N n k cs) (hk : k < n) : w.cell? ⟨N, k, none⟩ = some (.pointer none) ∧ w.frozen? ⟨N, k, none⟩ = false ∧ N < w.heap.size := by
  obtain ⟨bs, hr, _⟩ := h
  exact ⟨by rw [hr.cell hk]; simp, hr.frozen k, hr.lt⟩

theorem all_take (cs : List Bool) (k : Nat) (hk : k < cs.length) : (cs.take (k + 1)).all id = ((cs.take k).all id && cs[k]) := by
  rw [List.take_succ_eq_append_getElem hk, List.all_append]; simp

theorem Yba.info25 : (Yba.prog.info? 25).map (fun i => (i.zero, i.size, i.bytes)) = some (some (.pointer none), 1, 8) := by kernel_rfl

set_option maxHeartbeats 1600000 in
set_option maxRecDepth 100000 in
theorem law5 (a0 : Option Addr) (b off cap n : Nat) (cs : List Bool) (w : World) (ha : 0 < n → a0 = some ⟨b, off, none⟩) (hl : cs.length = n) (hn : n ≤ 1024)
    (hc : ∀ i (h : i < cs.length), w.cell? ⟨b, off + i, none⟩ = some (.bool cs[i])) :
    Calls Yba.prog 5 #[.slice a0 n cap] w fun e w' => e = .returned (.bool true) ∧ Below w.heap.size w w' := by
  have Hc := hide hc
  have Hl := hide hl
  have Ha := hide ha
  clear hc hl ha
  obtain ⟨i0, hi, hz0, hz1, hz2⟩ := info_parts Yba.info25
  go_enter Yba.func5, Yba.ntmps5
  go_wp2_with (refine wpList_make_row _ rfl (.tmp 11) (.tmp 11) 79 rfl 25 i0 (.pointer none) Yba.underlying79 hi hz0 hz1 rfl .i64 .i64 n rfl rfl (by rw [hz2]; omega) (by omega) ?_)
  have HB : w.heap.size ≤ w.heap.size := Nat.le_refl _
  go_loopw [4, 5] (fun t i wr => ∃ k : Nat, k ≤ n ∧ i = .int .i64 k ∧ t = .bool ((cs.take k).all id) ∧ Hid (Pools wr w.heap.size n k cs) ∧ Hid (Below w.heap.size w wr)) (fun _ i _ => n - (intOf i).toNat)
  case atStart => exact ⟨0, Nat.zero_le _, rfl, rfl, Pools.made w n cs, (Below.refl _ _).alloc (Nat.le_refl _) _⟩
  case round =>
    obtain ⟨k, hk, rfl, rfl, hP, hB⟩ := hrel
    by_cases hlt : k < n
    · have ha := (unhide Ha) (by omega)
      subst ha
      have hlt' : k < cs.length := by rw [unhide Hl]; exact hlt
      have hck := (unhide Hc) k hlt'
      have hb : b < w.heap.size := block_lt hck
      have hck1 : wr.cell? ⟨b, off + k, none⟩ = some (.bool cs[k]) := by rw [(unhide hB).cell hb]; exact hck
      obtain ⟨s1, s2, s3⟩ := (unhide hP).slot hlt
      have hP' := hide ((unhide hP).step hlt')
      have hB' := hide (((unhide hB).setCell (p := ⟨w.heap.size, k, none⟩) (Nat.le_refl _) (.pointer (some ⟨wr.heap.size, 0, none⟩))).alloc (by rw [size_set]; exact (unhide hB).size) (.cells (coreCells Yba.prog cs[k]) 75))
      have hck2 : ((wr.setCell ⟨w.heap.size, k, none⟩ (.pointer (some ⟨wr.heap.size, 0, none⟩))).alloc (.cells (coreCells Yba.prog cs[k]) 75)).cell? ⟨b, off + k, none⟩ = some (.bool cs[k]) := by
        rw [(unhide hB').cell hb]; exact hck
      have s4 : (wr.alloc (.cells (coreCells Yba.prog cs[k]) 75)).cell? ⟨w.heap.size, k, none⟩ = some (.pointer none) := by rw [World.cell?_alloc_lt _ _ _ s3]; exact s1
      have s5 : (wr.alloc (.cells (coreCells Yba.prog cs[k]) 75)).frozen? ⟨w.heap.size, k, none⟩ = false := by rw [World.frozen?_alloc_old _ _ _ (Nat.ne_of_lt s3)]; exact s2
      generalize hx : cs[k] = x at *
      go_wp2_with (refine wpList_core rfl (.tmp 24) rfl x rfl ?_)
      all_goals
        go_roundw
        case rel =>
          refine ⟨k + 1, by omega, by go_num, ?_, hP', hB'⟩
          rw [all_take cs k hlt', hx]
          cases x <;> simp at * 
        case measure => simp [intOf]; omega
    · have hkn : k = n := by omega
      subst hkn
      obtain ⟨bs, hr, hcores⟩ := unhide hP
      have hl := unhide Hl
      have hB1 := hide ((unhide hB).alloc (unhide hB).size (.cells #[.slice (some ⟨w.heap.size, 0, none⟩) k k, .int .i64 0, .int .u64 0] 83))
      have hM := hide (multi_closed wr.heap.size w.heap.size k cs bs (wr.alloc (.cells #[.slice (some ⟨w.heap.size, 0, none⟩) k k, .int .i64 0, .int .u64 0] 83)) hl hn
        (by simp) (fun i hi => by rw [(hr.alloc _).cell hi]; simp [hi])
        (fun i hi => ((hcores i (by omega) hi).2.alloc _).lock) (fun i hi => ((hcores i hi (by omega)).2.alloc _).flag) (fun i hi => ((hcores i (by omega) hi).2.alloc _).free))
      have ht : (cs.take k).all id = cs.all id := by rw [List.take_of_length_le (by omega)]
      rw [ht]
      clear hr hcores ht hl hP
      go_wp2_with (go_at_call 11; refine (unhide hM).mono ?_; rintro e w' ⟨rfl, rfl⟩)
      go_ret
      exact ⟨ret_bool (by simp), unhide hB1⟩
end Go.Proofs.Ybulkqzm
