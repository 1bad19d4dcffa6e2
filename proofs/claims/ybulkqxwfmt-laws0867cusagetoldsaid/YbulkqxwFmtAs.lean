import Derived.Test.YbulkqxwFmtFacts
import Derived.Deep.LoopGhost
namespace Go.Proofs.YbulkqxwFmt
open Go.RowKit Go.Extern.Stop Go.Stop Go.Extern

/-- The chain of errors: n wrappers round the UsageError at e. -/
def Chain (w : World) (e : Addr) : Nat → Value → Prop
  | 0, v => v = .iface 31 (.pointer (some e))
  | n + 1, v => ∃ a u, v = .iface 38 (.pointer (some a)) ∧ w.cell? a = some u ∧ Chain w e n u

theorem Chain.form {w : World} {e : Addr} : ∀ {n : Nat} {v : Value}, Chain w e n v → ∃ t a, v = .iface t (.pointer (some a))
  | 0, _, h => ⟨31, e, h⟩
  | _ + 1, _, ⟨a, _, h, _⟩ => ⟨38, a, h⟩

theorem Chain.keep {w w' : World} {e : Addr} (hk : ∀ a u, w.cell? a = some u → w'.cell? a = some u) : ∀ {n : Nat} {v : Value}, Chain w e n v → Chain w' e n v
  | 0, _, h => h
  | _ + 1, _, ⟨a, u, h1, h2, h3⟩ => ⟨a, u, h1, hk a u h2, Chain.keep hk h3⟩

theorem block_lt {w : World} {a : Addr} {u : Value} (h : w.cell? a = some u) : a.block < w.heap.size := by
  rcases Nat.lt_or_ge a.block w.heap.size with h1 | h1
  · exact h1
  · simp [World.cell?, Array.getElem?_eq_none h1] at h

theorem cell_alloc {w : World} {a : Addr} {u : Value} (h : w.cell? a = some u) (o : Obj) : (w.alloc o).cell? a = some u := by
  rw [World.cell?_alloc_lt _ _ a (block_lt h)]; exact h

theorem unwrap_any (a : Addr) (u : Value) (w : World) (h : w.cell? a = some u) (ht : ∃ t b, u = .iface t (.pointer (some b))) :
    Calls Ybaf.prog 39 #[.pointer (some a)] w fun e w' => e = .returned u ∧ w' = w := by
  obtain ⟨t, b, rfl⟩ := ht
  go_enter Ybaf.func39, Ybaf.ntmps39
  go_wp2
  go_ret
  exact ⟨rfl, rfl⟩

set_option maxHeartbeats 4000000 in
theorem as13 (n : Nat) (v : Value) (e t : Addr) (b : Nat) (old : Value) (w : World) (hch : Chain w e n v) (hb : w.cell? ⟨b, 0, none⟩ = some (.pointer (some t))) (ht0 : w.cell? t = some old) (hf0 : w.frozen? t = false) :
    Calls Ybaf.prog 13 #[v, .iface 42 (.pointer (some t)), .agg #[.pointer (some ⟨1, 42, none⟩), .pointer (some ⟨b, 0, none⟩), .int .u64 150], .iface 60 (.agg #[.pointer (some ⟨1, 31, none⟩)])] w
      fun ev w' => ev = .returned (.bool true) ∧ w' = ((w.alloc (.cells #[.pointer (some ⟨1, 42, none⟩), .pointer (some ⟨b, 0, none⟩), .int .u64 150] 47)).alloc (.cells #[.pointer (some e)] 31)).setCell t (.pointer (some e)) := by
  have h15 := @run_callFunc_extern Ybaf.prog 15 _ ReflectliteType.typeOf Ybaf.func15 (by kernel_rfl) (by kernel_rfl) (by kernel_rfl) (by kernel_rfl)
  have h44 := @run_callFunc_extern Ybaf.prog 44 _ (ReflectliteType.relation "AssignableTo" ReflectliteType.assignableTo) Ybaf.func44 (by kernel_rfl) (by kernel_rfl) (by kernel_rfl) (by kernel_rfl)
  have h16 := @run_callFunc_extern Ybaf.prog 16 _ (ReflectliteValue.method (ReflectliteValue.valueError "reflectlite.Value.Elem" 0) ReflectliteValue.elem) Ybaf.func16 (by kernel_rfl) (by kernel_rfl) (by kernel_rfl) (by kernel_rfl)
  have h10 := @run_callFunc_extern Ybaf.prog 10 _ (fun args => ReflectliteValue.unpack (args.getD 0 (.tuple #[]))) Ybaf.func10 (by kernel_rfl) (by kernel_rfl) (by kernel_rfl) (by kernel_rfl)
  have h17 := @run_callFunc_extern Ybaf.prog 17 _ ReflectliteValue.set Ybaf.func17 (by kernel_rfl) (by kernel_rfl) (by kernel_rfl) (by kernel_rfl)
  have tO := Ybaf.typeOf31
  have tP := Ybaf.typeOf38
  have mA := Ybaf.methodAssignableTo
  have mU := Ybaf.methodUnwrap
  have a31 := Ybaf.assignable31
  have a38 := Ybaf.assignable38
  have v31 := Ybaf.valueOf31
  have nAs := fun (x : Value) (xT : TypeId) (W : World) => (run_typeAssert_lacksB (P := Ybaf.prog) (t := 38) (z := .nilIface) Ybaf.underlying65 (by kernel_rfl) (by kernel_rfl) x xT W)
  have yUn := fun (x : Value) (xT : TypeId) (W : World) => (run_typeAssert_hasB (P := Ybaf.prog) (t := 38) Ybaf.underlying68 (by kernel_rfl) x xT W)
  go_enter Ybaf.func13, Ybaf.ntmps13
  go_wp2
  go_loopg [0] (n + 1) (fun k x wr => ∃ m, k = m + 1 ∧ Chain w e m x ∧ wr = w.alloc (.cells #[.pointer (some ⟨1, 42, none⟩), .pointer (some ⟨b, 0, none⟩), .int .u64 150] 47))
  case atStart => exact ⟨n, rfl, hch, rfl⟩
  case round =>
    obtain ⟨m, rfl, hc, rfl⟩ := hrel
    match m, hc with
    | 0, hc =>
      have hx : u0 = .iface 31 (.pointer (some e)) := hc
      subst hx
      have el := Ybaf.elemV42 ⟨b, 0, none⟩ t (w.alloc (.cells #[.pointer (some ⟨1, 42, none⟩), .pointer (some ⟨b, 0, none⟩), .int .u64 150] 47)) (cell_alloc hb _)
      have st := Ybaf.set31 t ⟨w.heap.size + 1, 0, none⟩ e old ((w.alloc (.cells #[.pointer (some ⟨1, 42, none⟩), .pointer (some ⟨b, 0, none⟩), .int .u64 150] 47)).alloc (.cells #[.pointer (some e)] 31))
        (by rw [World.cell?_alloc_at _ _ _ _ (by simp)]; rfl) (cell_alloc (cell_alloc ht0 _) _)
        (by rw [World.frozen?_alloc_old _ _ t (by have := block_lt ht0; simp; omega), World.frozen?_alloc_old _ _ t (Nat.ne_of_lt (block_lt ht0))]; exact hf0)
      go_wp2
      go_ret
      exact ⟨rfl, rfl⟩
    | m + 1, hc =>
      obtain ⟨a, u, hx, hcell, hc'⟩ := hc
      subst hx
      have hcell' := cell_alloc hcell (.cells #[.pointer (some ⟨1, 42, none⟩), .pointer (some ⟨b, 0, none⟩), .int .u64 150] 47)
      obtain ⟨t', b', rfl⟩ := hc'.form
      go_wp2
      go_roundg (m + 1)
      case measure => omega
      case rel => exact ⟨m, rfl, hc', rfl⟩
end Go.Proofs.YbulkqxwFmt
