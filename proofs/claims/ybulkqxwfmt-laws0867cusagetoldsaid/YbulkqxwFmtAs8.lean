import Derived.Test.YbulkqxwFmtAs
namespace Go.Proofs.YbulkqxwFmt
open Go.RowKit Go.Extern.Stop Go.Stop Go.Extern

set_option maxHeartbeats 4000000 in
theorem as8 (n : Nat) (v : Value) (e t : Addr) (old : Value) (w : World) (hg : w.cell? ⟨0, 0, none⟩ = some (.iface 60 (.agg #[.pointer (some ⟨1, 23, none⟩)]))) (hch : Chain w e n v) (ht0 : w.cell? t = some old) (hf0 : w.frozen? t = false) :
    Calls Ybaf.prog 8 #[v, .iface 42 (.pointer (some t))] w
      fun ev w' => ev = .returned (.bool true) ∧ w' = ((((w.alloc (.cells #[.pointer (some t)] 42)).alloc (.cells #[.pointer (some ⟨1, 42, none⟩), .pointer (some ⟨w.heap.size, 0, none⟩), .int .u64 150] 47)).alloc (.cells #[.pointer (some ⟨1, 42, none⟩), .pointer (some ⟨w.heap.size, 0, none⟩), .int .u64 150] 47)).alloc (.cells #[.pointer (some e)] 31)).setCell t (.pointer (some e)) := by
  have h10 := @run_callFunc_extern Ybaf.prog 10 _ (fun args => ReflectliteValue.unpack (args.getD 0 (.tuple #[]))) Ybaf.func10 (by kernel_rfl) (by kernel_rfl) (by kernel_rfl) (by kernel_rfl)
  have h11 := @run_callFunc_extern Ybaf.prog 11 _ (ReflectliteValue.methodAny (ReflectliteValue.valueError "reflectlite.Value.Type" 0) (fun t _ _ _ => ReflectliteType.toType t)) Ybaf.func11 (by kernel_rfl) (by kernel_rfl) (by kernel_rfl) (by kernel_rfl)
  have h12 := @run_callFunc_extern Ybaf.prog 12 _ (ReflectliteValue.method (ReflectliteValue.valueError "reflectlite.Value.IsNil" 0) ReflectliteValue.isNil) Ybaf.func12 (by kernel_rfl) (by kernel_rfl) (by kernel_rfl) (by kernel_rfl)
  have h32 := @run_callFunc_extern Ybaf.prog 32 _ (ReflectliteType.abiMethod fun t => do pure (.int .u8 (← Rtype.kind t))) Ybaf.func32 (by kernel_rfl) (by kernel_rfl) (by kernel_rfl) (by kernel_rfl)
  have h46 := @run_callFunc_extern Ybaf.prog 46 _ (ReflectliteType.method ReflectliteType.elem) Ybaf.func46 (by kernel_rfl) (by kernel_rfl) (by kernel_rfl) (by kernel_rfl)
  have h47 := @run_callFunc_extern Ybaf.prog 47 _ (ReflectliteType.relation "Implements" ReflectliteType.implements_) Ybaf.func47 (by kernel_rfl) (by kernel_rfl) (by kernel_rfl) (by kernel_rfl)
  have f6 := Ybaf.valueOf42
  have f7 := Ybaf.type42
  have mK := Ybaf.methodKind
  have mE := Ybaf.methodElem
  have mI := Ybaf.methodImplements
  have k42 := Ybaf.kind42
  have k31 := Ybaf.kind31
  have e42 := Ybaf.elem42
  have i31 := Ybaf.implements31
  have n12 := Ybaf.isNil42 ⟨w.heap.size, 0, none⟩ t ((w.alloc (.cells #[.pointer (some t)] 42)).alloc (.cells #[.pointer (some ⟨1, 42, none⟩), .pointer (some ⟨w.heap.size, 0, none⟩), .int .u64 150] 47)) (by simp)
  have hg2 := cell_alloc (cell_alloc hg (.cells #[.pointer (some t)] 42)) (.cells #[.pointer (some ⟨1, 42, none⟩), .pointer (some ⟨w.heap.size, 0, none⟩), .int .u64 150] 47)
  obtain ⟨tv, av, hv⟩ := hch.form
  subst hv
  go_enter Ybaf.func8, Ybaf.ntmps8
  go_wp2_with (first | (go_at_call 13; refine (as13 n _ e t w.heap.size old _ (hch.keep fun a u h => cell_alloc (cell_alloc h _) _) (by simp) (cell_alloc (cell_alloc ht0 _) _) (by rw [World.frozen?_alloc_old _ _ t (by have := block_lt ht0; simp; omega), World.frozen?_alloc_old _ _ t (Nat.ne_of_lt (block_lt ht0))]; exact hf0)).mono ?_; rintro e w' ⟨rfl, rfl⟩))
  go_ret
  exact ⟨rfl, rfl⟩
end Go.Proofs.YbulkqxwFmt
