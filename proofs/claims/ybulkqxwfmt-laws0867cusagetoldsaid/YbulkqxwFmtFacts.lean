import Derived.Test.YbulkqxwFmtProg
import Derived.WalkKit
import Derived.LaidEql
import Derived.Stop.Asserts
import Derived.RowKitTokens
namespace Go.Proofs.YbulkqxwFmt
open Go.RowKit Go.Extern.Stop Go.Stop Go.Extern

/-! Closed facts on the entries for package reflectlite at this dump. 31: the pointer to UsageError. 42: the pointer to that pointer. 38: the pointer to the wrapper. 23: error. 60: rtype. -/
theorem Ybaf.valueOf42 (t : Addr) (w : World) : (ReflectliteValue.unpack (.iface 42 (.pointer (some t)))).run Ybaf.prog w
    = .ok (.agg #[.pointer (some ⟨1, 42, none⟩), .pointer (some ⟨w.heap.size, 0, none⟩), .int .u64 150]) (w.alloc (.cells #[.pointer (some t)] 42)) := by kernel_rfl
theorem Ybaf.type42 (a : Addr) (w : World) : (ReflectliteValue.methodAny (ReflectliteValue.valueError "reflectlite.Value.Type" 0) (fun t _ _ _ => ReflectliteType.toType t) #[.agg #[.pointer (some ⟨1, 42, none⟩), .pointer (some a), .int .u64 150]]).run Ybaf.prog w
    = .ok (.iface 60 (.agg #[.pointer (some ⟨1, 42, none⟩)])) w := by kernel_rfl
theorem Ybaf.methodKind (h : Value) (w : World) : (Go.method 203 60 (.agg #[h]) "Kind").run Ybaf.prog w = .ok (32, h) w := by kernel_rfl
theorem Ybaf.kind42 (w : World) : ((ReflectliteType.abiMethod fun t => (fun a : Nat => Value.int IntKind.u8 (a : Int)) <$> Rtype.kind t) #[.pointer (some ⟨1, 42, none⟩)]).run Ybaf.prog w = .ok (.int .u8 22) w := by kernel_rfl
theorem Ybaf.kind31 (w : World) : ((ReflectliteType.abiMethod fun t => (fun a : Nat => Value.int IntKind.u8 (a : Int)) <$> Rtype.kind t) #[.pointer (some ⟨1, 31, none⟩)]).run Ybaf.prog w = .ok (.int .u8 22) w := by kernel_rfl
theorem rlm (z : Sem Value) (f : TypeId → Addr → Nat → Nat → Sem Value) (v : Value) :
    ReflectliteValue.method z f #[v] = (do match ← ReflectliteValue.parts v with | none => z | some (t, a, fl) => f t a fl (fl % 32)) := rfl
theorem Ybaf.parts42 (a : Addr) (w : World) : (ReflectliteValue.parts (.agg #[.pointer (some ⟨1, 42, none⟩), .pointer (some a), .int .u64 150])).run Ybaf.prog w = .ok (some (42, a, 150)) w := by kernel_rfl
theorem Ybaf.isNil42 (a p : Addr) (W : World) (ha : W.cell? a = some (.pointer (some p))) :
    (ReflectliteValue.method (ReflectliteValue.valueError "reflectlite.Value.IsNil" 0) ReflectliteValue.isNil #[.agg #[.pointer (some ⟨1, 42, none⟩), .pointer (some a), .int .u64 150]]).run Ybaf.prog W = .ok (.bool false) W := by
  rw [rlm]
  simp only [Sem.run_bind, Ybaf.parts42, Result.andThen]
  simp [ReflectliteValue.isNil, loadVar, isAgg, underlying, Ybaf.underlying42, ha, Result.andThen]
theorem Ybaf.methodElem (h : Value) (w : World) : (Go.method 203 60 (.agg #[h]) "Elem").run Ybaf.prog w = .ok (46, .agg #[h]) w := by kernel_rfl
theorem Ybaf.methodImplements (h : Value) (w : World) : (Go.method 203 60 (.agg #[h]) "Implements").run Ybaf.prog w = .ok (47, .agg #[h]) w := by kernel_rfl
theorem Ybaf.methodAssignableTo (h : Value) (w : World) : (Go.method 203 60 (.agg #[h]) "AssignableTo").run Ybaf.prog w = .ok (44, .agg #[h]) w := by kernel_rfl
theorem Ybaf.methodUnwrap (h : Value) (w : World) : (Go.method 203 38 h "Unwrap").run Ybaf.prog w = .ok (39, h) w := by kernel_rfl
theorem Ybaf.elem42 (w : World) : (ReflectliteType.method ReflectliteType.elem #[.agg #[.pointer (some ⟨1, 42, none⟩)]]).run Ybaf.prog w = .ok (.iface 60 (.agg #[.pointer (some ⟨1, 31, none⟩)])) w := by kernel_rfl
theorem Ybaf.implements31 (w : World) : (ReflectliteType.relation "Implements" ReflectliteType.implements_ #[.agg #[.pointer (some ⟨1, 31, none⟩)], .iface 60 (.agg #[.pointer (some ⟨1, 23, none⟩)])]).run Ybaf.prog w = .ok (.bool true) w := by kernel_rfl
theorem Ybaf.typeOf31 (v : Value) (w : World) : (ReflectliteType.typeOf #[.iface 31 v]).run Ybaf.prog w = .ok (.iface 60 (.agg #[.pointer (some ⟨1, 31, none⟩)])) w := by kernel_rfl
theorem Ybaf.typeOf38 (v : Value) (w : World) : (ReflectliteType.typeOf #[.iface 38 v]).run Ybaf.prog w = .ok (.iface 60 (.agg #[.pointer (some ⟨1, 38, none⟩)])) w := by kernel_rfl
theorem Ybaf.assignable31 (w : World) : (ReflectliteType.relation "AssignableTo" ReflectliteType.assignableTo #[.agg #[.pointer (some ⟨1, 31, none⟩)], .iface 60 (.agg #[.pointer (some ⟨1, 31, none⟩)])]).run Ybaf.prog w = .ok (.bool true) w := by kernel_rfl
theorem Ybaf.assignable38 (w : World) : (ReflectliteType.relation "AssignableTo" ReflectliteType.assignableTo #[.agg #[.pointer (some ⟨1, 38, none⟩)], .iface 60 (.agg #[.pointer (some ⟨1, 31, none⟩)])]).run Ybaf.prog w = .ok (.bool false) w := by kernel_rfl
theorem Ybaf.valueOf31 (e : Addr) (w : World) : (ReflectliteValue.unpack (.iface 31 (.pointer (some e)))).run Ybaf.prog w
    = .ok (.agg #[.pointer (some ⟨1, 31, none⟩), .pointer (some ⟨w.heap.size, 0, none⟩), .int .u64 150]) (w.alloc (.cells #[.pointer (some e)] 31)) := by kernel_rfl
theorem Ybaf.elemOf42 (w : World) : (Rtype.elem? 42).run Ybaf.prog w = .ok (some 31) w := by kernel_rfl
theorem Ybaf.mk31 (p : Addr) (w : World) : (ReflectliteValue.mk 31 p ReflectliteValue.flagAddr).run Ybaf.prog w = .ok (.agg #[.pointer (some ⟨1, 31, none⟩), .pointer (some p), .int .u64 406]) w := by kernel_rfl
theorem Ybaf.elemV42 (a p : Addr) (W : World) (ha : W.cell? a = some (.pointer (some p))) :
    (ReflectliteValue.method (ReflectliteValue.valueError "reflectlite.Value.Elem" 0) ReflectliteValue.elem #[.agg #[.pointer (some ⟨1, 42, none⟩), .pointer (some a), .int .u64 150]]).run Ybaf.prog W
      = .ok (.agg #[.pointer (some ⟨1, 31, none⟩), .pointer (some p), .int .u64 406]) W := by
  rw [rlm]
  simp only [Sem.run_bind, Ybaf.parts42, Result.andThen]
  simp [ReflectliteValue.elem, loadVar, isAgg, underlying, Ybaf.underlying42, ha, Result.andThen, Ybaf.elemOf42, Ybaf.mk31]
theorem Ybaf.parts31a (a : Addr) (w : World) : (ReflectliteValue.parts (.agg #[.pointer (some ⟨1, 31, none⟩), .pointer (some a), .int .u64 406])).run Ybaf.prog w = .ok (some (31, a, 406)) w := by kernel_rfl
theorem Ybaf.parts31 (a : Addr) (w : World) : (ReflectliteValue.parts (.agg #[.pointer (some ⟨1, 31, none⟩), .pointer (some a), .int .u64 150])).run Ybaf.prog w = .ok (some (31, a, 150)) w := by kernel_rfl
theorem Ybaf.direct31 (w : World) : (Rtype.directlyAssignable 31 31).run Ybaf.prog w = .ok true w := by kernel_rfl
theorem rls (v x : Value) : ∃ s1 s2 s3 s4 s5 : String, ReflectliteValue.set #[v, x] = (do
    let (some (dst, a, fl), some (src, b, _)) := (← ReflectliteValue.parts v, ← ReflectliteValue.parts x)
      | unsupported (.noEntry s1)
    if fl / ReflectliteValue.flagAddr % 2 == 0 then unsupported (.noEntry s2)
    let val ← loadVar src b
    if ← Rtype.directlyAssignable dst src then storeVar dst a val
    else if ← Rtype.implements dst src then
      if (← Rtype.kind src) == 20 then
        match val with
        | .nilIface => unsupported (.noEntry s3)
        | _ => storeVar dst a val
      else storeVar dst a (.iface src val)
    else panicString (s4 ++ (← Rtype.spelt src) ++ s5 ++ (← Rtype.spelt dst))
    pure (.tuple #[])) := ⟨_, _, _, _, _, rfl⟩
/-- What Set does with two Values that are not zero, the first addressable, of one type. -/
theorem Ybaf.set31 (ta b e : Addr) (old : Value) (W : World) (hb : W.cell? b = some (.pointer (some e))) (ht : W.cell? ta = some old) (hf : W.frozen? ta = false) :
    (ReflectliteValue.set #[.agg #[.pointer (some ⟨1, 31, none⟩), .pointer (some ta), .int .u64 406], .agg #[.pointer (some ⟨1, 31, none⟩), .pointer (some b), .int .u64 150]]).run Ybaf.prog W
      = .ok (.tuple #[]) (W.setCell ta (.pointer (some e))) := by
  obtain ⟨s1, s2, s3, s4, s5, e⟩ := rls (.agg #[.pointer (some ⟨1, 31, none⟩), .pointer (some ta), .int .u64 406]) (.agg #[.pointer (some ⟨1, 31, none⟩), .pointer (some b), .int .u64 150])
  rw [e]
  simp only [Sem.run_bind, Ybaf.parts31a, Ybaf.parts31, Result.andThen]
  simp [ReflectliteValue.flagAddr, loadVar, isAgg, underlying, Ybaf.underlying31, hb, Result.andThen, Ybaf.direct31, storeVar, Value.cells, storeCells, Addr.add]
  rw [run_store Ybaf.prog W ta _ _ (by rfl)]
  simp [ht, hf]
end Go.Proofs.YbulkqxwFmt
