/-
  No cell of these rows narrows 'for every input' (looked for: loops, veiled, ifaces, maps, wideKeys, modest, calm, conditions, laid).
  DERIVED. THE GIVEN ROWS OF THIS SEAT. 3 by the template 'for every input the law returns true; each argument reads behind the call as it read before'; 0 by the template 'total and deterministic' (their statements: YbulkqzmTotals.lean).
  GIVEN WITH THE SEED: the statements are not yours to turn. If you find one false, say at which input.
  Laid BY PROGRAM, IN A SANDBOX (cutbox-rows.mjs): the forced cells as the released guide's own fill.sh prints them over the translation 933bc220d8bcdea9… (all of the seat's roots in one cut). By AI agents, Wed Nov 11 2026. No macro, syntax, notation, axiom, sorry.
-/
import Derived.Test.YbulkqzmChecked
import GoSem.Claim
import GoSem.ClaimJoined
import GoSem.ClaimMapViews
import Derived.JoinedTies
import Derived.KernelRfl
namespace Go.Proofs.Ybulkqzm
/- THE CELL 'sum', in the pinned program and in every row, IS THE sha256 OF THE DUMP (.gsa) THAT YbulkqzmProg.lean LOADS. Nothing in Lean hashes anything: it is a label: what it is worth is what the hold of that sum in a sandbox is worth. -/
noncomputable def Yba.pinned : Pinned := { name := "ybulkqzm", sum := "933bc220d8bcdea97a0b8ae3085af124ee4347ed028a9ecd399b36372d3d3ccc", checked := Yba.checked }
namespace Rows
def none {H : Type} : Left H := { results := [], args := [] }

/-- 'nido.LawS0870BExact': WHATEVER THE INPUT: true; the input reads as it did. -/
def lawS0870BExactSpec : ChangeSpec := { name := "lawS0870BExact", fn := fun _ => fun
  | [d] => { results := [.lit (.bool true)], args := [d] }
  | _ => none }
def lawS0870BExactRow : OpenClaim := { program := "ybulkqzm", sum := "933bc220d8bcdea97a0b8ae3085af124ee4347ed028a9ecd399b36372d3d3ccc", func := "example.com/nido/nido.LawS0870BExact", spec := "lawS0870BExact", inPlace := ["sync/atomic.StoreInt64", "sync/atomic.StoreUint64", "(*internal/sync.Mutex).Lock", "internal/race.Disable", "sync/atomic.CompareAndSwapInt32", "internal/race.Enable", "internal/race.Acquire", "(*internal/sync.Mutex).lockSlow", "internal/sync.runtime_canSpin", "internal/sync.runtime_doSpin", "internal/sync.throw", "internal/sync.runtime_nanotime", "internal/sync.runtime_SemacquireMutex", "sync/atomic.AddInt32", "(*internal/sync.Mutex).Unlock", "internal/race.ReleaseMerge", "(*internal/sync.Mutex).unlockSlow", "internal/sync.fatal", "internal/sync.runtime_Semrelease", "sync/atomic.LoadInt64", "sync/atomic.LoadUint64"], apart := false }
def LawS0870BExactSaid : Prop := lawS0870BExactRow.holds Yba.pinned (OpenSpec.ofChange lawS0870BExactSpec)

/-- ITS FALSE NEIGHBOUR: 'it returns false'. Refute it at one input. -/
def lawS0870BExactWrong : ChangeSpec := { name := "lawS0870BExact", fn := fun _ => fun
  | [d] => { results := [.lit (.bool false)], args := [d] }
  | _ => none }
def LawS0870BExactWrongFalsely : Prop := lawS0870BExactRow.holds Yba.pinned (OpenSpec.ofChange lawS0870BExactWrong)

/-- 'nido.LawS0870BSiblings': WHATEVER THE INPUT: true; the input reads as it did. -/
def lawS0870BSiblingsSpec : ChangeSpec := { name := "lawS0870BSiblings", fn := fun _ => fun
  | [d1, d2, d3, d4, d5] => { results := [.lit (.bool true)], args := [d1, d2, d3, d4, d5] }
  | _ => none }
def lawS0870BSiblingsRow : OpenClaim := { program := "ybulkqzm", sum := "933bc220d8bcdea97a0b8ae3085af124ee4347ed028a9ecd399b36372d3d3ccc", func := "example.com/nido/nido.LawS0870BSiblings", spec := "lawS0870BSiblings", inPlace := ["sync/atomic.StoreInt64", "sync/atomic.StoreUint64", "(*internal/sync.Mutex).Lock", "internal/race.Disable", "sync/atomic.CompareAndSwapInt32", "internal/race.Enable", "internal/race.Acquire", "(*internal/sync.Mutex).lockSlow", "internal/sync.runtime_canSpin", "internal/sync.runtime_doSpin", "internal/sync.throw", "internal/sync.runtime_nanotime", "internal/sync.runtime_SemacquireMutex", "sync/atomic.AddInt32", "(*internal/sync.Mutex).Unlock", "internal/race.ReleaseMerge", "(*internal/sync.Mutex).unlockSlow", "internal/sync.fatal", "internal/sync.runtime_Semrelease", "sync/atomic.LoadInt64", "sync/atomic.LoadUint64"], apart := false }
def LawS0870BSiblingsSaid : Prop := lawS0870BSiblingsRow.holds Yba.pinned (OpenSpec.ofChange lawS0870BSiblingsSpec)

/-- ITS FALSE NEIGHBOUR: 'it returns false'. Refute it at one input. -/
def lawS0870BSiblingsWrong : ChangeSpec := { name := "lawS0870BSiblings", fn := fun _ => fun
  | [d1, d2, d3, d4, d5] => { results := [.lit (.bool false)], args := [d1, d2, d3, d4, d5] }
  | _ => none }
def LawS0870BSiblingsWrongFalsely : Prop := lawS0870BSiblingsRow.holds Yba.pinned (OpenSpec.ofChange lawS0870BSiblingsWrong)

/-- 'nido.LawS0870CAllClosed': WHATEVER THE INPUT: true; the input reads as it did. -/
def lawS0870CAllClosedSpec : ChangeSpec := { name := "lawS0870CAllClosed", fn := fun _ => fun
  | [d] => { results := [.lit (.bool true)], args := [d] }
  | _ => none }
def lawS0870CAllClosedRow : OpenClaim := { program := "ybulkqzm", sum := "933bc220d8bcdea97a0b8ae3085af124ee4347ed028a9ecd399b36372d3d3ccc", func := "example.com/nido/nido.LawS0870CAllClosed", spec := "lawS0870CAllClosed", inPlace := ["(*internal/sync.Mutex).Lock", "internal/race.Disable", "sync/atomic.CompareAndSwapInt32", "internal/race.Enable", "internal/race.Acquire", "(*internal/sync.Mutex).lockSlow", "internal/sync.runtime_canSpin", "internal/sync.runtime_doSpin", "internal/sync.throw", "internal/sync.runtime_nanotime", "internal/sync.runtime_SemacquireMutex", "sync/atomic.AddInt32", "(*internal/sync.Mutex).Unlock", "internal/race.ReleaseMerge", "(*internal/sync.Mutex).unlockSlow", "internal/sync.fatal", "internal/sync.runtime_Semrelease"], apart := false }
def LawS0870CAllClosedSaid : Prop := lawS0870CAllClosedRow.holds Yba.pinned (OpenSpec.ofChange lawS0870CAllClosedSpec)

/-- ITS FALSE NEIGHBOUR: 'it returns false'. Refute it at one input. -/
def lawS0870CAllClosedWrong : ChangeSpec := { name := "lawS0870CAllClosed", fn := fun _ => fun
  | [d] => { results := [.lit (.bool false)], args := [d] }
  | _ => none }
def LawS0870CAllClosedWrongFalsely : Prop := lawS0870CAllClosedRow.holds Yba.pinned (OpenSpec.ofChange lawS0870CAllClosedWrong)

end Rows
end Go.Proofs.Ybulkqzm
