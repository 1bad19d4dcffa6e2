import Derived.Test.YbulkqzmProg
import Derived.Conc.MuLib
import Derived.KernelRfl
namespace Go.Proofs.Ybulkqzm
abbrev Yba.muLink : Go.Conc.Locks.MuLink := { lock := 14, unlock := 15, ilock := 21, iunlock := 22, lockSlow := 29, unlockSlow := 32, disable := 25, enable := 27, acquire := 28, relMerge := 30, cas32 := 26, add32 := 31, tMutex := 62, tIMutex := 60, tPMutex := 95, tPIMutex := 97, tPI32 := 99, tUP := 65, tNoCopy := 58, tU32 := 44 }
theorem Yba.muLib : Go.Conc.Locks.MuLib Yba.prog Yba.muLink :=
  ⟨Yba.func14, Yba.func15, Yba.func21, Yba.func22, Yba.func25, Yba.func27, Yba.func28, Yba.func30, Yba.func26, Yba.func31, Yba.underlying60, Yba.runUnderlying60, Yba.sizeOf60, Yba.isAgg60, Yba.zeroValue60, Yba.underlying62, Yba.runUnderlying62, Yba.sizeOf62, Yba.isAgg62, Yba.zeroValue62, Yba.underlying95, Yba.runUnderlying95, Yba.sizeOf95, Yba.isAgg95, Yba.zeroValue95, Yba.underlying97, Yba.runUnderlying97, Yba.sizeOf97, Yba.isAgg97, Yba.zeroValue97, Yba.underlying99, Yba.runUnderlying99, Yba.sizeOf99, Yba.isAgg99, Yba.zeroValue99, Yba.underlying65, Yba.runUnderlying65, Yba.sizeOf65, Yba.isAgg65, Yba.zeroValue65, Yba.underlying58, Yba.runUnderlying58, Yba.sizeOf58, Yba.isAgg58, Yba.zeroValue58, Yba.underlying21, Yba.runUnderlying21, Yba.sizeOf21, Yba.isAgg21, Yba.zeroValue21, (by kernel_rfl)⟩
end Go.Proofs.Ybulkqzm
