import Derived.Test.YbulkqxwFmtAs8
import Derived.Stop.CallBack
import Derived.Stop.IfaceNil
import Derived.WalkSpells
import Derived.BigCall
namespace Go.Proofs.YbulkqxwFmt
open Go.RowKit Go.Extern.Stop Go.Stop Go.Extern

/-! Closed facts on the stop, at the one format. -/
theorem Ybaf.call14 (args : Array Value) (w : World) : (callFunc 14 args).run Ybaf.prog w = (FmtCalls.sprintf #[9, 57] #[9] args).run Ybaf.prog w :=
  run_callFunc_next Ybaf.func14 (by kernel_rfl) (by kernel_rfl) (by kernel_rfl) args w
theorem Ybaf.guard (name : String) (w : World) : (FmtStop.guard name).run Ybaf.prog w = .ok () w := by kernel_rfl
theorem Ybaf.nextTurns : Extern.next FmtCalls.turnsRow = some (FmtCalls.begun #[] #[]) := by kernel_rfl
theorem Ybaf.nextReturned : Extern.next FmtCalls.returnedRow = some (FmtCalls.returned #[] #[]) := by kernel_rfl
theorem Ybaf.fmt0 : FmtStop.printed? ⟨#[37, 115, 58, 32, 37, 118]⟩ 2 = some [(0, 115, false), (1, 118, false)] := by kernel_rfl
def Ybaf.shape9 : List UInt8 := [12, 6, 0, 0, 0, 0, 0, 0, 0, 115, 116, 114, 105, 110, 103]
theorem Ybaf.act9_115 (name : String) (x : Value) (w : World) : (FmtCalls.act name false 115 false (.iface 9 x)).run Ybaf.prog w = .ok (.closed false) w := by kernel_rfl
theorem Ybaf.op9_115 (name : String) (x : ByteArray) (w : World) : (FmtStop.operand name false 115 false (.iface 9 (.string x))).run Ybaf.prog w = .ok (Ybaf.shape9, FmtStop.pack x.data.toList) w := by kernel_rfl
theorem Ybaf.act31_118 (name : String) (x : Value) (w : World) : (FmtCalls.act name false 118 false (.iface 31 x)).run Ybaf.prog w = .ok (.call true) w := by kernel_rfl
theorem Ybaf.act38_118 (name : String) (x : Value) (w : World) : (FmtCalls.act name false 118 false (.iface 38 x)).run Ybaf.prog w = .ok (.call true) w := by kernel_rfl
theorem Ybaf.invokeError31 (x : Value) (w : World) : (invoke (.fn (.method "Error") #[]) #[.iface 31 x]).run Ybaf.prog w = .ok (.enter 36 #[x]) w := by kernel_rfl
theorem Ybaf.invokeError38 (x : Value) (w : World) : (invoke (.fn (.method "Error") #[]) #[.iface 38 x]).run Ybaf.prog w = .ok (.enter 38 #[x]) w := by kernel_rfl
def Ybaf.spelt31 : String := String.ofList ['*', 'c', 'l', 'i', '.', 'U', 's', 'a', 'g', 'e', 'E', 'r', 'r', 'o', 'r']
def Ybaf.spelt38 : String := String.ofList ['*', 'c', 'l', 'i', '.', 'z', 'z', 's', '0', '8', '6', '7', 'c', 'w', 'r', 'a', 'p']
theorem Ybaf.str31 (w : World) : (typeStr 31).run Ybaf.prog w = .ok Ybaf.spelt31 w := by kernel_rfl
theorem Ybaf.str38 (w : World) : (typeStr 38).run Ybaf.prog w = .ok Ybaf.spelt38 w := by kernel_rfl

theorem error36 (a : Addr) (s : ByteArray) (w : World) (h : w.cell? a = some (.string s)) :
    Calls Ybaf.prog 36 #[.pointer (some a)] w fun e w' => e = .returned (.string s) ∧ w' = w := by
  go_enter Ybaf.func36, Ybaf.ntmps36
  go_wp2
  go_ret
  exact ⟨rfl, rfl⟩

theorem error38 (v : Value) (w : World) :
    Calls Ybaf.prog 38 #[v] w fun e w' => e = .returned (.string ⟨#[119, 114, 97, 112, 112, 101, 100]⟩) ∧ w' = w := by
  go_enter Ybaf.func38, Ybaf.ntmps38
  go_wp2
  go_ret
  exact ⟨rfl, rfl⟩

attribute [local go_sem] Ybaf.call14 Ybaf.guard Ybaf.fmt0 Ybaf.act9_115 Ybaf.op9_115 Ybaf.act31_118 Ybaf.act38_118 Ybaf.str31 Ybaf.str38

set_option maxHeartbeats 1600000 in
theorem usage9_bare (F : Interp) (c s : ByteArray) (a : Addr) (blk : Nat) (w : World) (hF : F.answers w.tape)
    (hc0 : w.cell? ⟨blk, 0, none⟩ = some (.iface 9 (.string c))) (hc1 : w.cell? ⟨blk, 1, none⟩ = some (.iface 31 (.pointer (some a)))) (ha : w.cell? a = some (.string s)) :
    Calls Ybaf.prog 9 #[.string ⟨#[37, 115, 58, 32, 37, 118]⟩, .slice (some ⟨blk, 0, none⟩) 2 2] w fun e w' =>
      ∃ x, e = .returned (.iface 31 (.pointer (some ⟨w.heap.size, 0, none⟩))) ∧ w' = (w.alloc (.cells #[.string x] 32)).drew := by
  have hF' := answers_open hF
  go_enter Ybaf.func9, Ybaf.ntmps9
  go_wp2
  apply rows_call Ybaf.nextTurns
  case hr =>
    go_simp
    exact ⟨⟨rfl, rfl, rfl⟩, rfl⟩
  case hi => exact Ybaf.invokeError31 _ _
  case hc =>
    refine (error36 a s _ ha).mono fun e w₃ ⟨he, hx⟩ => ?_
    subst he; subst hx
    apply rows_value Ybaf.nextReturned
    case hr =>
      go_simp
      exact ⟨rfl, rfl⟩
    case h =>
      go_wp2
      go_ret
      exact ⟨rfl, _, rfl⟩

set_option maxHeartbeats 1600000 in
theorem usage9_wrapped (F : Interp) (c : ByteArray) (a : Addr) (blk : Nat) (w : World) (hF : F.answers w.tape)
    (hc0 : w.cell? ⟨blk, 0, none⟩ = some (.iface 9 (.string c))) (hc1 : w.cell? ⟨blk, 1, none⟩ = some (.iface 38 (.pointer (some a)))) :
    Calls Ybaf.prog 9 #[.string ⟨#[37, 115, 58, 32, 37, 118]⟩, .slice (some ⟨blk, 0, none⟩) 2 2] w fun e w' =>
      ∃ x, e = .returned (.iface 31 (.pointer (some ⟨w.heap.size, 0, none⟩))) ∧ w' = (w.alloc (.cells #[.string x] 32)).drew := by
  have hF' := answers_open hF
  go_enter Ybaf.func9, Ybaf.ntmps9
  go_wp2
  apply rows_call Ybaf.nextTurns
  case hr =>
    go_simp
    exact ⟨⟨rfl, rfl, rfl⟩, rfl⟩
  case hi => exact Ybaf.invokeError38 _ _
  case hc =>
    refine (error38 _ _).mono fun e w₃ ⟨he, hx⟩ => ?_
    subst he; subst hx
    apply rows_value Ybaf.nextReturned
    case hr =>
      go_simp
      exact ⟨rfl, rfl⟩
    case h =>
      go_wp2
      go_ret
      exact ⟨rfl, _, rfl⟩
end Go.Proofs.YbulkqxwFmt
