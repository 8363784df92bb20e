/-
  CLOSED FACTS FOR WALKS OVER fmt.Sprintf's STOP in this dump (function 11: a stop that calls its operands' methods; no operand here has one), each by the kernel; and decodeErrorf by its contract.
-/
import Derived.Test.YbulkbbrqFmtRows
import Derived.Stop.CallBack
import Derived.Stop.IfaceNil
import Derived.WalkKit
import Derived.WalkSpells
namespace Go.Proofs.YbulkbbrqFmt
open Go.Extern.Stop Go.Stop Go.Extern Go.RowKit

@[go_sem] theorem call11 (args : Array Value) (w : World) : (callFunc 11 args).run Ybaf.prog w = (FmtCalls.sprintf #[9, 46] #[9] args).run Ybaf.prog w :=
  run_callFunc_next Ybaf.func11 (by kernel_rfl) (by kernel_rfl) (by kernel_rfl) args w
@[go_sem] theorem guardF (name : String) (w : World) : (FmtStop.guard name).run Ybaf.prog w = .ok () w := by kernel_rfl
theorem nextTurns : Extern.next FmtCalls.turnsRow = some (FmtCalls.begun #[] #[]) := by kernel_rfl
theorem nextReturned : Extern.next FmtCalls.returnedRow = some (FmtCalls.returned #[] #[]) := by kernel_rfl
def shape3 : List UInt8 := [5, 3, 0, 0, 0, 0, 0, 0, 0, 105, 110, 116]
@[go_sem] theorem act3_100 (name : String) (x : Value) (w : World) : (FmtCalls.act name false 100 false (.iface 3 x)).run Ybaf.prog w = .ok (.closed false) w := by kernel_rfl
@[go_sem] theorem op3_100 (name : String) (x : Int) (w : World) : (FmtStop.operand name false 100 false (.iface 3 (.int .i64 x))).run Ybaf.prog w = .ok (shape3, Go.Extern.Stop.digits 8 (x % 2 ^ 64).toNat) w := by kernel_rfl
@[go_sem] theorem act5_100 (name : String) (x : Value) (w : World) : (FmtCalls.act name false 100 false (.iface 5 x)).run Ybaf.prog w = .ok (.closed false) w := by kernel_rfl
@[go_sem] theorem act5_88 (name : String) (x : Value) (w : World) : (FmtCalls.act name false 88 false (.iface 5 x)).run Ybaf.prog w = .ok (.closed false) w := by kernel_rfl
def shape5 : List UInt8 := [6, 5, 0, 0, 0, 0, 0, 0, 0, 117, 105, 110, 116, 56]
@[go_sem] theorem op5_100 (name : String) (x : Int) (w : World) : (FmtStop.operand name false 100 false (.iface 5 (.int .u8 x))).run Ybaf.prog w = .ok (shape5, Go.Extern.Stop.digits 8 (x % 2 ^ 64).toNat) w := by kernel_rfl
@[go_sem] theorem op5_88 (name : String) (x : Int) (w : World) : (FmtStop.operand name false 88 false (.iface 5 (.int .u8 x))).run Ybaf.prog w = .ok (shape5, Go.Extern.Stop.digits 8 (x % 2 ^ 64).toNat) w := by kernel_rfl

/-- What decodeErrorf gives: a new DecodeError of that offset, its reason some string. -/
def ErrMade (off : Int) (w : World) (e : Ending) (w' : World) : Prop :=
  ∃ s : ByteArray, e = .returned (.pointer (some ⟨w.heap.size, 0, none⟩)) ∧ w' = (w.alloc (.cells #[.int .i64 off, .string s] 39)).drew

theorem errorf0 (off : Int) (fm : ByteArray) (w : World) (hp : FmtStop.printed? fm 0 = some []) :
    Calls Ybaf.prog 10 #[.int .i64 off, .string fm, .slice none 0 0] w (ErrMade off w) := by
  go_enter Ybaf.func10, Ybaf.ntmps10
  go_wp2
  apply rows_value nextTurns
  case hr =>
    go_simp
    exact ⟨rfl, rfl⟩
  case h =>
    go_wp2
    go_ret
    exact ⟨_, rfl, rfl⟩
theorem errorf1 (off : Int) (fm : ByteArray) (w : World) (g : Nat) (x : Int) (c0 : w.cell? ⟨g, 0, none⟩ = some (.iface 5 (.int .u8 x))) (hp : FmtStop.printed? fm 1 = some [(0, 88, false)]) :
    Calls Ybaf.prog 10 #[.int .i64 off, .string fm, .slice (some ⟨g, 0, none⟩) 1 1] w (ErrMade off w) := by
  go_enter Ybaf.func10, Ybaf.ntmps10
  go_wp2
  apply rows_value nextTurns
  case hr =>
    go_simp
    exact ⟨rfl, rfl⟩
  case h =>
    go_wp2
    go_ret
    exact ⟨_, rfl, rfl⟩
theorem errorf2a (off : Int) (fm : ByteArray) (w : World) (g : Nat) (x y : Int) (c0 : w.cell? ⟨g, 0, none⟩ = some (.iface 3 (.int .i64 x))) (c1 : w.cell? ⟨g, 1, none⟩ = some (.iface 3 (.int .i64 y)))
    (hp : FmtStop.printed? fm 2 = some [(0, 100, false), (1, 100, false)]) :
    Calls Ybaf.prog 10 #[.int .i64 off, .string fm, .slice (some ⟨g, 0, none⟩) 2 2] w (ErrMade off w) := by
  go_enter Ybaf.func10, Ybaf.ntmps10
  go_wp2
  apply rows_value nextTurns
  case hr =>
    go_simp
    exact ⟨rfl, rfl⟩
  case h =>
    go_wp2
    go_ret
    exact ⟨_, rfl, rfl⟩
theorem errorf2b (off : Int) (fm : ByteArray) (w : World) (g : Nat) (x y : Int) (c0 : w.cell? ⟨g, 0, none⟩ = some (.iface 3 (.int .i64 x))) (c1 : w.cell? ⟨g, 1, none⟩ = some (.iface 5 (.int .u8 y)))
    (hp : FmtStop.printed? fm 2 = some [(0, 100, false), (1, 100, false)]) :
    Calls Ybaf.prog 10 #[.int .i64 off, .string fm, .slice (some ⟨g, 0, none⟩) 2 2] w (ErrMade off w) := by
  go_enter Ybaf.func10, Ybaf.ntmps10
  go_wp2
  apply rows_value nextTurns
  case hr =>
    go_simp
    exact ⟨rfl, rfl⟩
  case h =>
    go_wp2
    go_ret
    exact ⟨_, rfl, rfl⟩
theorem errorf3 (off : Int) (fm : ByteArray) (w : World) (g : Nat) (x y z : Int) (c0 : w.cell? ⟨g, 0, none⟩ = some (.iface 5 (.int .u8 x))) (c1 : w.cell? ⟨g, 1, none⟩ = some (.iface 3 (.int .i64 y)))
    (c2 : w.cell? ⟨g, 2, none⟩ = some (.iface 3 (.int .i64 z))) (hp : FmtStop.printed? fm 3 = some [(0, 88, false), (1, 100, false), (2, 100, false)]) :
    Calls Ybaf.prog 10 #[.int .i64 off, .string fm, .slice (some ⟨g, 0, none⟩) 3 3] w (ErrMade off w) := by
  go_enter Ybaf.func10, Ybaf.ntmps10
  go_wp2
  apply rows_value nextTurns
  case hr =>
    go_simp
    exact ⟨rfl, rfl⟩
  case h =>
    go_wp2
    go_ret
    exact ⟨_, rfl, rfl⟩
end Go.Proofs.YbulkbbrqFmt
