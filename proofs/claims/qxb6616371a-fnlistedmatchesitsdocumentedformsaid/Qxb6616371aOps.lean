/-
  CLOSED FACTS ON THIS PROGRAM's OPERATIONS that the walk wants: type assertions on Content, make of an empty list, a store of a value that is one cell.
-/
import Derived.Test.Qxb6616371aMsg
namespace Go.Proofs.Qxb6616371a
open Go.RowKit

@[go_sem] theorem ta56_nil (w : World) : (Instr.typeAssert .nilIface 25 56 true).run Try.prog w = .ok (.tuple #[.slice none 0 0, .bool false]) w := by kernel_rfl
@[go_sem] theorem ta56_parts (v : Value) (w : World) : (Instr.typeAssert (.iface 56 v) 25 56 true).run Try.prog w = .ok (.tuple #[v, .bool true]) w := by kernel_rfl
@[go_sem] theorem ta56_text (v : Value) (w : World) : (Instr.typeAssert (.iface 57 v) 25 56 true).run Try.prog w = .ok (.tuple #[.slice none 0 0, .bool false]) w := by kernel_rfl
@[go_sem] theorem ta57_nil (w : World) : (Instr.typeAssert .nilIface 25 57 true).run Try.prog w = .ok (.tuple #[.string ⟨#[]⟩, .bool false]) w := by kernel_rfl
@[go_sem] theorem ta57_parts (v : Value) (w : World) : (Instr.typeAssert (.iface 56 v) 25 57 true).run Try.prog w = .ok (.tuple #[.string ⟨#[]⟩, .bool false]) w := by kernel_rfl
@[go_sem] theorem ta57_text (v : Value) (w : World) : (Instr.typeAssert (.iface 57 v) 25 57 true).run Try.prog w = .ok (.tuple #[v, .bool true]) w := by kernel_rfl
@[go_sem] theorem mk56_zero (w : World) : (Instr.makeSlice 56 (.int .i64 0) (.int .i64 0)).run Try.prog w = .ok (.slice (some ⟨w.heap.size, 0, none⟩) 0 0) (w.alloc (.cells #[] 60)) := by kernel_rfl

@[go_sem] theorem run_store_one {P : Program} {w : World} {a : Addr} {m : Mode} {v : Value} (h : v.oneCell' = true) : (store a v m).run P w = stored P w a v m := run_store P w a _ m h

def msgB : ByteArray := ⟨#[109, 101, 115, 115, 97, 103, 101]⟩
def comB : ByteArray := ⟨#[99, 111, 109, 112, 108, 101, 116, 101, 100]⟩
/-- The listed item's type and status. -/
def typeOf (t r : ByteArray) : ByteArray := bif isMsg t r then msgB else t
def statusOf (s : ByteArray) : ByteArray := bif s.toList.isEmpty then comB else s

end Go.Proofs.Qxb6616371a
