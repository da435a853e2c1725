/-
  CLOSED FACTS on the program's type tables: each assertion of sameEdge's switch at each dynamic type that a node has here.
-/
import Derived.Test.YbulkbuxwDoorRows
import Derived.WalkKit
namespace Go.Proofs.YbulkbuxwDoor
theorem as_53_53 (v : Value) (w : World) : (Instr.typeAssert (.iface 53 v) 24 53 true).run Ybad.prog w = .ok (.tuple #[v, .bool true]) w := by kernel_rfl
theorem as_53_47 (v : Value) (w : World) : (Instr.typeAssert (.iface 53 v) 24 47 true).run Ybad.prog w = .ok (.tuple #[.pointer none, .bool false]) w := by kernel_rfl
theorem as_53_52 (v : Value) (w : World) : (Instr.typeAssert (.iface 53 v) 24 52 true).run Ybad.prog w = .ok (.tuple #[.pointer none, .bool false]) w := by kernel_rfl
theorem as_53_74 (v : Value) (w : World) : (Instr.typeAssert (.iface 53 v) 24 74 true).run Ybad.prog w = .ok (.tuple #[.pointer none, .bool false]) w := by kernel_rfl
theorem as_53_40 (v : Value) (w : World) : (Instr.typeAssert (.iface 53 v) 24 40 true).run Ybad.prog w = .ok (.tuple #[.pointer none, .bool false]) w := by kernel_rfl
theorem as_47_53 (v : Value) (w : World) : (Instr.typeAssert (.iface 47 v) 24 53 true).run Ybad.prog w = .ok (.tuple #[.pointer none, .bool false]) w := by kernel_rfl
theorem as_47_47 (v : Value) (w : World) : (Instr.typeAssert (.iface 47 v) 24 47 true).run Ybad.prog w = .ok (.tuple #[v, .bool true]) w := by kernel_rfl
theorem as_47_52 (v : Value) (w : World) : (Instr.typeAssert (.iface 47 v) 24 52 true).run Ybad.prog w = .ok (.tuple #[.pointer none, .bool false]) w := by kernel_rfl
theorem as_47_74 (v : Value) (w : World) : (Instr.typeAssert (.iface 47 v) 24 74 true).run Ybad.prog w = .ok (.tuple #[.pointer none, .bool false]) w := by kernel_rfl
theorem as_47_40 (v : Value) (w : World) : (Instr.typeAssert (.iface 47 v) 24 40 true).run Ybad.prog w = .ok (.tuple #[.pointer none, .bool false]) w := by kernel_rfl
theorem as_52_53 (v : Value) (w : World) : (Instr.typeAssert (.iface 52 v) 24 53 true).run Ybad.prog w = .ok (.tuple #[.pointer none, .bool false]) w := by kernel_rfl
theorem as_52_47 (v : Value) (w : World) : (Instr.typeAssert (.iface 52 v) 24 47 true).run Ybad.prog w = .ok (.tuple #[.pointer none, .bool false]) w := by kernel_rfl
theorem as_52_52 (v : Value) (w : World) : (Instr.typeAssert (.iface 52 v) 24 52 true).run Ybad.prog w = .ok (.tuple #[v, .bool true]) w := by kernel_rfl
theorem as_52_74 (v : Value) (w : World) : (Instr.typeAssert (.iface 52 v) 24 74 true).run Ybad.prog w = .ok (.tuple #[.pointer none, .bool false]) w := by kernel_rfl
theorem as_52_40 (v : Value) (w : World) : (Instr.typeAssert (.iface 52 v) 24 40 true).run Ybad.prog w = .ok (.tuple #[.pointer none, .bool false]) w := by kernel_rfl
theorem as_74_53 (v : Value) (w : World) : (Instr.typeAssert (.iface 74 v) 24 53 true).run Ybad.prog w = .ok (.tuple #[.pointer none, .bool false]) w := by kernel_rfl
theorem as_74_47 (v : Value) (w : World) : (Instr.typeAssert (.iface 74 v) 24 47 true).run Ybad.prog w = .ok (.tuple #[.pointer none, .bool false]) w := by kernel_rfl
theorem as_74_52 (v : Value) (w : World) : (Instr.typeAssert (.iface 74 v) 24 52 true).run Ybad.prog w = .ok (.tuple #[.pointer none, .bool false]) w := by kernel_rfl
theorem as_74_74 (v : Value) (w : World) : (Instr.typeAssert (.iface 74 v) 24 74 true).run Ybad.prog w = .ok (.tuple #[v, .bool true]) w := by kernel_rfl
theorem as_74_40 (v : Value) (w : World) : (Instr.typeAssert (.iface 74 v) 24 40 true).run Ybad.prog w = .ok (.tuple #[.pointer none, .bool false]) w := by kernel_rfl
theorem as_40_53 (v : Value) (w : World) : (Instr.typeAssert (.iface 40 v) 24 53 true).run Ybad.prog w = .ok (.tuple #[.pointer none, .bool false]) w := by kernel_rfl
theorem as_40_47 (v : Value) (w : World) : (Instr.typeAssert (.iface 40 v) 24 47 true).run Ybad.prog w = .ok (.tuple #[.pointer none, .bool false]) w := by kernel_rfl
theorem as_40_52 (v : Value) (w : World) : (Instr.typeAssert (.iface 40 v) 24 52 true).run Ybad.prog w = .ok (.tuple #[.pointer none, .bool false]) w := by kernel_rfl
theorem as_40_74 (v : Value) (w : World) : (Instr.typeAssert (.iface 40 v) 24 74 true).run Ybad.prog w = .ok (.tuple #[.pointer none, .bool false]) w := by kernel_rfl
theorem as_40_40 (v : Value) (w : World) : (Instr.typeAssert (.iface 40 v) 24 40 true).run Ybad.prog w = .ok (.tuple #[v, .bool true]) w := by kernel_rfl
end Go.Proofs.YbulkbuxwDoor
