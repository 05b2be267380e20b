/-
  The type assertions on the road.
-/
import Derived.Test.Qxb6604447aGreatFmtRd
namespace Go.Proofs.Qxb6604447aGreatFmt
open Go.RowKit Go.Lib

theorem ta27 (x : Value) (w : World) : (Instr.typeAssert (.iface 27 x) 20 27 false).run Tryz.prog w = .ok x w := by kernel_rfl
theorem ta9_yes (s : ByteArray) (w : World) : (Instr.typeAssert (.iface 9 (.string s)) 20 9 true).run Tryz.prog w = .ok (.tuple #[.string s, .bool true]) w := by kernel_rfl
theorem ta9_nil (w : World) : (Instr.typeAssert .nilIface 20 9 true).run Tryz.prog w = .ok (.tuple #[.string ⟨#[]⟩, .bool false]) w := by kernel_rfl
theorem ta9_4 (x : Value) (w : World) : (Instr.typeAssert (.iface 4 x) 20 9 true).run Tryz.prog w = .ok (.tuple #[.string ⟨#[]⟩, .bool false]) w := by kernel_rfl
theorem ta9_74 (x : Value) (w : World) : (Instr.typeAssert (.iface 74 x) 20 9 true).run Tryz.prog w = .ok (.tuple #[.string ⟨#[]⟩, .bool false]) w := by kernel_rfl
theorem ta9_56 (x : Value) (w : World) : (Instr.typeAssert (.iface 56 x) 20 9 true).run Tryz.prog w = .ok (.tuple #[.string ⟨#[]⟩, .bool false]) w := by kernel_rfl
theorem ta9_27 (x : Value) (w : World) : (Instr.typeAssert (.iface 27 x) 20 9 true).run Tryz.prog w = .ok (.tuple #[.string ⟨#[]⟩, .bool false]) w := by kernel_rfl
theorem ta56_yes (x : Value) (w : World) : (Instr.typeAssert (.iface 56 x) 20 56 true).run Tryz.prog w = .ok (.tuple #[x, .bool true]) w := by kernel_rfl
theorem ta56_nil (w : World) : (Instr.typeAssert .nilIface 20 56 true).run Tryz.prog w = .ok (.tuple #[.slice none 0 0, .bool false]) w := by kernel_rfl
theorem ta56_4 (x : Value) (w : World) : (Instr.typeAssert (.iface 4 x) 20 56 true).run Tryz.prog w = .ok (.tuple #[.slice none 0 0, .bool false]) w := by kernel_rfl
theorem ta56_74 (x : Value) (w : World) : (Instr.typeAssert (.iface 74 x) 20 56 true).run Tryz.prog w = .ok (.tuple #[.slice none 0 0, .bool false]) w := by kernel_rfl
theorem ta56_9 (x : Value) (w : World) : (Instr.typeAssert (.iface 9 x) 20 56 true).run Tryz.prog w = .ok (.tuple #[.slice none 0 0, .bool false]) w := by kernel_rfl
theorem ta56_27 (x : Value) (w : World) : (Instr.typeAssert (.iface 27 x) 20 56 true).run Tryz.prog w = .ok (.tuple #[.slice none 0 0, .bool false]) w := by kernel_rfl
end Go.Proofs.Qxb6604447aGreatFmt
