/- Walks and lemmas for the laws of this seat. -/
import Derived.Test.YtgdgklhfakplhaaGreatDoorProg
import Derived.WalkKit
import Derived.WalkSpells
import Derived.WalkLawsBesides
import Derived.KernelRfl
import Derived.Handy
namespace Go.Proofs.YtgdgklhfakplhaaGreatDoor
open Go.RowKit
theorem ta_119_119 (w : World) (v : Value) : (Instr.typeAssert (.iface 70 v) 53 70 true).run Tryz.prog w = .ok (.tuple #[v, .bool true]) w := by kernel_rfl
theorem ta_119_122 (w : World) (v : Value) : (Instr.typeAssert (.iface 70 v) 53 73 true).run Tryz.prog w = .ok (.tuple #[.agg #[.pointer none], .bool false]) w := by kernel_rfl
theorem ta_119_132 (w : World) (v : Value) : (Instr.typeAssert (.iface 70 v) 53 83 true).run Tryz.prog w = .ok (.tuple #[.agg #[.pointer none], .bool false]) w := by kernel_rfl
theorem ta_119_135 (w : World) (v : Value) : (Instr.typeAssert (.iface 70 v) 53 86 true).run Tryz.prog w = .ok (.tuple #[.agg #[.pointer none], .bool false]) w := by kernel_rfl
theorem ta_119_137 (w : World) (v : Value) : (Instr.typeAssert (.iface 70 v) 53 88 true).run Tryz.prog w = .ok (.tuple #[.agg #[], .bool false]) w := by kernel_rfl
theorem ta_119_165 (w : World) (v : Value) : (Instr.typeAssert (.iface 70 v) 53 138 true).run Tryz.prog w = .ok (.tuple #[.bool false, .bool false]) w := by kernel_rfl
theorem ta_119_178 (w : World) (v : Value) : (Instr.typeAssert (.iface 70 v) 53 166 true).run Tryz.prog w = .ok (.tuple #[.agg #[.nilIface, .nilIface], .bool false]) w := by kernel_rfl
theorem ta_119_180 (w : World) (v : Value) : (Instr.typeAssert (.iface 70 v) 53 139 true).run Tryz.prog w = .ok (.tuple #[.pointer none, .bool false]) w := by kernel_rfl
theorem ta1_119 (w : World) (v : Value) : (Instr.typeAssert (.iface 70 v) 53 70 false).run Tryz.prog w = .ok v w := by kernel_rfl
theorem ta_122_119 (w : World) (v : Value) : (Instr.typeAssert (.iface 73 v) 53 70 true).run Tryz.prog w = .ok (.tuple #[.int .i64 0, .bool false]) w := by kernel_rfl
theorem ta_122_122 (w : World) (v : Value) : (Instr.typeAssert (.iface 73 v) 53 73 true).run Tryz.prog w = .ok (.tuple #[v, .bool true]) w := by kernel_rfl
theorem ta_122_132 (w : World) (v : Value) : (Instr.typeAssert (.iface 73 v) 53 83 true).run Tryz.prog w = .ok (.tuple #[.agg #[.pointer none], .bool false]) w := by kernel_rfl
theorem ta_122_135 (w : World) (v : Value) : (Instr.typeAssert (.iface 73 v) 53 86 true).run Tryz.prog w = .ok (.tuple #[.agg #[.pointer none], .bool false]) w := by kernel_rfl
theorem ta_122_137 (w : World) (v : Value) : (Instr.typeAssert (.iface 73 v) 53 88 true).run Tryz.prog w = .ok (.tuple #[.agg #[], .bool false]) w := by kernel_rfl
theorem ta_122_165 (w : World) (v : Value) : (Instr.typeAssert (.iface 73 v) 53 138 true).run Tryz.prog w = .ok (.tuple #[.bool false, .bool false]) w := by kernel_rfl
theorem ta_122_178 (w : World) (v : Value) : (Instr.typeAssert (.iface 73 v) 53 166 true).run Tryz.prog w = .ok (.tuple #[.agg #[.nilIface, .nilIface], .bool false]) w := by kernel_rfl
theorem ta_122_180 (w : World) (v : Value) : (Instr.typeAssert (.iface 73 v) 53 139 true).run Tryz.prog w = .ok (.tuple #[.pointer none, .bool false]) w := by kernel_rfl
theorem ta1_122 (w : World) (v : Value) : (Instr.typeAssert (.iface 73 v) 53 73 false).run Tryz.prog w = .ok v w := by kernel_rfl
theorem ta_132_119 (w : World) (v : Value) : (Instr.typeAssert (.iface 83 v) 53 70 true).run Tryz.prog w = .ok (.tuple #[.int .i64 0, .bool false]) w := by kernel_rfl
theorem ta_132_122 (w : World) (v : Value) : (Instr.typeAssert (.iface 83 v) 53 73 true).run Tryz.prog w = .ok (.tuple #[.agg #[.pointer none], .bool false]) w := by kernel_rfl
theorem ta_132_132 (w : World) (v : Value) : (Instr.typeAssert (.iface 83 v) 53 83 true).run Tryz.prog w = .ok (.tuple #[v, .bool true]) w := by kernel_rfl
theorem ta_132_135 (w : World) (v : Value) : (Instr.typeAssert (.iface 83 v) 53 86 true).run Tryz.prog w = .ok (.tuple #[.agg #[.pointer none], .bool false]) w := by kernel_rfl
theorem ta_132_137 (w : World) (v : Value) : (Instr.typeAssert (.iface 83 v) 53 88 true).run Tryz.prog w = .ok (.tuple #[.agg #[], .bool false]) w := by kernel_rfl
theorem ta_132_165 (w : World) (v : Value) : (Instr.typeAssert (.iface 83 v) 53 138 true).run Tryz.prog w = .ok (.tuple #[.bool false, .bool false]) w := by kernel_rfl
theorem ta_132_178 (w : World) (v : Value) : (Instr.typeAssert (.iface 83 v) 53 166 true).run Tryz.prog w = .ok (.tuple #[.agg #[.nilIface, .nilIface], .bool false]) w := by kernel_rfl
theorem ta_132_180 (w : World) (v : Value) : (Instr.typeAssert (.iface 83 v) 53 139 true).run Tryz.prog w = .ok (.tuple #[.pointer none, .bool false]) w := by kernel_rfl
theorem ta1_132 (w : World) (v : Value) : (Instr.typeAssert (.iface 83 v) 53 83 false).run Tryz.prog w = .ok v w := by kernel_rfl
theorem ta_135_119 (w : World) (v : Value) : (Instr.typeAssert (.iface 86 v) 53 70 true).run Tryz.prog w = .ok (.tuple #[.int .i64 0, .bool false]) w := by kernel_rfl
theorem ta_135_122 (w : World) (v : Value) : (Instr.typeAssert (.iface 86 v) 53 73 true).run Tryz.prog w = .ok (.tuple #[.agg #[.pointer none], .bool false]) w := by kernel_rfl
theorem ta_135_132 (w : World) (v : Value) : (Instr.typeAssert (.iface 86 v) 53 83 true).run Tryz.prog w = .ok (.tuple #[.agg #[.pointer none], .bool false]) w := by kernel_rfl
theorem ta_135_135 (w : World) (v : Value) : (Instr.typeAssert (.iface 86 v) 53 86 true).run Tryz.prog w = .ok (.tuple #[v, .bool true]) w := by kernel_rfl
theorem ta_135_137 (w : World) (v : Value) : (Instr.typeAssert (.iface 86 v) 53 88 true).run Tryz.prog w = .ok (.tuple #[.agg #[], .bool false]) w := by kernel_rfl
theorem ta_135_165 (w : World) (v : Value) : (Instr.typeAssert (.iface 86 v) 53 138 true).run Tryz.prog w = .ok (.tuple #[.bool false, .bool false]) w := by kernel_rfl
theorem ta_135_178 (w : World) (v : Value) : (Instr.typeAssert (.iface 86 v) 53 166 true).run Tryz.prog w = .ok (.tuple #[.agg #[.nilIface, .nilIface], .bool false]) w := by kernel_rfl
theorem ta_135_180 (w : World) (v : Value) : (Instr.typeAssert (.iface 86 v) 53 139 true).run Tryz.prog w = .ok (.tuple #[.pointer none, .bool false]) w := by kernel_rfl
theorem ta1_135 (w : World) (v : Value) : (Instr.typeAssert (.iface 86 v) 53 86 false).run Tryz.prog w = .ok v w := by kernel_rfl
theorem ta_137_119 (w : World) (v : Value) : (Instr.typeAssert (.iface 88 v) 53 70 true).run Tryz.prog w = .ok (.tuple #[.int .i64 0, .bool false]) w := by kernel_rfl
theorem ta_137_122 (w : World) (v : Value) : (Instr.typeAssert (.iface 88 v) 53 73 true).run Tryz.prog w = .ok (.tuple #[.agg #[.pointer none], .bool false]) w := by kernel_rfl
theorem ta_137_132 (w : World) (v : Value) : (Instr.typeAssert (.iface 88 v) 53 83 true).run Tryz.prog w = .ok (.tuple #[.agg #[.pointer none], .bool false]) w := by kernel_rfl
theorem ta_137_135 (w : World) (v : Value) : (Instr.typeAssert (.iface 88 v) 53 86 true).run Tryz.prog w = .ok (.tuple #[.agg #[.pointer none], .bool false]) w := by kernel_rfl
theorem ta_137_137 (w : World) (v : Value) : (Instr.typeAssert (.iface 88 v) 53 88 true).run Tryz.prog w = .ok (.tuple #[v, .bool true]) w := by kernel_rfl
theorem ta_137_165 (w : World) (v : Value) : (Instr.typeAssert (.iface 88 v) 53 138 true).run Tryz.prog w = .ok (.tuple #[.bool false, .bool false]) w := by kernel_rfl
theorem ta_137_178 (w : World) (v : Value) : (Instr.typeAssert (.iface 88 v) 53 166 true).run Tryz.prog w = .ok (.tuple #[.agg #[.nilIface, .nilIface], .bool false]) w := by kernel_rfl
theorem ta_137_180 (w : World) (v : Value) : (Instr.typeAssert (.iface 88 v) 53 139 true).run Tryz.prog w = .ok (.tuple #[.pointer none, .bool false]) w := by kernel_rfl
theorem ta1_137 (w : World) (v : Value) : (Instr.typeAssert (.iface 88 v) 53 88 false).run Tryz.prog w = .ok v w := by kernel_rfl
theorem ta_165_119 (w : World) (v : Value) : (Instr.typeAssert (.iface 138 v) 53 70 true).run Tryz.prog w = .ok (.tuple #[.int .i64 0, .bool false]) w := by kernel_rfl
theorem ta_165_122 (w : World) (v : Value) : (Instr.typeAssert (.iface 138 v) 53 73 true).run Tryz.prog w = .ok (.tuple #[.agg #[.pointer none], .bool false]) w := by kernel_rfl
theorem ta_165_132 (w : World) (v : Value) : (Instr.typeAssert (.iface 138 v) 53 83 true).run Tryz.prog w = .ok (.tuple #[.agg #[.pointer none], .bool false]) w := by kernel_rfl
theorem ta_165_135 (w : World) (v : Value) : (Instr.typeAssert (.iface 138 v) 53 86 true).run Tryz.prog w = .ok (.tuple #[.agg #[.pointer none], .bool false]) w := by kernel_rfl
theorem ta_165_137 (w : World) (v : Value) : (Instr.typeAssert (.iface 138 v) 53 88 true).run Tryz.prog w = .ok (.tuple #[.agg #[], .bool false]) w := by kernel_rfl
theorem ta_165_165 (w : World) (v : Value) : (Instr.typeAssert (.iface 138 v) 53 138 true).run Tryz.prog w = .ok (.tuple #[v, .bool true]) w := by kernel_rfl
theorem ta_165_178 (w : World) (v : Value) : (Instr.typeAssert (.iface 138 v) 53 166 true).run Tryz.prog w = .ok (.tuple #[.agg #[.nilIface, .nilIface], .bool false]) w := by kernel_rfl
theorem ta_165_180 (w : World) (v : Value) : (Instr.typeAssert (.iface 138 v) 53 139 true).run Tryz.prog w = .ok (.tuple #[.pointer none, .bool false]) w := by kernel_rfl
theorem ta1_165 (w : World) (v : Value) : (Instr.typeAssert (.iface 138 v) 53 138 false).run Tryz.prog w = .ok v w := by kernel_rfl
theorem ta_178_119 (w : World) (v : Value) : (Instr.typeAssert (.iface 166 v) 53 70 true).run Tryz.prog w = .ok (.tuple #[.int .i64 0, .bool false]) w := by kernel_rfl
theorem ta_178_122 (w : World) (v : Value) : (Instr.typeAssert (.iface 166 v) 53 73 true).run Tryz.prog w = .ok (.tuple #[.agg #[.pointer none], .bool false]) w := by kernel_rfl
theorem ta_178_132 (w : World) (v : Value) : (Instr.typeAssert (.iface 166 v) 53 83 true).run Tryz.prog w = .ok (.tuple #[.agg #[.pointer none], .bool false]) w := by kernel_rfl
theorem ta_178_135 (w : World) (v : Value) : (Instr.typeAssert (.iface 166 v) 53 86 true).run Tryz.prog w = .ok (.tuple #[.agg #[.pointer none], .bool false]) w := by kernel_rfl
theorem ta_178_137 (w : World) (v : Value) : (Instr.typeAssert (.iface 166 v) 53 88 true).run Tryz.prog w = .ok (.tuple #[.agg #[], .bool false]) w := by kernel_rfl
theorem ta_178_165 (w : World) (v : Value) : (Instr.typeAssert (.iface 166 v) 53 138 true).run Tryz.prog w = .ok (.tuple #[.bool false, .bool false]) w := by kernel_rfl
theorem ta_178_178 (w : World) (v : Value) : (Instr.typeAssert (.iface 166 v) 53 166 true).run Tryz.prog w = .ok (.tuple #[v, .bool true]) w := by kernel_rfl
theorem ta_178_180 (w : World) (v : Value) : (Instr.typeAssert (.iface 166 v) 53 139 true).run Tryz.prog w = .ok (.tuple #[.pointer none, .bool false]) w := by kernel_rfl
theorem ta1_178 (w : World) (v : Value) : (Instr.typeAssert (.iface 166 v) 53 166 false).run Tryz.prog w = .ok v w := by kernel_rfl
theorem ta_180_119 (w : World) (v : Value) : (Instr.typeAssert (.iface 139 v) 53 70 true).run Tryz.prog w = .ok (.tuple #[.int .i64 0, .bool false]) w := by kernel_rfl
theorem ta_180_122 (w : World) (v : Value) : (Instr.typeAssert (.iface 139 v) 53 73 true).run Tryz.prog w = .ok (.tuple #[.agg #[.pointer none], .bool false]) w := by kernel_rfl
theorem ta_180_132 (w : World) (v : Value) : (Instr.typeAssert (.iface 139 v) 53 83 true).run Tryz.prog w = .ok (.tuple #[.agg #[.pointer none], .bool false]) w := by kernel_rfl
theorem ta_180_135 (w : World) (v : Value) : (Instr.typeAssert (.iface 139 v) 53 86 true).run Tryz.prog w = .ok (.tuple #[.agg #[.pointer none], .bool false]) w := by kernel_rfl
theorem ta_180_137 (w : World) (v : Value) : (Instr.typeAssert (.iface 139 v) 53 88 true).run Tryz.prog w = .ok (.tuple #[.agg #[], .bool false]) w := by kernel_rfl
theorem ta_180_165 (w : World) (v : Value) : (Instr.typeAssert (.iface 139 v) 53 138 true).run Tryz.prog w = .ok (.tuple #[.bool false, .bool false]) w := by kernel_rfl
theorem ta_180_178 (w : World) (v : Value) : (Instr.typeAssert (.iface 139 v) 53 166 true).run Tryz.prog w = .ok (.tuple #[.agg #[.nilIface, .nilIface], .bool false]) w := by kernel_rfl
theorem ta_180_180 (w : World) (v : Value) : (Instr.typeAssert (.iface 139 v) 53 139 true).run Tryz.prog w = .ok (.tuple #[v, .bool true]) w := by kernel_rfl
theorem ta1_180 (w : World) (v : Value) : (Instr.typeAssert (.iface 139 v) 53 139 false).run Tryz.prog w = .ok v w := by kernel_rfl
end Go.Proofs.YtgdgklhfakplhaaGreatDoor
