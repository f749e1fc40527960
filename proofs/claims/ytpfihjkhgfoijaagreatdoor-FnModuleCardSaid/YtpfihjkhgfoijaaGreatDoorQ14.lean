/- Type assertions and methods of starlark's values: one line a fact. -/
import Derived.Stop.Asserts
import Derived.Test.YtpfihjkhgfoijaaGreatDoorQ09
set_option linter.unusedVariables false
namespace Go.Proofs.YtpfihjkhgfoijaaGreatDoor
open Go.RowKit

theorem as121_121 (v : Value) (w : World) : (Instr.typeAssert (.iface 121 v) 71 121 true).run Tryz.prog w = .ok (.tuple #[v, .bool true]) w := by kernel_rfl
theorem as121_121f (v : Value) (w : World) : (Instr.typeAssert (.iface 121 v) 71 121 false).run Tryz.prog w = .ok v w := by kernel_rfl
theorem as121_77 (v : Value) (w : World) : (Instr.typeAssert (.iface 121 v) 71 77 true).run Tryz.prog w = .ok (.tuple #[.bool false, .bool false]) w := by kernel_rfl
theorem as121_126 (v : Value) (w : World) : (Instr.typeAssert (.iface 121 v) 71 126 true).run Tryz.prog w = .ok (.tuple #[.agg #[.int .i64 0, .pointer none], .bool false]) w := by kernel_rfl
theorem as121_129 (v : Value) (w : World) : (Instr.typeAssert (.iface 121 v) 71 129 true).run Tryz.prog w = .ok (.tuple #[.float .f64 0, .bool false]) w := by kernel_rfl
theorem as121_131 (v : Value) (w : World) : (Instr.typeAssert (.iface 121 v) 71 131 true).run Tryz.prog w = .ok (.tuple #[.string ⟨#[]⟩, .bool false]) w := by kernel_rfl
theorem as121_132 (v : Value) (w : World) : (Instr.typeAssert (.iface 121 v) 71 132 true).run Tryz.prog w = .ok (.tuple #[.string ⟨#[]⟩, .bool false]) w := by kernel_rfl
theorem as121_112 (v : Value) (w : World) : (Instr.typeAssert (.iface 121 v) 71 112 true).run Tryz.prog w = .ok (.tuple #[.pointer none, .bool false]) w := by kernel_rfl
theorem as121_114 (v : Value) (w : World) : (Instr.typeAssert (.iface 121 v) 71 114 true).run Tryz.prog w = .ok (.tuple #[.slice none 0 0, .bool false]) w := by kernel_rfl
theorem as121_115 (v : Value) (w : World) : (Instr.typeAssert (.iface 121 v) 71 115 true).run Tryz.prog w = .ok (.tuple #[.pointer none, .bool false]) w := by kernel_rfl
theorem as121_118 (v : Value) (w : World) : (Instr.typeAssert (.iface 121 v) 71 118 true).run Tryz.prog w = .ok (.tuple #[.pointer none, .bool false]) w := by kernel_rfl
theorem as77_121 (v : Value) (w : World) : (Instr.typeAssert (.iface 77 v) 71 121 true).run Tryz.prog w = .ok (.tuple #[.int .u8 0, .bool false]) w := by kernel_rfl
theorem as77_77 (v : Value) (w : World) : (Instr.typeAssert (.iface 77 v) 71 77 true).run Tryz.prog w = .ok (.tuple #[v, .bool true]) w := by kernel_rfl
theorem as77_77f (v : Value) (w : World) : (Instr.typeAssert (.iface 77 v) 71 77 false).run Tryz.prog w = .ok v w := by kernel_rfl
theorem as77_126 (v : Value) (w : World) : (Instr.typeAssert (.iface 77 v) 71 126 true).run Tryz.prog w = .ok (.tuple #[.agg #[.int .i64 0, .pointer none], .bool false]) w := by kernel_rfl
theorem as77_129 (v : Value) (w : World) : (Instr.typeAssert (.iface 77 v) 71 129 true).run Tryz.prog w = .ok (.tuple #[.float .f64 0, .bool false]) w := by kernel_rfl
theorem as77_131 (v : Value) (w : World) : (Instr.typeAssert (.iface 77 v) 71 131 true).run Tryz.prog w = .ok (.tuple #[.string ⟨#[]⟩, .bool false]) w := by kernel_rfl
theorem as77_132 (v : Value) (w : World) : (Instr.typeAssert (.iface 77 v) 71 132 true).run Tryz.prog w = .ok (.tuple #[.string ⟨#[]⟩, .bool false]) w := by kernel_rfl
theorem as77_112 (v : Value) (w : World) : (Instr.typeAssert (.iface 77 v) 71 112 true).run Tryz.prog w = .ok (.tuple #[.pointer none, .bool false]) w := by kernel_rfl
theorem as77_114 (v : Value) (w : World) : (Instr.typeAssert (.iface 77 v) 71 114 true).run Tryz.prog w = .ok (.tuple #[.slice none 0 0, .bool false]) w := by kernel_rfl
theorem as77_115 (v : Value) (w : World) : (Instr.typeAssert (.iface 77 v) 71 115 true).run Tryz.prog w = .ok (.tuple #[.pointer none, .bool false]) w := by kernel_rfl
theorem as77_118 (v : Value) (w : World) : (Instr.typeAssert (.iface 77 v) 71 118 true).run Tryz.prog w = .ok (.tuple #[.pointer none, .bool false]) w := by kernel_rfl
theorem as126_121 (v : Value) (w : World) : (Instr.typeAssert (.iface 126 v) 71 121 true).run Tryz.prog w = .ok (.tuple #[.int .u8 0, .bool false]) w := by kernel_rfl
theorem as126_77 (v : Value) (w : World) : (Instr.typeAssert (.iface 126 v) 71 77 true).run Tryz.prog w = .ok (.tuple #[.bool false, .bool false]) w := by kernel_rfl
theorem as126_126 (v : Value) (w : World) : (Instr.typeAssert (.iface 126 v) 71 126 true).run Tryz.prog w = .ok (.tuple #[v, .bool true]) w := by kernel_rfl
theorem as126_126f (v : Value) (w : World) : (Instr.typeAssert (.iface 126 v) 71 126 false).run Tryz.prog w = .ok v w := by kernel_rfl
theorem as126_129 (v : Value) (w : World) : (Instr.typeAssert (.iface 126 v) 71 129 true).run Tryz.prog w = .ok (.tuple #[.float .f64 0, .bool false]) w := by kernel_rfl
theorem as126_131 (v : Value) (w : World) : (Instr.typeAssert (.iface 126 v) 71 131 true).run Tryz.prog w = .ok (.tuple #[.string ⟨#[]⟩, .bool false]) w := by kernel_rfl
theorem as126_132 (v : Value) (w : World) : (Instr.typeAssert (.iface 126 v) 71 132 true).run Tryz.prog w = .ok (.tuple #[.string ⟨#[]⟩, .bool false]) w := by kernel_rfl
theorem as126_112 (v : Value) (w : World) : (Instr.typeAssert (.iface 126 v) 71 112 true).run Tryz.prog w = .ok (.tuple #[.pointer none, .bool false]) w := by kernel_rfl
theorem as126_114 (v : Value) (w : World) : (Instr.typeAssert (.iface 126 v) 71 114 true).run Tryz.prog w = .ok (.tuple #[.slice none 0 0, .bool false]) w := by kernel_rfl
theorem as126_115 (v : Value) (w : World) : (Instr.typeAssert (.iface 126 v) 71 115 true).run Tryz.prog w = .ok (.tuple #[.pointer none, .bool false]) w := by kernel_rfl
theorem as126_118 (v : Value) (w : World) : (Instr.typeAssert (.iface 126 v) 71 118 true).run Tryz.prog w = .ok (.tuple #[.pointer none, .bool false]) w := by kernel_rfl
theorem as129_121 (v : Value) (w : World) : (Instr.typeAssert (.iface 129 v) 71 121 true).run Tryz.prog w = .ok (.tuple #[.int .u8 0, .bool false]) w := by kernel_rfl
theorem as129_77 (v : Value) (w : World) : (Instr.typeAssert (.iface 129 v) 71 77 true).run Tryz.prog w = .ok (.tuple #[.bool false, .bool false]) w := by kernel_rfl
theorem as129_126 (v : Value) (w : World) : (Instr.typeAssert (.iface 129 v) 71 126 true).run Tryz.prog w = .ok (.tuple #[.agg #[.int .i64 0, .pointer none], .bool false]) w := by kernel_rfl
theorem as129_129 (v : Value) (w : World) : (Instr.typeAssert (.iface 129 v) 71 129 true).run Tryz.prog w = .ok (.tuple #[v, .bool true]) w := by kernel_rfl
theorem as129_129f (v : Value) (w : World) : (Instr.typeAssert (.iface 129 v) 71 129 false).run Tryz.prog w = .ok v w := by kernel_rfl
theorem as129_131 (v : Value) (w : World) : (Instr.typeAssert (.iface 129 v) 71 131 true).run Tryz.prog w = .ok (.tuple #[.string ⟨#[]⟩, .bool false]) w := by kernel_rfl
theorem as129_132 (v : Value) (w : World) : (Instr.typeAssert (.iface 129 v) 71 132 true).run Tryz.prog w = .ok (.tuple #[.string ⟨#[]⟩, .bool false]) w := by kernel_rfl
theorem as129_112 (v : Value) (w : World) : (Instr.typeAssert (.iface 129 v) 71 112 true).run Tryz.prog w = .ok (.tuple #[.pointer none, .bool false]) w := by kernel_rfl
theorem as129_114 (v : Value) (w : World) : (Instr.typeAssert (.iface 129 v) 71 114 true).run Tryz.prog w = .ok (.tuple #[.slice none 0 0, .bool false]) w := by kernel_rfl
theorem as129_115 (v : Value) (w : World) : (Instr.typeAssert (.iface 129 v) 71 115 true).run Tryz.prog w = .ok (.tuple #[.pointer none, .bool false]) w := by kernel_rfl
theorem as129_118 (v : Value) (w : World) : (Instr.typeAssert (.iface 129 v) 71 118 true).run Tryz.prog w = .ok (.tuple #[.pointer none, .bool false]) w := by kernel_rfl
theorem as131_121 (v : Value) (w : World) : (Instr.typeAssert (.iface 131 v) 71 121 true).run Tryz.prog w = .ok (.tuple #[.int .u8 0, .bool false]) w := by kernel_rfl
theorem as131_77 (v : Value) (w : World) : (Instr.typeAssert (.iface 131 v) 71 77 true).run Tryz.prog w = .ok (.tuple #[.bool false, .bool false]) w := by kernel_rfl
theorem as131_126 (v : Value) (w : World) : (Instr.typeAssert (.iface 131 v) 71 126 true).run Tryz.prog w = .ok (.tuple #[.agg #[.int .i64 0, .pointer none], .bool false]) w := by kernel_rfl
theorem as131_129 (v : Value) (w : World) : (Instr.typeAssert (.iface 131 v) 71 129 true).run Tryz.prog w = .ok (.tuple #[.float .f64 0, .bool false]) w := by kernel_rfl
theorem as131_131 (v : Value) (w : World) : (Instr.typeAssert (.iface 131 v) 71 131 true).run Tryz.prog w = .ok (.tuple #[v, .bool true]) w := by kernel_rfl
theorem as131_131f (v : Value) (w : World) : (Instr.typeAssert (.iface 131 v) 71 131 false).run Tryz.prog w = .ok v w := by kernel_rfl
theorem as131_132 (v : Value) (w : World) : (Instr.typeAssert (.iface 131 v) 71 132 true).run Tryz.prog w = .ok (.tuple #[.string ⟨#[]⟩, .bool false]) w := by kernel_rfl
theorem as131_112 (v : Value) (w : World) : (Instr.typeAssert (.iface 131 v) 71 112 true).run Tryz.prog w = .ok (.tuple #[.pointer none, .bool false]) w := by kernel_rfl
theorem as131_114 (v : Value) (w : World) : (Instr.typeAssert (.iface 131 v) 71 114 true).run Tryz.prog w = .ok (.tuple #[.slice none 0 0, .bool false]) w := by kernel_rfl
theorem as131_115 (v : Value) (w : World) : (Instr.typeAssert (.iface 131 v) 71 115 true).run Tryz.prog w = .ok (.tuple #[.pointer none, .bool false]) w := by kernel_rfl
theorem as131_118 (v : Value) (w : World) : (Instr.typeAssert (.iface 131 v) 71 118 true).run Tryz.prog w = .ok (.tuple #[.pointer none, .bool false]) w := by kernel_rfl
theorem as132_121 (v : Value) (w : World) : (Instr.typeAssert (.iface 132 v) 71 121 true).run Tryz.prog w = .ok (.tuple #[.int .u8 0, .bool false]) w := by kernel_rfl
theorem as132_77 (v : Value) (w : World) : (Instr.typeAssert (.iface 132 v) 71 77 true).run Tryz.prog w = .ok (.tuple #[.bool false, .bool false]) w := by kernel_rfl
theorem as132_126 (v : Value) (w : World) : (Instr.typeAssert (.iface 132 v) 71 126 true).run Tryz.prog w = .ok (.tuple #[.agg #[.int .i64 0, .pointer none], .bool false]) w := by kernel_rfl
theorem as132_129 (v : Value) (w : World) : (Instr.typeAssert (.iface 132 v) 71 129 true).run Tryz.prog w = .ok (.tuple #[.float .f64 0, .bool false]) w := by kernel_rfl
theorem as132_131 (v : Value) (w : World) : (Instr.typeAssert (.iface 132 v) 71 131 true).run Tryz.prog w = .ok (.tuple #[.string ⟨#[]⟩, .bool false]) w := by kernel_rfl
theorem as132_132 (v : Value) (w : World) : (Instr.typeAssert (.iface 132 v) 71 132 true).run Tryz.prog w = .ok (.tuple #[v, .bool true]) w := by kernel_rfl
theorem as132_132f (v : Value) (w : World) : (Instr.typeAssert (.iface 132 v) 71 132 false).run Tryz.prog w = .ok v w := by kernel_rfl
theorem as132_112 (v : Value) (w : World) : (Instr.typeAssert (.iface 132 v) 71 112 true).run Tryz.prog w = .ok (.tuple #[.pointer none, .bool false]) w := by kernel_rfl
theorem as132_114 (v : Value) (w : World) : (Instr.typeAssert (.iface 132 v) 71 114 true).run Tryz.prog w = .ok (.tuple #[.slice none 0 0, .bool false]) w := by kernel_rfl
theorem as132_115 (v : Value) (w : World) : (Instr.typeAssert (.iface 132 v) 71 115 true).run Tryz.prog w = .ok (.tuple #[.pointer none, .bool false]) w := by kernel_rfl
theorem as132_118 (v : Value) (w : World) : (Instr.typeAssert (.iface 132 v) 71 118 true).run Tryz.prog w = .ok (.tuple #[.pointer none, .bool false]) w := by kernel_rfl
theorem as112_121 (v : Value) (w : World) : (Instr.typeAssert (.iface 112 v) 71 121 true).run Tryz.prog w = .ok (.tuple #[.int .u8 0, .bool false]) w := by kernel_rfl
theorem as112_77 (v : Value) (w : World) : (Instr.typeAssert (.iface 112 v) 71 77 true).run Tryz.prog w = .ok (.tuple #[.bool false, .bool false]) w := by kernel_rfl
theorem as112_126 (v : Value) (w : World) : (Instr.typeAssert (.iface 112 v) 71 126 true).run Tryz.prog w = .ok (.tuple #[.agg #[.int .i64 0, .pointer none], .bool false]) w := by kernel_rfl
theorem as112_129 (v : Value) (w : World) : (Instr.typeAssert (.iface 112 v) 71 129 true).run Tryz.prog w = .ok (.tuple #[.float .f64 0, .bool false]) w := by kernel_rfl
theorem as112_131 (v : Value) (w : World) : (Instr.typeAssert (.iface 112 v) 71 131 true).run Tryz.prog w = .ok (.tuple #[.string ⟨#[]⟩, .bool false]) w := by kernel_rfl
theorem as112_132 (v : Value) (w : World) : (Instr.typeAssert (.iface 112 v) 71 132 true).run Tryz.prog w = .ok (.tuple #[.string ⟨#[]⟩, .bool false]) w := by kernel_rfl
theorem as112_112 (v : Value) (w : World) : (Instr.typeAssert (.iface 112 v) 71 112 true).run Tryz.prog w = .ok (.tuple #[v, .bool true]) w := by kernel_rfl
theorem as112_112f (v : Value) (w : World) : (Instr.typeAssert (.iface 112 v) 71 112 false).run Tryz.prog w = .ok v w := by kernel_rfl
theorem as112_114 (v : Value) (w : World) : (Instr.typeAssert (.iface 112 v) 71 114 true).run Tryz.prog w = .ok (.tuple #[.slice none 0 0, .bool false]) w := by kernel_rfl
theorem as112_115 (v : Value) (w : World) : (Instr.typeAssert (.iface 112 v) 71 115 true).run Tryz.prog w = .ok (.tuple #[.pointer none, .bool false]) w := by kernel_rfl
theorem as112_118 (v : Value) (w : World) : (Instr.typeAssert (.iface 112 v) 71 118 true).run Tryz.prog w = .ok (.tuple #[.pointer none, .bool false]) w := by kernel_rfl
theorem as114_121 (v : Value) (w : World) : (Instr.typeAssert (.iface 114 v) 71 121 true).run Tryz.prog w = .ok (.tuple #[.int .u8 0, .bool false]) w := by kernel_rfl
theorem as114_77 (v : Value) (w : World) : (Instr.typeAssert (.iface 114 v) 71 77 true).run Tryz.prog w = .ok (.tuple #[.bool false, .bool false]) w := by kernel_rfl
theorem as114_126 (v : Value) (w : World) : (Instr.typeAssert (.iface 114 v) 71 126 true).run Tryz.prog w = .ok (.tuple #[.agg #[.int .i64 0, .pointer none], .bool false]) w := by kernel_rfl
theorem as114_129 (v : Value) (w : World) : (Instr.typeAssert (.iface 114 v) 71 129 true).run Tryz.prog w = .ok (.tuple #[.float .f64 0, .bool false]) w := by kernel_rfl
theorem as114_131 (v : Value) (w : World) : (Instr.typeAssert (.iface 114 v) 71 131 true).run Tryz.prog w = .ok (.tuple #[.string ⟨#[]⟩, .bool false]) w := by kernel_rfl
theorem as114_132 (v : Value) (w : World) : (Instr.typeAssert (.iface 114 v) 71 132 true).run Tryz.prog w = .ok (.tuple #[.string ⟨#[]⟩, .bool false]) w := by kernel_rfl
theorem as114_112 (v : Value) (w : World) : (Instr.typeAssert (.iface 114 v) 71 112 true).run Tryz.prog w = .ok (.tuple #[.pointer none, .bool false]) w := by kernel_rfl
theorem as114_114 (v : Value) (w : World) : (Instr.typeAssert (.iface 114 v) 71 114 true).run Tryz.prog w = .ok (.tuple #[v, .bool true]) w := by kernel_rfl
theorem as114_114f (v : Value) (w : World) : (Instr.typeAssert (.iface 114 v) 71 114 false).run Tryz.prog w = .ok v w := by kernel_rfl
theorem as114_115 (v : Value) (w : World) : (Instr.typeAssert (.iface 114 v) 71 115 true).run Tryz.prog w = .ok (.tuple #[.pointer none, .bool false]) w := by kernel_rfl
theorem as114_118 (v : Value) (w : World) : (Instr.typeAssert (.iface 114 v) 71 118 true).run Tryz.prog w = .ok (.tuple #[.pointer none, .bool false]) w := by kernel_rfl
theorem as115_121 (v : Value) (w : World) : (Instr.typeAssert (.iface 115 v) 71 121 true).run Tryz.prog w = .ok (.tuple #[.int .u8 0, .bool false]) w := by kernel_rfl
theorem as115_77 (v : Value) (w : World) : (Instr.typeAssert (.iface 115 v) 71 77 true).run Tryz.prog w = .ok (.tuple #[.bool false, .bool false]) w := by kernel_rfl
theorem as115_126 (v : Value) (w : World) : (Instr.typeAssert (.iface 115 v) 71 126 true).run Tryz.prog w = .ok (.tuple #[.agg #[.int .i64 0, .pointer none], .bool false]) w := by kernel_rfl
theorem as115_129 (v : Value) (w : World) : (Instr.typeAssert (.iface 115 v) 71 129 true).run Tryz.prog w = .ok (.tuple #[.float .f64 0, .bool false]) w := by kernel_rfl
theorem as115_131 (v : Value) (w : World) : (Instr.typeAssert (.iface 115 v) 71 131 true).run Tryz.prog w = .ok (.tuple #[.string ⟨#[]⟩, .bool false]) w := by kernel_rfl
theorem as115_132 (v : Value) (w : World) : (Instr.typeAssert (.iface 115 v) 71 132 true).run Tryz.prog w = .ok (.tuple #[.string ⟨#[]⟩, .bool false]) w := by kernel_rfl
theorem as115_112 (v : Value) (w : World) : (Instr.typeAssert (.iface 115 v) 71 112 true).run Tryz.prog w = .ok (.tuple #[.pointer none, .bool false]) w := by kernel_rfl
theorem as115_114 (v : Value) (w : World) : (Instr.typeAssert (.iface 115 v) 71 114 true).run Tryz.prog w = .ok (.tuple #[.slice none 0 0, .bool false]) w := by kernel_rfl
theorem as115_115 (v : Value) (w : World) : (Instr.typeAssert (.iface 115 v) 71 115 true).run Tryz.prog w = .ok (.tuple #[v, .bool true]) w := by kernel_rfl
theorem as115_115f (v : Value) (w : World) : (Instr.typeAssert (.iface 115 v) 71 115 false).run Tryz.prog w = .ok v w := by kernel_rfl
theorem as115_118 (v : Value) (w : World) : (Instr.typeAssert (.iface 115 v) 71 118 true).run Tryz.prog w = .ok (.tuple #[.pointer none, .bool false]) w := by kernel_rfl
theorem as118_121 (v : Value) (w : World) : (Instr.typeAssert (.iface 118 v) 71 121 true).run Tryz.prog w = .ok (.tuple #[.int .u8 0, .bool false]) w := by kernel_rfl
theorem as118_77 (v : Value) (w : World) : (Instr.typeAssert (.iface 118 v) 71 77 true).run Tryz.prog w = .ok (.tuple #[.bool false, .bool false]) w := by kernel_rfl
theorem as118_126 (v : Value) (w : World) : (Instr.typeAssert (.iface 118 v) 71 126 true).run Tryz.prog w = .ok (.tuple #[.agg #[.int .i64 0, .pointer none], .bool false]) w := by kernel_rfl
theorem as118_129 (v : Value) (w : World) : (Instr.typeAssert (.iface 118 v) 71 129 true).run Tryz.prog w = .ok (.tuple #[.float .f64 0, .bool false]) w := by kernel_rfl
theorem as118_131 (v : Value) (w : World) : (Instr.typeAssert (.iface 118 v) 71 131 true).run Tryz.prog w = .ok (.tuple #[.string ⟨#[]⟩, .bool false]) w := by kernel_rfl
theorem as118_132 (v : Value) (w : World) : (Instr.typeAssert (.iface 118 v) 71 132 true).run Tryz.prog w = .ok (.tuple #[.string ⟨#[]⟩, .bool false]) w := by kernel_rfl
theorem as118_112 (v : Value) (w : World) : (Instr.typeAssert (.iface 118 v) 71 112 true).run Tryz.prog w = .ok (.tuple #[.pointer none, .bool false]) w := by kernel_rfl
theorem as118_114 (v : Value) (w : World) : (Instr.typeAssert (.iface 118 v) 71 114 true).run Tryz.prog w = .ok (.tuple #[.slice none 0 0, .bool false]) w := by kernel_rfl
theorem as118_115 (v : Value) (w : World) : (Instr.typeAssert (.iface 118 v) 71 115 true).run Tryz.prog w = .ok (.tuple #[.pointer none, .bool false]) w := by kernel_rfl
theorem as118_118 (v : Value) (w : World) : (Instr.typeAssert (.iface 118 v) 71 118 true).run Tryz.prog w = .ok (.tuple #[v, .bool true]) w := by kernel_rfl
theorem as118_118f (v : Value) (w : World) : (Instr.typeAssert (.iface 118 v) 71 118 false).run Tryz.prog w = .ok v w := by kernel_rfl
theorem as121_296 (v : Value) (w : World) : (Instr.typeAssert (.iface 121 v) 71 296 true).run Tryz.prog w = .ok (.tuple #[.nilIface, .bool false]) w := run_typeAssert_lacksB Tryz.underlying296 (by kernel_rfl) (by kernel_rfl) v 71 w
theorem as121_300 (v : Value) (w : World) : (Instr.typeAssert (.iface 121 v) 71 300 true).run Tryz.prog w = .ok (.tuple #[.nilIface, .bool false]) w := run_typeAssert_lacksB Tryz.underlying300 (by kernel_rfl) (by kernel_rfl) v 71 w
theorem as77_296 (v : Value) (w : World) : (Instr.typeAssert (.iface 77 v) 71 296 true).run Tryz.prog w = .ok (.tuple #[.iface 77 v, .bool true]) w := run_typeAssert_hasB Tryz.underlying296 (by kernel_rfl) v 71 w
theorem as77_300 (v : Value) (w : World) : (Instr.typeAssert (.iface 77 v) 71 300 true).run Tryz.prog w = .ok (.tuple #[.nilIface, .bool false]) w := run_typeAssert_lacksB Tryz.underlying300 (by kernel_rfl) (by kernel_rfl) v 71 w
theorem as126_296 (v : Value) (w : World) : (Instr.typeAssert (.iface 126 v) 71 296 true).run Tryz.prog w = .ok (.tuple #[.nilIface, .bool false]) w := run_typeAssert_lacksB Tryz.underlying296 (by kernel_rfl) (by kernel_rfl) v 71 w
theorem as126_300 (v : Value) (w : World) : (Instr.typeAssert (.iface 126 v) 71 300 true).run Tryz.prog w = .ok (.tuple #[.iface 126 v, .bool true]) w := run_typeAssert_hasB Tryz.underlying300 (by kernel_rfl) v 71 w
theorem as129_296 (v : Value) (w : World) : (Instr.typeAssert (.iface 129 v) 71 296 true).run Tryz.prog w = .ok (.tuple #[.nilIface, .bool false]) w := run_typeAssert_lacksB Tryz.underlying296 (by kernel_rfl) (by kernel_rfl) v 71 w
theorem as129_300 (v : Value) (w : World) : (Instr.typeAssert (.iface 129 v) 71 300 true).run Tryz.prog w = .ok (.tuple #[.iface 129 v, .bool true]) w := run_typeAssert_hasB Tryz.underlying300 (by kernel_rfl) v 71 w
theorem as131_296 (v : Value) (w : World) : (Instr.typeAssert (.iface 131 v) 71 296 true).run Tryz.prog w = .ok (.tuple #[.iface 131 v, .bool true]) w := run_typeAssert_hasB Tryz.underlying296 (by kernel_rfl) v 71 w
theorem as131_300 (v : Value) (w : World) : (Instr.typeAssert (.iface 131 v) 71 300 true).run Tryz.prog w = .ok (.tuple #[.nilIface, .bool false]) w := run_typeAssert_lacksB Tryz.underlying300 (by kernel_rfl) (by kernel_rfl) v 71 w
theorem as132_296 (v : Value) (w : World) : (Instr.typeAssert (.iface 132 v) 71 296 true).run Tryz.prog w = .ok (.tuple #[.iface 132 v, .bool true]) w := run_typeAssert_hasB Tryz.underlying296 (by kernel_rfl) v 71 w
theorem as132_300 (v : Value) (w : World) : (Instr.typeAssert (.iface 132 v) 71 300 true).run Tryz.prog w = .ok (.tuple #[.nilIface, .bool false]) w := run_typeAssert_lacksB Tryz.underlying300 (by kernel_rfl) (by kernel_rfl) v 71 w
theorem as112_296 (v : Value) (w : World) : (Instr.typeAssert (.iface 112 v) 71 296 true).run Tryz.prog w = .ok (.tuple #[.iface 112 v, .bool true]) w := run_typeAssert_hasB Tryz.underlying296 (by kernel_rfl) v 71 w
theorem as112_300 (v : Value) (w : World) : (Instr.typeAssert (.iface 112 v) 71 300 true).run Tryz.prog w = .ok (.tuple #[.nilIface, .bool false]) w := run_typeAssert_lacksB Tryz.underlying300 (by kernel_rfl) (by kernel_rfl) v 71 w
theorem as114_296 (v : Value) (w : World) : (Instr.typeAssert (.iface 114 v) 71 296 true).run Tryz.prog w = .ok (.tuple #[.iface 114 v, .bool true]) w := run_typeAssert_hasB Tryz.underlying296 (by kernel_rfl) v 71 w
theorem as114_300 (v : Value) (w : World) : (Instr.typeAssert (.iface 114 v) 71 300 true).run Tryz.prog w = .ok (.tuple #[.nilIface, .bool false]) w := run_typeAssert_lacksB Tryz.underlying300 (by kernel_rfl) (by kernel_rfl) v 71 w
theorem as115_296 (v : Value) (w : World) : (Instr.typeAssert (.iface 115 v) 71 296 true).run Tryz.prog w = .ok (.tuple #[.iface 115 v, .bool true]) w := run_typeAssert_hasB Tryz.underlying296 (by kernel_rfl) v 71 w
theorem as115_300 (v : Value) (w : World) : (Instr.typeAssert (.iface 115 v) 71 300 true).run Tryz.prog w = .ok (.tuple #[.nilIface, .bool false]) w := run_typeAssert_lacksB Tryz.underlying300 (by kernel_rfl) (by kernel_rfl) v 71 w
theorem as118_296 (v : Value) (w : World) : (Instr.typeAssert (.iface 118 v) 71 296 true).run Tryz.prog w = .ok (.tuple #[.iface 118 v, .bool true]) w := run_typeAssert_hasB Tryz.underlying296 (by kernel_rfl) v 71 w
theorem as118_300 (v : Value) (w : World) : (Instr.typeAssert (.iface 118 v) 71 300 true).run Tryz.prog w = .ok (.tuple #[.nilIface, .bool false]) w := run_typeAssert_lacksB Tryz.underlying300 (by kernel_rfl) (by kernel_rfl) v 71 w
theorem disp77_Type (v : Value) : Disp 77 v "Type" 302 v := ⟨fun w => by kernel_rfl, fun w => by kernel_rfl, fun w => by kernel_rfl⟩
theorem disp114_Type (v : Value) : Disp 114 v "Type" 319 v := ⟨fun w => by kernel_rfl, fun w => by kernel_rfl, fun w => by kernel_rfl⟩
theorem disp121_Type (v : Value) : Disp 121 v "Type" 349 v := ⟨fun w => by kernel_rfl, fun w => by kernel_rfl, fun w => by kernel_rfl⟩
theorem disp126_Type (v : Value) : Disp 126 v "Type" 356 v := ⟨fun w => by kernel_rfl, fun w => by kernel_rfl, fun w => by kernel_rfl⟩
theorem disp129_Type (v : Value) : Disp 129 v "Type" 365 v := ⟨fun w => by kernel_rfl, fun w => by kernel_rfl, fun w => by kernel_rfl⟩
theorem disp131_Type (v : Value) : Disp 131 v "Type" 377 v := ⟨fun w => by kernel_rfl, fun w => by kernel_rfl, fun w => by kernel_rfl⟩
theorem disp132_Type (v : Value) : Disp 132 v "Type" 388 v := ⟨fun w => by kernel_rfl, fun w => by kernel_rfl, fun w => by kernel_rfl⟩
theorem disp77_Hash (v : Value) : Disp 77 v "Hash" 299 v := ⟨fun w => by kernel_rfl, fun w => by kernel_rfl, fun w => by kernel_rfl⟩
theorem disp114_Hash (v : Value) : Disp 114 v "Hash" 316 v := ⟨fun w => by kernel_rfl, fun w => by kernel_rfl, fun w => by kernel_rfl⟩
theorem disp121_Hash (v : Value) : Disp 121 v "Hash" 346 v := ⟨fun w => by kernel_rfl, fun w => by kernel_rfl, fun w => by kernel_rfl⟩
theorem disp126_Hash (v : Value) : Disp 126 v "Hash" 353 v := ⟨fun w => by kernel_rfl, fun w => by kernel_rfl, fun w => by kernel_rfl⟩
theorem disp129_Hash (v : Value) : Disp 129 v "Hash" 362 v := ⟨fun w => by kernel_rfl, fun w => by kernel_rfl, fun w => by kernel_rfl⟩
theorem disp131_Hash (v : Value) : Disp 131 v "Hash" 374 v := ⟨fun w => by kernel_rfl, fun w => by kernel_rfl, fun w => by kernel_rfl⟩
theorem disp132_Hash (v : Value) : Disp 132 v "Hash" 385 v := ⟨fun w => by kernel_rfl, fun w => by kernel_rfl, fun w => by kernel_rfl⟩
theorem disp77_CompareSameType (v : Value) : Disp 77 v "CompareSameType" 297 v := ⟨fun w => by kernel_rfl, fun w => by kernel_rfl, fun w => by kernel_rfl⟩
theorem disp114_CompareSameType (v : Value) : Disp 114 v "CompareSameType" 314 v := ⟨fun w => by kernel_rfl, fun w => by kernel_rfl, fun w => by kernel_rfl⟩
theorem disp131_CompareSameType (v : Value) : Disp 131 v "CompareSameType" 372 v := ⟨fun w => by kernel_rfl, fun w => by kernel_rfl, fun w => by kernel_rfl⟩
theorem disp132_CompareSameType (v : Value) : Disp 132 v "CompareSameType" 383 v := ⟨fun w => by kernel_rfl, fun w => by kernel_rfl, fun w => by kernel_rfl⟩
theorem disp126_Cmp (v : Value) : Disp 126 v "Cmp" 351 v := ⟨fun w => by kernel_rfl, fun w => by kernel_rfl, fun w => by kernel_rfl⟩
theorem disp129_Cmp (v : Value) : Disp 129 v "Cmp" 360 v := ⟨fun w => by kernel_rfl, fun w => by kernel_rfl, fun w => by kernel_rfl⟩
end Go.Proofs.YtpfihjkhgfoijaaGreatDoor
