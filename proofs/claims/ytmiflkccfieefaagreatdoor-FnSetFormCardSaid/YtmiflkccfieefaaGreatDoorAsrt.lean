/-
  Type assertions that the road meets: closed facts of the program.
-/
import Derived.Test.YtmiflkccfieefaaGreatDoorBase
import Derived.Stop.Asserts
namespace Go.Proofs.YtmiflkccfieefaaGreatDoor
open Go.RowKit
theorem ta253_325 (a : Option Addr) (w : World) : (Instr.typeAssert (.iface 253 (.pointer a)) 323 325 true).run Tryz.prog w = .ok (.tuple #[.iface 253 (.pointer a), .bool true]) w := run_typeAssert_hasB Tryz.underlying325 (by kernel_rfl) _ 323 w
theorem ta264_325 (a : Option Addr) (w : World) : (Instr.typeAssert (.iface 264 (.pointer a)) 323 325 true).run Tryz.prog w = .ok (.tuple #[.nilIface, .bool false]) w := run_typeAssert_lacksB Tryz.underlying325 (by kernel_rfl) (by kernel_rfl) _ 323 w
theorem ta277_325 (a : Option Addr) (w : World) : (Instr.typeAssert (.iface 277 (.pointer a)) 323 325 true).run Tryz.prog w = .ok (.tuple #[.nilIface, .bool false]) w := run_typeAssert_lacksB Tryz.underlying325 (by kernel_rfl) (by kernel_rfl) _ 323 w
theorem ta253_318 (a : Option Addr) (w : World) : (Instr.typeAssert (.iface 253 (.pointer a)) 314 318 true).run Tryz.prog w = .ok (.tuple #[.iface 253 (.pointer a), .bool true]) w := run_typeAssert_hasB Tryz.underlying318 (by kernel_rfl) _ 314 w
theorem ta264_318 (a : Option Addr) (w : World) : (Instr.typeAssert (.iface 264 (.pointer a)) 314 318 true).run Tryz.prog w = .ok (.tuple #[.nilIface, .bool false]) w := run_typeAssert_lacksB Tryz.underlying318 (by kernel_rfl) (by kernel_rfl) _ 314 w
theorem ta277_318 (a : Option Addr) (w : World) : (Instr.typeAssert (.iface 277 (.pointer a)) 314 318 true).run Tryz.prog w = .ok (.tuple #[.iface 277 (.pointer a), .bool true]) w := run_typeAssert_hasB Tryz.underlying318 (by kernel_rfl) _ 314 w
theorem ta94_189 (a : Option Addr) (w : World) : (Instr.typeAssert (.iface 94 (.pointer a)) 20 189 true).run Tryz.prog w = .ok (.tuple #[.iface 94 (.pointer a), .bool true]) w := run_typeAssert_hasB Tryz.underlying189 (by kernel_rfl) _ 20 w
theorem ta94_193 (a : Option Addr) (w : World) : (Instr.typeAssert (.iface 94 (.pointer a)) 20 193 true).run Tryz.prog w = .ok (.tuple #[.iface 94 (.pointer a), .bool true]) w := run_typeAssert_hasB Tryz.underlying193 (by kernel_rfl) _ 20 w
theorem ta94_216 (a : Option Addr) (w : World) : (Instr.typeAssert (.iface 94 (.pointer a)) 189 216 true).run Tryz.prog w = .ok (.tuple #[.nilIface, .bool false]) w := run_typeAssert_lacksB Tryz.underlying216 (by kernel_rfl) (by kernel_rfl) _ 189 w
theorem ta113_189 (a : Option Addr) (w : World) : (Instr.typeAssert (.iface 113 (.pointer a)) 20 189 true).run Tryz.prog w = .ok (.tuple #[.iface 113 (.pointer a), .bool true]) w := run_typeAssert_hasB Tryz.underlying189 (by kernel_rfl) _ 20 w
theorem ta113_193 (a : Option Addr) (w : World) : (Instr.typeAssert (.iface 113 (.pointer a)) 20 193 true).run Tryz.prog w = .ok (.tuple #[.iface 113 (.pointer a), .bool true]) w := run_typeAssert_hasB Tryz.underlying193 (by kernel_rfl) _ 20 w
theorem ta113_216 (a : Option Addr) (w : World) : (Instr.typeAssert (.iface 113 (.pointer a)) 189 216 true).run Tryz.prog w = .ok (.tuple #[.nilIface, .bool false]) w := run_typeAssert_lacksB Tryz.underlying216 (by kernel_rfl) (by kernel_rfl) _ 189 w
theorem ta116_189 (a : Option Addr) (w : World) : (Instr.typeAssert (.iface 116 (.pointer a)) 20 189 true).run Tryz.prog w = .ok (.tuple #[.iface 116 (.pointer a), .bool true]) w := run_typeAssert_hasB Tryz.underlying189 (by kernel_rfl) _ 20 w
theorem ta116_193 (a : Option Addr) (w : World) : (Instr.typeAssert (.iface 116 (.pointer a)) 20 193 true).run Tryz.prog w = .ok (.tuple #[.iface 116 (.pointer a), .bool true]) w := run_typeAssert_hasB Tryz.underlying193 (by kernel_rfl) _ 20 w
theorem ta116_216 (a : Option Addr) (w : World) : (Instr.typeAssert (.iface 116 (.pointer a)) 189 216 true).run Tryz.prog w = .ok (.tuple #[.nilIface, .bool false]) w := run_typeAssert_lacksB Tryz.underlying216 (by kernel_rfl) (by kernel_rfl) _ 189 w
attribute [go_sem] ta253_325 ta264_325 ta277_325 ta253_318 ta264_318 ta277_318 ta94_189 ta94_193 ta94_216 ta113_189 ta113_193 ta113_216 ta116_189 ta116_193 ta116_216
end Go.Proofs.YtmiflkccfieefaaGreatDoor
