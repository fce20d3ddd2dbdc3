/-
  What is no flexible message is encoded by the plain encoders.
-/
import Derived.Test.YtmiflkccfieefaaGreatDoorAsrt
import Derived.Test.YtmiflkccfieefaaGreatDoorMeth
namespace Go.Proofs.YtmiflkccfieefaaGreatDoor
open Go.ChangeShapes Go.WideShapes Go.ChangeAt Go.RowKit
set_option maxRecDepth 100000
set_option linter.unusedVariables false
theorem flex94 (pe : Value) (a : Option Addr) (w : World) : Calls Tryz.prog 103 #[pe, .iface 94 (.pointer a)] w fun e w' => e = .returned pe ∧ w = w' := by
  go_enter Tryz.func103, Tryz.ntmps103
  go_wp2
  go_ret
  exact ⟨rfl, rfl⟩
theorem flex113 (pe : Value) (a : Option Addr) (w : World) : Calls Tryz.prog 103 #[pe, .iface 113 (.pointer a)] w fun e w' => e = .returned pe ∧ w = w' := by
  go_enter Tryz.func103, Tryz.ntmps103
  go_wp2
  go_ret
  exact ⟨rfl, rfl⟩
theorem flex116 (pe : Value) (a : Option Addr) (w : World) : Calls Tryz.prog 103 #[pe, .iface 116 (.pointer a)] w fun e w' => e = .returned pe ∧ w = w' := by
  go_enter Tryz.func103, Tryz.ntmps103
  go_wp2
  go_ret
  exact ⟨rfl, rfl⟩
end Go.Proofs.YtmiflkccfieefaaGreatDoor
