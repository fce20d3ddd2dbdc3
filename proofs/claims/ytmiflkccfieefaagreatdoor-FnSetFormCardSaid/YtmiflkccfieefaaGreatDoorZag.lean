/-
  FnSetForm: the closed facts of its row.
-/
import Derived.Test.YtmiflkccfieefaaGreatDoorPst
namespace Go.Proofs.YtmiflkccfieefaaGreatDoor
open Go.ChangeShapes Go.WideShapes Go.ChangeAt Go.RowKit
set_option linter.unusedVariables false

set_option maxHeartbeats 4000000 in
theorem fnSetForm_closed : joinedFacts Tryz.pinned.checked.prog 11 Tryz.f11 Rows.fnSetFormSpec Rows.fnSetFormRow = true := by
  unfold joinedFacts
  simp only [Bool.and_eq_true]
  repeat' (with_reducible refine And.intro ?_ ?_)
  all_goals (as_aux_lemma => kernel_rfl)
theorem fnSetForm_inst : Tryz.f11.isInstance Tryz.pinned.checked.prog Rows.fnSetFormRow.origin Rows.fnSetFormRow.targs := of_decide_eq_true (by kernel_rfl)
theorem fnSetForm_wrap : Tryz.f11.isWrapper Tryz.pinned.checked.prog Rows.fnSetFormRow.wrapper Rows.fnSetFormRow.mainSum := by unfold Func.isWrapper; first | (rw [if_pos (by decide +kernel)]; kernel_rfl) | (rw [if_neg (by decide +kernel)]; exact ⟨rfl, rfl⟩)
end Go.Proofs.YtmiflkccfieefaaGreatDoor
