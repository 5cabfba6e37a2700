/-
  'Rows.FnUnitSecondsOrderedSaid', PROVED: the row by the guide's builder, out of the step in Qxb6003469aFnUnitSecondsOrderedLift.lean.
-/
import Derived.Test.Qxb6003469aFnUnitSecondsOrderedLift
namespace Go.Proofs.Qxb6003469a.fnUnitSecondsOrdered
open Go.ChangeShapes Go.WideShapes Go.ChangeAt Go.RowKit
open Go.ChangeMaps (open_string shut_string)
set_option linter.unusedVariables false      -- a walk need not use every 'w<i>' (that an integer argument fits its kind)

theorem over : Rows.fnUnitSecondsOrderedRow.holds Try.pinned (OpenSpec.ofChange Rows.fnUnitSecondsOrderedSpec) :=
  OpenClaim.holds_of_wide 5 Try.f5 rfl rfl rfl rfl rfl rfl rfl ⟨rfl, rfl, rfl, rfl, rfl⟩ rfl rfl rfl rfl rfl (by kernel_rfl) Try.func5 (by kernel_rfl)
    (of_decide_eq_true (by kernel_rfl)) (by unfold Func.isWrapper; first | (rw [if_pos (by decide +kernel)]; kernel_rfl) | (rw [if_neg (by decide +kernel)]; exact ⟨rfl, rfl⟩))
    (fun os started H enc _ => lifted os started H enc)

/-- ████ THE STATEMENT ████ -/
theorem proved : Rows.FnUnitSecondsOrderedSaid :=
  over
end Go.Proofs.Qxb6003469a.fnUnitSecondsOrdered

namespace Go.Proofs.Qxb6003469a
/-- The statement, under a short name. -/
theorem proved : Rows.FnUnitSecondsOrderedSaid := fnUnitSecondsOrdered.proved
end Go.Proofs.Qxb6003469a
