/- FnDecimal: the row and the card. -/
import Derived.Test.YteghibfaiifdoaaGreatDoorZFnDecimalF2
import Derived.Test.YteghibfaiifdoaaGreatDoorZFnDecimalR
namespace Go.Proofs.YteghibfaiifdoaaGreatDoor
set_option linter.unusedVariables false
set_option linter.unusedSimpArgs false
open Go.ChangeShapes Go.WideShapes Go.ChangeAt Go.RowKit Go.Abs
theorem named7 : Tryz.pinned.checked.prog.funcNamed Rows.fnDecimalRow.func = some 7 := by kernel_rfl
theorem wrap7 : Tryz.f7.isWrapper Tryz.pinned.checked.prog Rows.fnDecimalRow.wrapper Rows.fnDecimalRow.mainSum := by
  unfold Func.isWrapper; first | (rw [if_pos (by decide +kernel)]; kernel_rfl) | (rw [if_neg (by decide +kernel)]; exact ⟨rfl, rfl⟩)
theorem inst7 : Tryz.f7.isInstance Tryz.pinned.checked.prog Rows.fnDecimalRow.origin Rows.fnDecimalRow.targs := of_decide_eq_true (by kernel_rfl)
theorem row_holds : Rows.FnDecimalSaid :=
  OpenClaim.holds_of_wide 7 Tryz.f7 rfl rfl rfl rfl rfl rfl rfl ⟨rfl, rfl, rfl, rfl, rfl⟩ rfl rfl rfl rfl rfl named7 Tryz.func7 joined inst7 wrap7
    (fun os started H enc _ => lifted os started H enc)
end Go.Proofs.YteghibfaiifdoaaGreatDoor
