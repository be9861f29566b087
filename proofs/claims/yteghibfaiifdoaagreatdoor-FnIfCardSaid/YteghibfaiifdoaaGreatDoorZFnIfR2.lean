/- FnIf: the row and the card. -/
import Derived.Test.YteghibfaiifdoaaGreatDoorZFnIfF2
import Derived.Test.YteghibfaiifdoaaGreatDoorZFnIfR
namespace Go.Proofs.YteghibfaiifdoaaGreatDoor
set_option linter.unusedVariables false
set_option linter.unusedSimpArgs false
open Go.ChangeShapes Go.WideShapes Go.ChangeAt Go.RowKit Go.Abs
theorem named6 : Tryz.pinned.checked.prog.funcNamed Rows.fnIfRow.func = some 6 := by kernel_rfl
theorem wrap6 : Tryz.f6.isWrapper Tryz.pinned.checked.prog Rows.fnIfRow.wrapper Rows.fnIfRow.mainSum := by
  unfold Func.isWrapper; first | (rw [if_pos (by decide +kernel)]; kernel_rfl) | (rw [if_neg (by decide +kernel)]; exact ⟨rfl, rfl⟩)
theorem inst6 : Tryz.f6.isInstance Tryz.pinned.checked.prog Rows.fnIfRow.origin Rows.fnIfRow.targs := of_decide_eq_true (by kernel_rfl)
theorem row_holds : Rows.FnIfSaid :=
  OpenClaim.holds_of_wide 6 Tryz.f6 rfl rfl rfl rfl rfl rfl rfl ⟨rfl, rfl, rfl, rfl, rfl⟩ rfl rfl rfl rfl rfl named6 Tryz.func6 joined inst6 wrap6
    (fun os started H enc _ => lifted os started H enc)
end Go.Proofs.YteghibfaiifdoaaGreatDoor
