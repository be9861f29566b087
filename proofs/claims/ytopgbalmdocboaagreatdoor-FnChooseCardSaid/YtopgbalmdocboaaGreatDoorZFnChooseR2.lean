/- FnChoose: the row and the card. -/
import Derived.Test.YtopgbalmdocboaaGreatDoorZFnChooseF2
import Derived.Test.YtopgbalmdocboaaGreatDoorZFnChooseR
namespace Go.Proofs.YtopgbalmdocboaaGreatDoor
set_option linter.unusedVariables false
set_option linter.unusedSimpArgs false
open Go.ChangeShapes Go.WideShapes Go.ChangeAt Go.RowKit Go.Abs
theorem named4 : Tryz.pinned.checked.prog.funcNamed Rows.fnChooseRow.func = some 4 := by kernel_rfl
theorem wrap4 : Tryz.f4.isWrapper Tryz.pinned.checked.prog Rows.fnChooseRow.wrapper Rows.fnChooseRow.mainSum := by
  unfold Func.isWrapper; first | (rw [if_pos (by decide +kernel)]; kernel_rfl) | (rw [if_neg (by decide +kernel)]; exact ⟨rfl, rfl⟩)
theorem inst4 : Tryz.f4.isInstance Tryz.pinned.checked.prog Rows.fnChooseRow.origin Rows.fnChooseRow.targs := of_decide_eq_true (by kernel_rfl)
theorem row_holds : Rows.FnChooseSaid :=
  OpenClaim.holds_of_wide 4 Tryz.f4 rfl rfl rfl rfl rfl rfl rfl ⟨rfl, rfl, rfl, rfl, rfl⟩ rfl rfl rfl rfl rfl named4 Tryz.func4 joined inst4 wrap4
    (fun os started H enc _ => lifted os started H enc)
end Go.Proofs.YtopgbalmdocboaaGreatDoor
