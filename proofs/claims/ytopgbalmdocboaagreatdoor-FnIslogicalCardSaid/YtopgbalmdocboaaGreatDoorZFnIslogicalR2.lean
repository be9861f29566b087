/- FnIslogical: the row and the card. -/
import Derived.Test.YtopgbalmdocboaaGreatDoorZFnIslogicalF2
import Derived.Test.YtopgbalmdocboaaGreatDoorZFnIslogicalR
namespace Go.Proofs.YtopgbalmdocboaaGreatDoor
set_option linter.unusedVariables false
set_option linter.unusedSimpArgs false
open Go.ChangeShapes Go.WideShapes Go.ChangeAt Go.RowKit Go.Abs
theorem named3 : Tryz.pinned.checked.prog.funcNamed Rows.fnIslogicalRow.func = some 3 := by kernel_rfl
theorem wrap3 : Tryz.f3.isWrapper Tryz.pinned.checked.prog Rows.fnIslogicalRow.wrapper Rows.fnIslogicalRow.mainSum := by
  unfold Func.isWrapper; first | (rw [if_pos (by decide +kernel)]; kernel_rfl) | (rw [if_neg (by decide +kernel)]; exact ⟨rfl, rfl⟩)
theorem inst3 : Tryz.f3.isInstance Tryz.pinned.checked.prog Rows.fnIslogicalRow.origin Rows.fnIslogicalRow.targs := of_decide_eq_true (by kernel_rfl)
theorem row_holds : Rows.FnIslogicalSaid :=
  OpenClaim.holds_of_wide 3 Tryz.f3 rfl rfl rfl rfl rfl rfl rfl ⟨rfl, rfl, rfl, rfl, rfl⟩ rfl rfl rfl rfl rfl named3 Tryz.func3 joined inst3 wrap3
    (fun os started H enc _ => lifted os started H enc)
end Go.Proofs.YtopgbalmdocboaaGreatDoor
