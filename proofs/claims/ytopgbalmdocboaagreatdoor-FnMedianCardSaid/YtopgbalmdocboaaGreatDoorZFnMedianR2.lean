/- FnMedian: the row and the card. -/
import Derived.Test.YtopgbalmdocboaaGreatDoorZFnMedianF2
import Derived.Test.YtopgbalmdocboaaGreatDoorZFnMedianR
namespace Go.Proofs.YtopgbalmdocboaaGreatDoor
set_option linter.unusedVariables false
set_option linter.unusedSimpArgs false
open Go.ChangeShapes Go.WideShapes Go.ChangeAt Go.RowKit Go.Abs
theorem named5 : Tryz.pinned.checked.prog.funcNamed Rows.fnMedianRow.func = some 5 := by kernel_rfl
theorem wrap5 : Tryz.f5.isWrapper Tryz.pinned.checked.prog Rows.fnMedianRow.wrapper Rows.fnMedianRow.mainSum := by
  unfold Func.isWrapper; first | (rw [if_pos (by decide +kernel)]; kernel_rfl) | (rw [if_neg (by decide +kernel)]; exact ⟨rfl, rfl⟩)
theorem inst5 : Tryz.f5.isInstance Tryz.pinned.checked.prog Rows.fnMedianRow.origin Rows.fnMedianRow.targs := of_decide_eq_true (by kernel_rfl)
theorem row_holds : Rows.FnMedianSaid :=
  OpenClaim.holds_of_wide 5 Tryz.f5 rfl rfl rfl rfl rfl rfl rfl ⟨rfl, rfl, rfl, rfl, rfl⟩ rfl rfl rfl rfl rfl named5 Tryz.func5 joined inst5 wrap5
    (fun os started H enc _ => lifted os started H enc)
end Go.Proofs.YtopgbalmdocboaaGreatDoor
