/- FnLcm: the row and the card. -/
import Derived.Test.YtjobmjfdlkjaoaaGreatDoorZFnLcmF2
import Derived.Test.YtjobmjfdlkjaoaaGreatDoorZFnLcmR
namespace Go.Proofs.YtjobmjfdlkjaoaaGreatDoor
set_option linter.unusedVariables false
set_option linter.unusedSimpArgs false
open Go.ChangeShapes Go.WideShapes Go.ChangeAt Go.RowKit Go.Abs
theorem named8 : Tryz.pinned.checked.prog.funcNamed Rows.fnLcmRow.func = some 8 := by kernel_rfl
theorem wrap8 : Tryz.f8.isWrapper Tryz.pinned.checked.prog Rows.fnLcmRow.wrapper Rows.fnLcmRow.mainSum := by
  unfold Func.isWrapper; first | (rw [if_pos (by decide +kernel)]; kernel_rfl) | (rw [if_neg (by decide +kernel)]; exact ⟨rfl, rfl⟩)
theorem inst8 : Tryz.f8.isInstance Tryz.pinned.checked.prog Rows.fnLcmRow.origin Rows.fnLcmRow.targs := of_decide_eq_true (by kernel_rfl)
theorem row_holds : Rows.FnLcmSaid :=
  OpenClaim.holds_of_wide 8 Tryz.f8 rfl rfl rfl rfl rfl rfl rfl ⟨rfl, rfl, rfl, rfl, rfl⟩ rfl rfl rfl rfl rfl named8 Tryz.func8 joined inst8 wrap8
    (fun os started H enc _ => lifted os started H enc)
end Go.Proofs.YtjobmjfdlkjaoaaGreatDoor
