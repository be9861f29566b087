/- FnBitlshift: the row and the card. -/
import Derived.Test.YtjobmjfdlkjaoaaGreatDoorZFnBitlshiftF2
import Derived.Test.YtjobmjfdlkjaoaaGreatDoorZFnBitlshiftR
namespace Go.Proofs.YtjobmjfdlkjaoaaGreatDoor
set_option linter.unusedVariables false
set_option linter.unusedSimpArgs false
open Go.ChangeShapes Go.WideShapes Go.ChangeAt Go.RowKit Go.Abs
theorem named7 : Tryz.pinned.checked.prog.funcNamed Rows.fnBitlshiftRow.func = some 7 := by kernel_rfl
theorem wrap7 : Tryz.f7.isWrapper Tryz.pinned.checked.prog Rows.fnBitlshiftRow.wrapper Rows.fnBitlshiftRow.mainSum := by
  unfold Func.isWrapper; first | (rw [if_pos (by decide +kernel)]; kernel_rfl) | (rw [if_neg (by decide +kernel)]; exact ⟨rfl, rfl⟩)
theorem inst7 : Tryz.f7.isInstance Tryz.pinned.checked.prog Rows.fnBitlshiftRow.origin Rows.fnBitlshiftRow.targs := of_decide_eq_true (by kernel_rfl)
theorem row_holds : Rows.FnBitlshiftSaid :=
  OpenClaim.holds_of_wide 7 Tryz.f7 rfl rfl rfl rfl rfl rfl rfl ⟨rfl, rfl, rfl, rfl, rfl⟩ rfl rfl rfl rfl rfl named7 Tryz.func7 joined inst7 wrap7
    (fun os started H enc _ => lifted os started H enc)
end Go.Proofs.YtjobmjfdlkjaoaaGreatDoor
