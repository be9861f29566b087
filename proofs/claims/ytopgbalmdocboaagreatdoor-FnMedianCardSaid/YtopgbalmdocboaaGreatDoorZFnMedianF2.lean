/- FnMedian: the row and the card. -/
import Derived.Test.YtopgbalmdocboaaGreatDoorZFnMedianF
namespace Go.Proofs.YtopgbalmdocboaaGreatDoor
set_option linter.unusedVariables false
set_option linter.unusedSimpArgs false
open Go
theorem and2 {a b : Bool} (h : a = true) (h2 : b = true) : (a && b) = true := by rw [h, h2]; rfl
set_option maxRecDepth 100000 in
theorem joined : joinedFacts Tryz.prog 5 Tryz.f5 Rows.fnMedianSpec Rows.fnMedianRow = true := by
  unfold joinedFacts
  exact (and2 (and2 (and2 (and2 (and2 (and2 (and2 (and2 (and2 (and2 (and2 (and2 (and2 (and2 (and2 (and2 (and2 (and2 (and2 (and2 (and2 (and2 (and2 (and2 (and2 (and2 (and2 (and2 (and2 (and2 (and2 jf0 jf1) jf2) jf3) jf4) jf5) jf6) jf7) jf8) jf9) jf10) jf11) jf12) jf13) jf14) jf15) jf16) jf17) jf18) jf19) jf20) jf21) jf22) jf23) jf24) jf25) jf26) jf27) jf28) jf29) jf30) jf31)
end Go.Proofs.YtopgbalmdocboaaGreatDoor
