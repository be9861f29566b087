/- FnChoose: whatever the input, the law says true. -/
import Derived.Test.YtopgbalmdocboaaGreatDoorZFnChooseR2
namespace Go.Proofs.YtopgbalmdocboaaGreatDoor
set_option linter.unusedVariables false
set_option linter.unusedSimpArgs false
open Go

set_option maxRecDepth 100000 in
theorem card_holds : Rows.FnChooseCardSaid :=
  Claim7.holds_tied_plain_at .later [] [.data, .data, .data, .data, .sentinel, .sentinel, .pinned, .pinned] true (true, "b93f8ad85227e29a51c47272d20610baea2326c9dc5df8bde6646eba77a2d81a") true
    row_holds (fun _ h => by cases h) (by kernel_rfl) (fun _ h => by cases h) fnChoose_row_tie rfl ⟨rfl, rfl⟩ (by kernel_rfl) rfl
    (fun f fn hf hfn => by
      obtain rfl : f = 4 := Option.some.inj (named4.symm.trans hf) |>.symm
      obtain rfl : fn = Tryz.f4 := (Option.some.inj (Tryz.func4.symm.trans hfn)).symm
      exact ⟨by kernel_rfl, fun j t ht => by
        rw [Tryz.params4] at ht
        have hm : t ∈ [3, 31] := by simpa using Array.mem_of_getElem? ht
        have hall : ([3, 31].all fun u => !Tryz.prog.wantsStandIn u) = true := by kernel_rfl
        exact (show Tryz.prog.wantsStandIn t = false by simpa using List.all_eq_true.1 hall t hm)⟩)
    (by kernel_rfl)

#print axioms card_holds
end Go.Proofs.YtopgbalmdocboaaGreatDoor
