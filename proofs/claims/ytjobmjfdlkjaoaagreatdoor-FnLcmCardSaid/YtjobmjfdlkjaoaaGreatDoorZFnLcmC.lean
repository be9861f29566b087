/- FnLcm: whatever the input, the law says true. -/
import Derived.Test.YtjobmjfdlkjaoaaGreatDoorZFnLcmR2
namespace Go.Proofs.YtjobmjfdlkjaoaaGreatDoor
set_option linter.unusedVariables false
set_option linter.unusedSimpArgs false
open Go

set_option maxRecDepth 100000 in
theorem card_holds : Rows.FnLcmCardSaid :=
  Claim7.holds_tied_plain_at .later [] [.data, .data, .widerDeep, .widerDeep, .data, .data, .data, .data, .data, .sentinel, .sentinel, .pinned, .pinned] true (true, "b31ba4de9cd72601eb1195575381fa83d2169827c2f63fc2269c639d34a695cf") true
    row_holds (fun _ h => by cases h) (by kernel_rfl) (fun _ h => by cases h) fnLcm_row_tie rfl ⟨rfl, rfl⟩ (by kernel_rfl) rfl
    (fun f fn hf hfn => by
      obtain rfl : f = 8 := Option.some.inj (named8.symm.trans hf) |>.symm
      obtain rfl : fn = Tryz.f8 := (Option.some.inj (Tryz.func8.symm.trans hfn)).symm
      exact ⟨by kernel_rfl, fun j t ht => by
        rw [Tryz.params8] at ht
        have hm : t ∈ [31] := by simpa using Array.mem_of_getElem? ht
        have hall : ([31].all fun u => !Tryz.prog.wantsStandIn u) = true := by kernel_rfl
        exact (show Tryz.prog.wantsStandIn t = false by simpa using List.all_eq_true.1 hall t hm)⟩)
    (by kernel_rfl)

#print axioms card_holds
end Go.Proofs.YtjobmjfdlkjaoaaGreatDoor
