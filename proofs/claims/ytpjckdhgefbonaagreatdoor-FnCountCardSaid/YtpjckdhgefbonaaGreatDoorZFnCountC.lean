/- FnCount: whatever the input, the law says true. -/
import Derived.Test.YtpjckdhgefbonaaGreatDoorZFnCountR2
namespace Go.Proofs.YtpjckdhgefbonaaGreatDoor
set_option linter.unusedVariables false
set_option linter.unusedSimpArgs false
open Go

set_option maxRecDepth 100000 in
theorem card_holds : Rows.FnCountCardSaid :=
  Claim7.holds_tied_plain_at .later [] [.data, .data, .widerDeep, .widerDeep, .data, .data, .data, .data, .data, .sentinel, .sentinel, .pinned, .pinned] true (true, "2f7a120490edf9ec397375e021782fc2cb9759b14c387fe22973894ac8b5caf3") true
    row_holds (fun _ h => by cases h) (by kernel_rfl) (fun _ h => by cases h) fnCount_row_tie rfl ⟨rfl, rfl⟩ (by kernel_rfl) rfl
    (fun f fn hf hfn => by
      obtain rfl : f = 5 := Option.some.inj (named5.symm.trans hf) |>.symm
      obtain rfl : fn = Tryz.f5 := (Option.some.inj (Tryz.func5.symm.trans hfn)).symm
      exact ⟨by kernel_rfl, fun j t ht => by
        rw [Tryz.params5] at ht
        have hm : t ∈ [38, 3, 38] := by simpa using Array.mem_of_getElem? ht
        have hall : ([38, 3, 38].all fun u => !Tryz.prog.wantsStandIn u) = true := by kernel_rfl
        exact (show Tryz.prog.wantsStandIn t = false by simpa using List.all_eq_true.1 hall t hm)⟩)
    (by kernel_rfl)

#print axioms card_holds
end Go.Proofs.YtpjckdhgefbonaaGreatDoor
