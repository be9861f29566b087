/- FnReplace: the row and the card. -/
import Derived.Test.YteghibfaiifdoaaGreatDoorRows
import Derived.JoinedOf
import Derived.KernelRfl
namespace Go.Proofs.YteghibfaiifdoaaGreatDoor
set_option linter.unusedVariables false
set_option linter.unusedSimpArgs false
open Go
theorem jf0 : (Rows.fnReplaceRow.wf (OpenSpec.ofChange Rows.fnReplaceSpec)) = true := by kernel_rfl
theorem jf1 : (laidOutB Tryz.prog) = true := by kernel_rfl
theorem jf2 : (mapsRowed Tryz.prog) = true := by kernel_rfl
theorem jf3 : (Tryz.f4.params.all (Tryz.prog.readableRec ·)) = true := by kernel_rfl
theorem jf4 : (namedTie Tryz.prog Rows.fnReplaceRow.named Rows.fnReplaceSpec.vars) = true := by kernel_rfl
theorem jf5 : ((Rows.fnReplaceRow.stops == [])) = true := by kernel_rfl
theorem jf6 : ((Tryz.prog.stops == [])) = true := by kernel_rfl
theorem jf7 : ((Rows.fnReplaceRow.knobs == [])) = true := by kernel_rfl
theorem jf8 : ((Tryz.prog.stopKnobs == [])) = true := by kernel_rfl
theorem jf9 : ((Rows.fnReplaceRow.inPlace == Tryz.prog.inPlace 4)) = true := by kernel_rfl
theorem jf10 : ((Rows.fnReplaceRow.unfollowed == Tryz.prog.unfollowed 4)) = true := by kernel_rfl
theorem jf11 : ((Rows.fnReplaceRow.recurses == Tryz.prog.recurses 4)) = true := by kernel_rfl
theorem jf12 : ((Rows.fnReplaceRow.named == Tryz.prog.varsNamed 4)) = true := by kernel_rfl
theorem jf13 : ((Rows.fnReplaceRow.maps == (Tryz.f4.params.toList ++ Rows.fnReplaceSpec.plain.varTypes Tryz.prog).any (Tryz.prog.mapsRec ·))) = true := by kernel_rfl
theorem jf14 : ((Rows.fnReplaceRow.ifaces == (Tryz.f4.params.toList ++ Rows.fnReplaceSpec.plain.varTypes Tryz.prog).any (Tryz.prog.ifacesRec ·))) = true := by kernel_rfl
theorem jf15 : ((Rows.fnReplaceRow.mapsOut == Tryz.prog.mapsAmong Tryz.f4.resultTypes.toList)) = true := by kernel_rfl
theorem jf16 : ((Rows.fnReplaceRow.loops == (Tryz.f4.params.toList ++ Rows.fnReplaceSpec.plain.varTypes Tryz.prog).any (Tryz.prog.loopsFrom ·))) = true := by kernel_rfl
theorem jf17 : ((Rows.fnReplaceRow.wideKeys == (Tryz.f4.params.toList ++ Rows.fnReplaceSpec.plain.varTypes Tryz.prog ++ Tryz.f4.resultTypes.toList).any (Tryz.prog.wideKeysFrom ·))) = true := by kernel_rfl
theorem jf18 : (Rows.fnReplaceSpec.vars.all (Tryz.prog.varReadable ·)) = true := by kernel_rfl
theorem jf19 : (Tryz.f4.resultTypes.all (fun t => Tryz.prog.readableRec t && decide (t < Tryz.prog.types.size))) = true := by kernel_rfl
theorem jf20 : ((Rows.fnReplaceRow.ifacesOut == Tryz.f4.resultTypes.toList.any (Tryz.prog.ifacesRec ·))) = true := by kernel_rfl
theorem jf21 : ((Rows.fnReplaceRow.loopsOut == Tryz.f4.resultTypes.toList.any (Tryz.prog.loopsFrom ·))) = true := by kernel_rfl
theorem jf22 : ((Rows.fnReplaceRow.plainKeys == Tryz.prog.plainKeys)) = true := by kernel_rfl
theorem jf23 : (Rows.fnReplaceRow.shortTexts.isNone) = true := by kernel_rfl
theorem jf24 : (Tryz.prog.stopsHeard) = true := by kernel_rfl
theorem jf25 : (Tryz.prog.mayEnter) = true := by kernel_rfl
theorem jf26 : ((Rows.fnReplaceRow.lifted == Tryz.prog.liftsFinal)) = true := by kernel_rfl
theorem jf27 : ((Tryz.prog.make == some Rows.fnReplaceRow.make)) = true := by kernel_rfl
theorem jf28 : ((Rows.fnReplaceRow.kinds == (if Rows.fnReplaceRow.domain.isEmpty then [] else Tryz.f4.params.toList.map fun t => match Tryz.prog.underlying t with | some (.int k) => some k | _ => none))) = true := by kernel_rfl
theorem jf29 : ((Rows.fnReplaceRow.pinned == Rows.fnReplaceRow.pinnedBy)) = true := by kernel_rfl
theorem jf30 : ((Rows.fnReplaceRow.veiled == (Tryz.f4.params.toList ++ Rows.fnReplaceSpec.plain.varTypes Tryz.prog ++ Tryz.f4.resultTypes.toList).any (Tryz.prog.veiledRec ·))) = true := by kernel_rfl
theorem jf31 : (Rows.fnReplaceRow.veiledFits Tryz.prog Tryz.f4.params.toList (Tryz.f4.params.toList ++ Rows.fnReplaceSpec.plain.varTypes Tryz.prog ++ Tryz.f4.resultTypes.toList)) = true := by kernel_rfl
end Go.Proofs.YteghibfaiifdoaaGreatDoor
