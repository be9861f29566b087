/- FnRight: the row and the card. -/
import Derived.Test.YteghibfaiifdoaaGreatDoorRows
import Derived.JoinedOf
import Derived.KernelRfl
namespace Go.Proofs.YteghibfaiifdoaaGreatDoor
set_option linter.unusedVariables false
set_option linter.unusedSimpArgs false
open Go
theorem jf0 : (Rows.fnRightRow.wf (OpenSpec.ofChange Rows.fnRightSpec)) = true := by kernel_rfl
theorem jf1 : (laidOutB Tryz.prog) = true := by kernel_rfl
theorem jf2 : (mapsRowed Tryz.prog) = true := by kernel_rfl
theorem jf3 : (Tryz.f5.params.all (Tryz.prog.readableRec ·)) = true := by kernel_rfl
theorem jf4 : (namedTie Tryz.prog Rows.fnRightRow.named Rows.fnRightSpec.vars) = true := by kernel_rfl
theorem jf5 : ((Rows.fnRightRow.stops == [])) = true := by kernel_rfl
theorem jf6 : ((Tryz.prog.stops == [])) = true := by kernel_rfl
theorem jf7 : ((Rows.fnRightRow.knobs == [])) = true := by kernel_rfl
theorem jf8 : ((Tryz.prog.stopKnobs == [])) = true := by kernel_rfl
theorem jf9 : ((Rows.fnRightRow.inPlace == Tryz.prog.inPlace 5)) = true := by kernel_rfl
theorem jf10 : ((Rows.fnRightRow.unfollowed == Tryz.prog.unfollowed 5)) = true := by kernel_rfl
theorem jf11 : ((Rows.fnRightRow.recurses == Tryz.prog.recurses 5)) = true := by kernel_rfl
theorem jf12 : ((Rows.fnRightRow.named == Tryz.prog.varsNamed 5)) = true := by kernel_rfl
theorem jf13 : ((Rows.fnRightRow.maps == (Tryz.f5.params.toList ++ Rows.fnRightSpec.plain.varTypes Tryz.prog).any (Tryz.prog.mapsRec ·))) = true := by kernel_rfl
theorem jf14 : ((Rows.fnRightRow.ifaces == (Tryz.f5.params.toList ++ Rows.fnRightSpec.plain.varTypes Tryz.prog).any (Tryz.prog.ifacesRec ·))) = true := by kernel_rfl
theorem jf15 : ((Rows.fnRightRow.mapsOut == Tryz.prog.mapsAmong Tryz.f5.resultTypes.toList)) = true := by kernel_rfl
theorem jf16 : ((Rows.fnRightRow.loops == (Tryz.f5.params.toList ++ Rows.fnRightSpec.plain.varTypes Tryz.prog).any (Tryz.prog.loopsFrom ·))) = true := by kernel_rfl
theorem jf17 : ((Rows.fnRightRow.wideKeys == (Tryz.f5.params.toList ++ Rows.fnRightSpec.plain.varTypes Tryz.prog ++ Tryz.f5.resultTypes.toList).any (Tryz.prog.wideKeysFrom ·))) = true := by kernel_rfl
theorem jf18 : (Rows.fnRightSpec.vars.all (Tryz.prog.varReadable ·)) = true := by kernel_rfl
theorem jf19 : (Tryz.f5.resultTypes.all (fun t => Tryz.prog.readableRec t && decide (t < Tryz.prog.types.size))) = true := by kernel_rfl
theorem jf20 : ((Rows.fnRightRow.ifacesOut == Tryz.f5.resultTypes.toList.any (Tryz.prog.ifacesRec ·))) = true := by kernel_rfl
theorem jf21 : ((Rows.fnRightRow.loopsOut == Tryz.f5.resultTypes.toList.any (Tryz.prog.loopsFrom ·))) = true := by kernel_rfl
theorem jf22 : ((Rows.fnRightRow.plainKeys == Tryz.prog.plainKeys)) = true := by kernel_rfl
theorem jf23 : (Rows.fnRightRow.shortTexts.isNone) = true := by kernel_rfl
theorem jf24 : (Tryz.prog.stopsHeard) = true := by kernel_rfl
theorem jf25 : (Tryz.prog.mayEnter) = true := by kernel_rfl
theorem jf26 : ((Rows.fnRightRow.lifted == Tryz.prog.liftsFinal)) = true := by kernel_rfl
theorem jf27 : ((Tryz.prog.make == some Rows.fnRightRow.make)) = true := by kernel_rfl
theorem jf28 : ((Rows.fnRightRow.kinds == (if Rows.fnRightRow.domain.isEmpty then [] else Tryz.f5.params.toList.map fun t => match Tryz.prog.underlying t with | some (.int k) => some k | _ => none))) = true := by kernel_rfl
theorem jf29 : ((Rows.fnRightRow.pinned == Rows.fnRightRow.pinnedBy)) = true := by kernel_rfl
theorem jf30 : ((Rows.fnRightRow.veiled == (Tryz.f5.params.toList ++ Rows.fnRightSpec.plain.varTypes Tryz.prog ++ Tryz.f5.resultTypes.toList).any (Tryz.prog.veiledRec ·))) = true := by kernel_rfl
theorem jf31 : (Rows.fnRightRow.veiledFits Tryz.prog Tryz.f5.params.toList (Tryz.f5.params.toList ++ Rows.fnRightSpec.plain.varTypes Tryz.prog ++ Tryz.f5.resultTypes.toList)) = true := by kernel_rfl
end Go.Proofs.YteghibfaiifdoaaGreatDoor
