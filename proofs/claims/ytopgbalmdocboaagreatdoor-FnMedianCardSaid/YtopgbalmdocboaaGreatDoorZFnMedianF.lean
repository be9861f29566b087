/- FnMedian: the row and the card. -/
import Derived.Test.YtopgbalmdocboaaGreatDoorRows
import Derived.JoinedOf
import Derived.KernelRfl
namespace Go.Proofs.YtopgbalmdocboaaGreatDoor
set_option linter.unusedVariables false
set_option linter.unusedSimpArgs false
open Go
theorem jf0 : (Rows.fnMedianRow.wf (OpenSpec.ofChange Rows.fnMedianSpec)) = true := by kernel_rfl
theorem jf1 : (laidOutB Tryz.prog) = true := by kernel_rfl
theorem jf2 : (mapsRowed Tryz.prog) = true := by kernel_rfl
theorem jf3 : (Tryz.f5.params.all (Tryz.prog.readableRec ·)) = true := by kernel_rfl
theorem jf4 : (namedTie Tryz.prog Rows.fnMedianRow.named Rows.fnMedianSpec.vars) = true := by kernel_rfl
theorem jf5 : ((Rows.fnMedianRow.stops == [])) = true := by kernel_rfl
theorem jf6 : ((Tryz.prog.stops == [])) = true := by kernel_rfl
theorem jf7 : ((Rows.fnMedianRow.knobs == [])) = true := by kernel_rfl
theorem jf8 : ((Tryz.prog.stopKnobs == [])) = true := by kernel_rfl
theorem jf9 : ((Rows.fnMedianRow.inPlace == Tryz.prog.inPlace 5)) = true := by kernel_rfl
theorem jf10 : ((Rows.fnMedianRow.unfollowed == Tryz.prog.unfollowed 5)) = true := by kernel_rfl
theorem jf11 : ((Rows.fnMedianRow.recurses == Tryz.prog.recurses 5)) = true := by kernel_rfl
theorem jf12 : ((Rows.fnMedianRow.named == Tryz.prog.varsNamed 5)) = true := by kernel_rfl
theorem jf13 : ((Rows.fnMedianRow.maps == (Tryz.f5.params.toList ++ Rows.fnMedianSpec.plain.varTypes Tryz.prog).any (Tryz.prog.mapsRec ·))) = true := by kernel_rfl
theorem jf14 : ((Rows.fnMedianRow.ifaces == (Tryz.f5.params.toList ++ Rows.fnMedianSpec.plain.varTypes Tryz.prog).any (Tryz.prog.ifacesRec ·))) = true := by kernel_rfl
theorem jf15 : ((Rows.fnMedianRow.mapsOut == Tryz.prog.mapsAmong Tryz.f5.resultTypes.toList)) = true := by kernel_rfl
theorem jf16 : ((Rows.fnMedianRow.loops == (Tryz.f5.params.toList ++ Rows.fnMedianSpec.plain.varTypes Tryz.prog).any (Tryz.prog.loopsFrom ·))) = true := by kernel_rfl
theorem jf17 : ((Rows.fnMedianRow.wideKeys == (Tryz.f5.params.toList ++ Rows.fnMedianSpec.plain.varTypes Tryz.prog ++ Tryz.f5.resultTypes.toList).any (Tryz.prog.wideKeysFrom ·))) = true := by kernel_rfl
theorem jf18 : (Rows.fnMedianSpec.vars.all (Tryz.prog.varReadable ·)) = true := by kernel_rfl
theorem jf19 : (Tryz.f5.resultTypes.all (fun t => Tryz.prog.readableRec t && decide (t < Tryz.prog.types.size))) = true := by kernel_rfl
theorem jf20 : ((Rows.fnMedianRow.ifacesOut == Tryz.f5.resultTypes.toList.any (Tryz.prog.ifacesRec ·))) = true := by kernel_rfl
theorem jf21 : ((Rows.fnMedianRow.loopsOut == Tryz.f5.resultTypes.toList.any (Tryz.prog.loopsFrom ·))) = true := by kernel_rfl
theorem jf22 : ((Rows.fnMedianRow.plainKeys == Tryz.prog.plainKeys)) = true := by kernel_rfl
theorem jf23 : (Rows.fnMedianRow.shortTexts.isNone) = true := by kernel_rfl
theorem jf24 : (Tryz.prog.stopsHeard) = true := by kernel_rfl
theorem jf25 : (Tryz.prog.mayEnter) = true := by kernel_rfl
theorem jf26 : ((Rows.fnMedianRow.lifted == Tryz.prog.liftsFinal)) = true := by kernel_rfl
theorem jf27 : ((Tryz.prog.make == some Rows.fnMedianRow.make)) = true := by kernel_rfl
theorem jf28 : ((Rows.fnMedianRow.kinds == (if Rows.fnMedianRow.domain.isEmpty then [] else Tryz.f5.params.toList.map fun t => match Tryz.prog.underlying t with | some (.int k) => some k | _ => none))) = true := by kernel_rfl
theorem jf29 : ((Rows.fnMedianRow.pinned == Rows.fnMedianRow.pinnedBy)) = true := by kernel_rfl
theorem jf30 : ((Rows.fnMedianRow.veiled == (Tryz.f5.params.toList ++ Rows.fnMedianSpec.plain.varTypes Tryz.prog ++ Tryz.f5.resultTypes.toList).any (Tryz.prog.veiledRec ·))) = true := by kernel_rfl
theorem jf31 : (Rows.fnMedianRow.veiledFits Tryz.prog Tryz.f5.params.toList (Tryz.f5.params.toList ++ Rows.fnMedianSpec.plain.varTypes Tryz.prog ++ Tryz.f5.resultTypes.toList)) = true := by kernel_rfl
end Go.Proofs.YtopgbalmdocboaaGreatDoor
