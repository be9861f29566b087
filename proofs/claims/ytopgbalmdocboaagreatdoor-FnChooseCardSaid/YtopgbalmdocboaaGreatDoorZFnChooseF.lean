/- FnChoose: the row and the card. -/
import Derived.Test.YtopgbalmdocboaaGreatDoorRows
import Derived.JoinedOf
import Derived.KernelRfl
namespace Go.Proofs.YtopgbalmdocboaaGreatDoor
set_option linter.unusedVariables false
set_option linter.unusedSimpArgs false
open Go
theorem jf0 : (Rows.fnChooseRow.wf (OpenSpec.ofChange Rows.fnChooseSpec)) = true := by kernel_rfl
theorem jf1 : (laidOutB Tryz.prog) = true := by kernel_rfl
theorem jf2 : (mapsRowed Tryz.prog) = true := by kernel_rfl
theorem jf3 : (Tryz.f4.params.all (Tryz.prog.readableRec ·)) = true := by kernel_rfl
theorem jf4 : (namedTie Tryz.prog Rows.fnChooseRow.named Rows.fnChooseSpec.vars) = true := by kernel_rfl
theorem jf5 : ((Rows.fnChooseRow.stops == [])) = true := by kernel_rfl
theorem jf6 : ((Tryz.prog.stops == [])) = true := by kernel_rfl
theorem jf7 : ((Rows.fnChooseRow.knobs == [])) = true := by kernel_rfl
theorem jf8 : ((Tryz.prog.stopKnobs == [])) = true := by kernel_rfl
theorem jf9 : ((Rows.fnChooseRow.inPlace == Tryz.prog.inPlace 4)) = true := by kernel_rfl
theorem jf10 : ((Rows.fnChooseRow.unfollowed == Tryz.prog.unfollowed 4)) = true := by kernel_rfl
theorem jf11 : ((Rows.fnChooseRow.recurses == Tryz.prog.recurses 4)) = true := by kernel_rfl
theorem jf12 : ((Rows.fnChooseRow.named == Tryz.prog.varsNamed 4)) = true := by kernel_rfl
theorem jf13 : ((Rows.fnChooseRow.maps == (Tryz.f4.params.toList ++ Rows.fnChooseSpec.plain.varTypes Tryz.prog).any (Tryz.prog.mapsRec ·))) = true := by kernel_rfl
theorem jf14 : ((Rows.fnChooseRow.ifaces == (Tryz.f4.params.toList ++ Rows.fnChooseSpec.plain.varTypes Tryz.prog).any (Tryz.prog.ifacesRec ·))) = true := by kernel_rfl
theorem jf15 : ((Rows.fnChooseRow.mapsOut == Tryz.prog.mapsAmong Tryz.f4.resultTypes.toList)) = true := by kernel_rfl
theorem jf16 : ((Rows.fnChooseRow.loops == (Tryz.f4.params.toList ++ Rows.fnChooseSpec.plain.varTypes Tryz.prog).any (Tryz.prog.loopsFrom ·))) = true := by kernel_rfl
theorem jf17 : ((Rows.fnChooseRow.wideKeys == (Tryz.f4.params.toList ++ Rows.fnChooseSpec.plain.varTypes Tryz.prog ++ Tryz.f4.resultTypes.toList).any (Tryz.prog.wideKeysFrom ·))) = true := by kernel_rfl
theorem jf18 : (Rows.fnChooseSpec.vars.all (Tryz.prog.varReadable ·)) = true := by kernel_rfl
theorem jf19 : (Tryz.f4.resultTypes.all (fun t => Tryz.prog.readableRec t && decide (t < Tryz.prog.types.size))) = true := by kernel_rfl
theorem jf20 : ((Rows.fnChooseRow.ifacesOut == Tryz.f4.resultTypes.toList.any (Tryz.prog.ifacesRec ·))) = true := by kernel_rfl
theorem jf21 : ((Rows.fnChooseRow.loopsOut == Tryz.f4.resultTypes.toList.any (Tryz.prog.loopsFrom ·))) = true := by kernel_rfl
theorem jf22 : ((Rows.fnChooseRow.plainKeys == Tryz.prog.plainKeys)) = true := by kernel_rfl
theorem jf23 : (Rows.fnChooseRow.shortTexts.isNone) = true := by kernel_rfl
theorem jf24 : (Tryz.prog.stopsHeard) = true := by kernel_rfl
theorem jf25 : (Tryz.prog.mayEnter) = true := by kernel_rfl
theorem jf26 : ((Rows.fnChooseRow.lifted == Tryz.prog.liftsFinal)) = true := by kernel_rfl
theorem jf27 : ((Tryz.prog.make == some Rows.fnChooseRow.make)) = true := by kernel_rfl
theorem jf28 : ((Rows.fnChooseRow.kinds == (if Rows.fnChooseRow.domain.isEmpty then [] else Tryz.f4.params.toList.map fun t => match Tryz.prog.underlying t with | some (.int k) => some k | _ => none))) = true := by kernel_rfl
theorem jf29 : ((Rows.fnChooseRow.pinned == Rows.fnChooseRow.pinnedBy)) = true := by kernel_rfl
theorem jf30 : ((Rows.fnChooseRow.veiled == (Tryz.f4.params.toList ++ Rows.fnChooseSpec.plain.varTypes Tryz.prog ++ Tryz.f4.resultTypes.toList).any (Tryz.prog.veiledRec ·))) = true := by kernel_rfl
theorem jf31 : (Rows.fnChooseRow.veiledFits Tryz.prog Tryz.f4.params.toList (Tryz.f4.params.toList ++ Rows.fnChooseSpec.plain.varTypes Tryz.prog ++ Tryz.f4.resultTypes.toList)) = true := by kernel_rfl
end Go.Proofs.YtopgbalmdocboaaGreatDoor
