/- FnIf: the row and the card. -/
import Derived.Test.YteghibfaiifdoaaGreatDoorRows
import Derived.JoinedOf
import Derived.KernelRfl
namespace Go.Proofs.YteghibfaiifdoaaGreatDoor
set_option linter.unusedVariables false
set_option linter.unusedSimpArgs false
open Go
theorem jf0 : (Rows.fnIfRow.wf (OpenSpec.ofChange Rows.fnIfSpec)) = true := by kernel_rfl
theorem jf1 : (laidOutB Tryz.prog) = true := by kernel_rfl
theorem jf2 : (mapsRowed Tryz.prog) = true := by kernel_rfl
theorem jf3 : (Tryz.f6.params.all (Tryz.prog.readableRec ·)) = true := by kernel_rfl
theorem jf4 : (namedTie Tryz.prog Rows.fnIfRow.named Rows.fnIfSpec.vars) = true := by kernel_rfl
theorem jf5 : ((Rows.fnIfRow.stops == [])) = true := by kernel_rfl
theorem jf6 : ((Tryz.prog.stops == [])) = true := by kernel_rfl
theorem jf7 : ((Rows.fnIfRow.knobs == [])) = true := by kernel_rfl
theorem jf8 : ((Tryz.prog.stopKnobs == [])) = true := by kernel_rfl
theorem jf9 : ((Rows.fnIfRow.inPlace == Tryz.prog.inPlace 6)) = true := by kernel_rfl
theorem jf10 : ((Rows.fnIfRow.unfollowed == Tryz.prog.unfollowed 6)) = true := by kernel_rfl
theorem jf11 : ((Rows.fnIfRow.recurses == Tryz.prog.recurses 6)) = true := by kernel_rfl
theorem jf12 : ((Rows.fnIfRow.named == Tryz.prog.varsNamed 6)) = true := by kernel_rfl
theorem jf13 : ((Rows.fnIfRow.maps == (Tryz.f6.params.toList ++ Rows.fnIfSpec.plain.varTypes Tryz.prog).any (Tryz.prog.mapsRec ·))) = true := by kernel_rfl
theorem jf14 : ((Rows.fnIfRow.ifaces == (Tryz.f6.params.toList ++ Rows.fnIfSpec.plain.varTypes Tryz.prog).any (Tryz.prog.ifacesRec ·))) = true := by kernel_rfl
theorem jf15 : ((Rows.fnIfRow.mapsOut == Tryz.prog.mapsAmong Tryz.f6.resultTypes.toList)) = true := by kernel_rfl
theorem jf16 : ((Rows.fnIfRow.loops == (Tryz.f6.params.toList ++ Rows.fnIfSpec.plain.varTypes Tryz.prog).any (Tryz.prog.loopsFrom ·))) = true := by kernel_rfl
theorem jf17 : ((Rows.fnIfRow.wideKeys == (Tryz.f6.params.toList ++ Rows.fnIfSpec.plain.varTypes Tryz.prog ++ Tryz.f6.resultTypes.toList).any (Tryz.prog.wideKeysFrom ·))) = true := by kernel_rfl
theorem jf18 : (Rows.fnIfSpec.vars.all (Tryz.prog.varReadable ·)) = true := by kernel_rfl
theorem jf19 : (Tryz.f6.resultTypes.all (fun t => Tryz.prog.readableRec t && decide (t < Tryz.prog.types.size))) = true := by kernel_rfl
theorem jf20 : ((Rows.fnIfRow.ifacesOut == Tryz.f6.resultTypes.toList.any (Tryz.prog.ifacesRec ·))) = true := by kernel_rfl
theorem jf21 : ((Rows.fnIfRow.loopsOut == Tryz.f6.resultTypes.toList.any (Tryz.prog.loopsFrom ·))) = true := by kernel_rfl
theorem jf22 : ((Rows.fnIfRow.plainKeys == Tryz.prog.plainKeys)) = true := by kernel_rfl
theorem jf23 : (Rows.fnIfRow.shortTexts.isNone) = true := by kernel_rfl
theorem jf24 : (Tryz.prog.stopsHeard) = true := by kernel_rfl
theorem jf25 : (Tryz.prog.mayEnter) = true := by kernel_rfl
theorem jf26 : ((Rows.fnIfRow.lifted == Tryz.prog.liftsFinal)) = true := by kernel_rfl
theorem jf27 : ((Tryz.prog.make == some Rows.fnIfRow.make)) = true := by kernel_rfl
theorem jf28 : ((Rows.fnIfRow.kinds == (if Rows.fnIfRow.domain.isEmpty then [] else Tryz.f6.params.toList.map fun t => match Tryz.prog.underlying t with | some (.int k) => some k | _ => none))) = true := by kernel_rfl
theorem jf29 : ((Rows.fnIfRow.pinned == Rows.fnIfRow.pinnedBy)) = true := by kernel_rfl
theorem jf30 : ((Rows.fnIfRow.veiled == (Tryz.f6.params.toList ++ Rows.fnIfSpec.plain.varTypes Tryz.prog ++ Tryz.f6.resultTypes.toList).any (Tryz.prog.veiledRec ·))) = true := by kernel_rfl
theorem jf31 : (Rows.fnIfRow.veiledFits Tryz.prog Tryz.f6.params.toList (Tryz.f6.params.toList ++ Rows.fnIfSpec.plain.varTypes Tryz.prog ++ Tryz.f6.resultTypes.toList)) = true := by kernel_rfl
end Go.Proofs.YteghibfaiifdoaaGreatDoor
