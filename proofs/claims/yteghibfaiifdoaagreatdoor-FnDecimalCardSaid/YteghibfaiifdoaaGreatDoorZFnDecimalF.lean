/- FnDecimal: the row and the card. -/
import Derived.Test.YteghibfaiifdoaaGreatDoorRows
import Derived.JoinedOf
import Derived.KernelRfl
namespace Go.Proofs.YteghibfaiifdoaaGreatDoor
set_option linter.unusedVariables false
set_option linter.unusedSimpArgs false
open Go
theorem jf0 : (Rows.fnDecimalRow.wf (OpenSpec.ofChange Rows.fnDecimalSpec)) = true := by kernel_rfl
theorem jf1 : (laidOutB Tryz.prog) = true := by kernel_rfl
theorem jf2 : (mapsRowed Tryz.prog) = true := by kernel_rfl
theorem jf3 : (Tryz.f7.params.all (Tryz.prog.readableRec ·)) = true := by kernel_rfl
theorem jf4 : (namedTie Tryz.prog Rows.fnDecimalRow.named Rows.fnDecimalSpec.vars) = true := by kernel_rfl
theorem jf5 : ((Rows.fnDecimalRow.stops == [])) = true := by kernel_rfl
theorem jf6 : ((Tryz.prog.stops == [])) = true := by kernel_rfl
theorem jf7 : ((Rows.fnDecimalRow.knobs == [])) = true := by kernel_rfl
theorem jf8 : ((Tryz.prog.stopKnobs == [])) = true := by kernel_rfl
theorem jf9 : ((Rows.fnDecimalRow.inPlace == Tryz.prog.inPlace 7)) = true := by kernel_rfl
theorem jf10 : ((Rows.fnDecimalRow.unfollowed == Tryz.prog.unfollowed 7)) = true := by kernel_rfl
theorem jf11 : ((Rows.fnDecimalRow.recurses == Tryz.prog.recurses 7)) = true := by kernel_rfl
theorem jf12 : ((Rows.fnDecimalRow.named == Tryz.prog.varsNamed 7)) = true := by kernel_rfl
theorem jf13 : ((Rows.fnDecimalRow.maps == (Tryz.f7.params.toList ++ Rows.fnDecimalSpec.plain.varTypes Tryz.prog).any (Tryz.prog.mapsRec ·))) = true := by kernel_rfl
theorem jf14 : ((Rows.fnDecimalRow.ifaces == (Tryz.f7.params.toList ++ Rows.fnDecimalSpec.plain.varTypes Tryz.prog).any (Tryz.prog.ifacesRec ·))) = true := by kernel_rfl
theorem jf15 : ((Rows.fnDecimalRow.mapsOut == Tryz.prog.mapsAmong Tryz.f7.resultTypes.toList)) = true := by kernel_rfl
theorem jf16 : ((Rows.fnDecimalRow.loops == (Tryz.f7.params.toList ++ Rows.fnDecimalSpec.plain.varTypes Tryz.prog).any (Tryz.prog.loopsFrom ·))) = true := by kernel_rfl
theorem jf17 : ((Rows.fnDecimalRow.wideKeys == (Tryz.f7.params.toList ++ Rows.fnDecimalSpec.plain.varTypes Tryz.prog ++ Tryz.f7.resultTypes.toList).any (Tryz.prog.wideKeysFrom ·))) = true := by kernel_rfl
theorem jf18 : (Rows.fnDecimalSpec.vars.all (Tryz.prog.varReadable ·)) = true := by kernel_rfl
theorem jf19 : (Tryz.f7.resultTypes.all (fun t => Tryz.prog.readableRec t && decide (t < Tryz.prog.types.size))) = true := by kernel_rfl
theorem jf20 : ((Rows.fnDecimalRow.ifacesOut == Tryz.f7.resultTypes.toList.any (Tryz.prog.ifacesRec ·))) = true := by kernel_rfl
theorem jf21 : ((Rows.fnDecimalRow.loopsOut == Tryz.f7.resultTypes.toList.any (Tryz.prog.loopsFrom ·))) = true := by kernel_rfl
theorem jf22 : ((Rows.fnDecimalRow.plainKeys == Tryz.prog.plainKeys)) = true := by kernel_rfl
theorem jf23 : (Rows.fnDecimalRow.shortTexts.isNone) = true := by kernel_rfl
theorem jf24 : (Tryz.prog.stopsHeard) = true := by kernel_rfl
theorem jf25 : (Tryz.prog.mayEnter) = true := by kernel_rfl
theorem jf26 : ((Rows.fnDecimalRow.lifted == Tryz.prog.liftsFinal)) = true := by kernel_rfl
theorem jf27 : ((Tryz.prog.make == some Rows.fnDecimalRow.make)) = true := by kernel_rfl
theorem jf28 : ((Rows.fnDecimalRow.kinds == (if Rows.fnDecimalRow.domain.isEmpty then [] else Tryz.f7.params.toList.map fun t => match Tryz.prog.underlying t with | some (.int k) => some k | _ => none))) = true := by kernel_rfl
theorem jf29 : ((Rows.fnDecimalRow.pinned == Rows.fnDecimalRow.pinnedBy)) = true := by kernel_rfl
theorem jf30 : ((Rows.fnDecimalRow.veiled == (Tryz.f7.params.toList ++ Rows.fnDecimalSpec.plain.varTypes Tryz.prog ++ Tryz.f7.resultTypes.toList).any (Tryz.prog.veiledRec ·))) = true := by kernel_rfl
theorem jf31 : (Rows.fnDecimalRow.veiledFits Tryz.prog Tryz.f7.params.toList (Tryz.f7.params.toList ++ Rows.fnDecimalSpec.plain.varTypes Tryz.prog ++ Tryz.f7.resultTypes.toList)) = true := by kernel_rfl
end Go.Proofs.YteghibfaiifdoaaGreatDoor
