/- FnMunit: the row and the card. -/
import Derived.Test.YtpjckdhgefbonaaGreatDoorRows
import Derived.JoinedOf
import Derived.KernelRfl
namespace Go.Proofs.YtpjckdhgefbonaaGreatDoor
set_option linter.unusedVariables false
set_option linter.unusedSimpArgs false
open Go
theorem jf0 : (Rows.fnMunitRow.wf (OpenSpec.ofChange Rows.fnMunitSpec)) = true := by kernel_rfl
theorem jf1 : (laidOutB Tryz.prog) = true := by kernel_rfl
theorem jf2 : (mapsRowed Tryz.prog) = true := by kernel_rfl
theorem jf3 : (Tryz.f4.params.all (Tryz.prog.readableRec ·)) = true := by kernel_rfl
theorem jf4 : (namedTie Tryz.prog Rows.fnMunitRow.named Rows.fnMunitSpec.vars) = true := by kernel_rfl
theorem jf5 : ((Rows.fnMunitRow.stops == [])) = true := by kernel_rfl
theorem jf6 : ((Tryz.prog.stops == [])) = true := by kernel_rfl
theorem jf7 : ((Rows.fnMunitRow.knobs == [])) = true := by kernel_rfl
theorem jf8 : ((Tryz.prog.stopKnobs == [])) = true := by kernel_rfl
theorem jf9 : ((Rows.fnMunitRow.inPlace == Tryz.prog.inPlace 4)) = true := by kernel_rfl
theorem jf10 : ((Rows.fnMunitRow.unfollowed == Tryz.prog.unfollowed 4)) = true := by kernel_rfl
theorem jf11 : ((Rows.fnMunitRow.recurses == Tryz.prog.recurses 4)) = true := by kernel_rfl
theorem jf12 : ((Rows.fnMunitRow.named == Tryz.prog.varsNamed 4)) = true := by kernel_rfl
theorem jf13 : ((Rows.fnMunitRow.maps == (Tryz.f4.params.toList ++ Rows.fnMunitSpec.plain.varTypes Tryz.prog).any (Tryz.prog.mapsRec ·))) = true := by kernel_rfl
theorem jf14 : ((Rows.fnMunitRow.ifaces == (Tryz.f4.params.toList ++ Rows.fnMunitSpec.plain.varTypes Tryz.prog).any (Tryz.prog.ifacesRec ·))) = true := by kernel_rfl
theorem jf15 : ((Rows.fnMunitRow.mapsOut == Tryz.prog.mapsAmong Tryz.f4.resultTypes.toList)) = true := by kernel_rfl
theorem jf16 : ((Rows.fnMunitRow.loops == (Tryz.f4.params.toList ++ Rows.fnMunitSpec.plain.varTypes Tryz.prog).any (Tryz.prog.loopsFrom ·))) = true := by kernel_rfl
theorem jf17 : ((Rows.fnMunitRow.wideKeys == (Tryz.f4.params.toList ++ Rows.fnMunitSpec.plain.varTypes Tryz.prog ++ Tryz.f4.resultTypes.toList).any (Tryz.prog.wideKeysFrom ·))) = true := by kernel_rfl
theorem jf18 : (Rows.fnMunitSpec.vars.all (Tryz.prog.varReadable ·)) = true := by kernel_rfl
theorem jf19 : (Tryz.f4.resultTypes.all (fun t => Tryz.prog.readableRec t && decide (t < Tryz.prog.types.size))) = true := by kernel_rfl
theorem jf20 : ((Rows.fnMunitRow.ifacesOut == Tryz.f4.resultTypes.toList.any (Tryz.prog.ifacesRec ·))) = true := by kernel_rfl
theorem jf21 : ((Rows.fnMunitRow.loopsOut == Tryz.f4.resultTypes.toList.any (Tryz.prog.loopsFrom ·))) = true := by kernel_rfl
theorem jf22 : ((Rows.fnMunitRow.plainKeys == Tryz.prog.plainKeys)) = true := by kernel_rfl
theorem jf23 : (Rows.fnMunitRow.shortTexts.isNone) = true := by kernel_rfl
theorem jf24 : (Tryz.prog.stopsHeard) = true := by kernel_rfl
theorem jf25 : (Tryz.prog.mayEnter) = true := by kernel_rfl
theorem jf26 : ((Rows.fnMunitRow.lifted == Tryz.prog.liftsFinal)) = true := by kernel_rfl
theorem jf27 : ((Tryz.prog.make == some Rows.fnMunitRow.make)) = true := by kernel_rfl
theorem jf28 : ((Rows.fnMunitRow.kinds == (if Rows.fnMunitRow.domain.isEmpty then [] else Tryz.f4.params.toList.map fun t => match Tryz.prog.underlying t with | some (.int k) => some k | _ => none))) = true := by kernel_rfl
theorem jf29 : ((Rows.fnMunitRow.pinned == Rows.fnMunitRow.pinnedBy)) = true := by kernel_rfl
theorem jf30 : ((Rows.fnMunitRow.veiled == (Tryz.f4.params.toList ++ Rows.fnMunitSpec.plain.varTypes Tryz.prog ++ Tryz.f4.resultTypes.toList).any (Tryz.prog.veiledRec ·))) = true := by kernel_rfl
theorem jf31 : (Rows.fnMunitRow.veiledFits Tryz.prog Tryz.f4.params.toList (Tryz.f4.params.toList ++ Rows.fnMunitSpec.plain.varTypes Tryz.prog ++ Tryz.f4.resultTypes.toList)) = true := by kernel_rfl
end Go.Proofs.YtpjckdhgefbonaaGreatDoor
