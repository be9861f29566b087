/- FnCount: the row and the card. -/
import Derived.Test.YtpjckdhgefbonaaGreatDoorRows
import Derived.JoinedOf
import Derived.KernelRfl
namespace Go.Proofs.YtpjckdhgefbonaaGreatDoor
set_option linter.unusedVariables false
set_option linter.unusedSimpArgs false
open Go
theorem jf0 : (Rows.fnCountRow.wf (OpenSpec.ofChange Rows.fnCountSpec)) = true := by kernel_rfl
theorem jf1 : (laidOutB Tryz.prog) = true := by kernel_rfl
theorem jf2 : (mapsRowed Tryz.prog) = true := by kernel_rfl
theorem jf3 : (Tryz.f5.params.all (Tryz.prog.readableRec ·)) = true := by kernel_rfl
theorem jf4 : (namedTie Tryz.prog Rows.fnCountRow.named Rows.fnCountSpec.vars) = true := by kernel_rfl
theorem jf5 : ((Rows.fnCountRow.stops == [])) = true := by kernel_rfl
theorem jf6 : ((Tryz.prog.stops == [])) = true := by kernel_rfl
theorem jf7 : ((Rows.fnCountRow.knobs == [])) = true := by kernel_rfl
theorem jf8 : ((Tryz.prog.stopKnobs == [])) = true := by kernel_rfl
theorem jf9 : ((Rows.fnCountRow.inPlace == Tryz.prog.inPlace 5)) = true := by kernel_rfl
theorem jf10 : ((Rows.fnCountRow.unfollowed == Tryz.prog.unfollowed 5)) = true := by kernel_rfl
theorem jf11 : ((Rows.fnCountRow.recurses == Tryz.prog.recurses 5)) = true := by kernel_rfl
theorem jf12 : ((Rows.fnCountRow.named == Tryz.prog.varsNamed 5)) = true := by kernel_rfl
theorem jf13 : ((Rows.fnCountRow.maps == (Tryz.f5.params.toList ++ Rows.fnCountSpec.plain.varTypes Tryz.prog).any (Tryz.prog.mapsRec ·))) = true := by kernel_rfl
theorem jf14 : ((Rows.fnCountRow.ifaces == (Tryz.f5.params.toList ++ Rows.fnCountSpec.plain.varTypes Tryz.prog).any (Tryz.prog.ifacesRec ·))) = true := by kernel_rfl
theorem jf15 : ((Rows.fnCountRow.mapsOut == Tryz.prog.mapsAmong Tryz.f5.resultTypes.toList)) = true := by kernel_rfl
theorem jf16 : ((Rows.fnCountRow.loops == (Tryz.f5.params.toList ++ Rows.fnCountSpec.plain.varTypes Tryz.prog).any (Tryz.prog.loopsFrom ·))) = true := by kernel_rfl
theorem jf17 : ((Rows.fnCountRow.wideKeys == (Tryz.f5.params.toList ++ Rows.fnCountSpec.plain.varTypes Tryz.prog ++ Tryz.f5.resultTypes.toList).any (Tryz.prog.wideKeysFrom ·))) = true := by kernel_rfl
theorem jf18 : (Rows.fnCountSpec.vars.all (Tryz.prog.varReadable ·)) = true := by kernel_rfl
theorem jf19 : (Tryz.f5.resultTypes.all (fun t => Tryz.prog.readableRec t && decide (t < Tryz.prog.types.size))) = true := by kernel_rfl
theorem jf20 : ((Rows.fnCountRow.ifacesOut == Tryz.f5.resultTypes.toList.any (Tryz.prog.ifacesRec ·))) = true := by kernel_rfl
theorem jf21 : ((Rows.fnCountRow.loopsOut == Tryz.f5.resultTypes.toList.any (Tryz.prog.loopsFrom ·))) = true := by kernel_rfl
theorem jf22 : ((Rows.fnCountRow.plainKeys == Tryz.prog.plainKeys)) = true := by kernel_rfl
theorem jf23 : (Rows.fnCountRow.shortTexts.isNone) = true := by kernel_rfl
theorem jf24 : (Tryz.prog.stopsHeard) = true := by kernel_rfl
theorem jf25 : (Tryz.prog.mayEnter) = true := by kernel_rfl
theorem jf26 : ((Rows.fnCountRow.lifted == Tryz.prog.liftsFinal)) = true := by kernel_rfl
theorem jf27 : ((Tryz.prog.make == some Rows.fnCountRow.make)) = true := by kernel_rfl
theorem jf28 : ((Rows.fnCountRow.kinds == (if Rows.fnCountRow.domain.isEmpty then [] else Tryz.f5.params.toList.map fun t => match Tryz.prog.underlying t with | some (.int k) => some k | _ => none))) = true := by kernel_rfl
theorem jf29 : ((Rows.fnCountRow.pinned == Rows.fnCountRow.pinnedBy)) = true := by kernel_rfl
theorem jf30 : ((Rows.fnCountRow.veiled == (Tryz.f5.params.toList ++ Rows.fnCountSpec.plain.varTypes Tryz.prog ++ Tryz.f5.resultTypes.toList).any (Tryz.prog.veiledRec ·))) = true := by kernel_rfl
theorem jf31 : (Rows.fnCountRow.veiledFits Tryz.prog Tryz.f5.params.toList (Tryz.f5.params.toList ++ Rows.fnCountSpec.plain.varTypes Tryz.prog ++ Tryz.f5.resultTypes.toList)) = true := by kernel_rfl
end Go.Proofs.YtpjckdhgefbonaaGreatDoor
