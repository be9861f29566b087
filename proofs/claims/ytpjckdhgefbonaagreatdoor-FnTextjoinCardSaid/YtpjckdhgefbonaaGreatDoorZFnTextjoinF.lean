/- FnTextjoin: the row and the card. -/
import Derived.Test.YtpjckdhgefbonaaGreatDoorRows
import Derived.JoinedOf
import Derived.KernelRfl
namespace Go.Proofs.YtpjckdhgefbonaaGreatDoor
set_option linter.unusedVariables false
set_option linter.unusedSimpArgs false
open Go
theorem jf0 : (Rows.fnTextjoinRow.wf (OpenSpec.ofChange Rows.fnTextjoinSpec)) = true := by kernel_rfl
theorem jf1 : (laidOutB Tryz.prog) = true := by kernel_rfl
theorem jf2 : (mapsRowed Tryz.prog) = true := by kernel_rfl
theorem jf3 : (Tryz.f3.params.all (Tryz.prog.readableRec ·)) = true := by kernel_rfl
theorem jf4 : (namedTie Tryz.prog Rows.fnTextjoinRow.named Rows.fnTextjoinSpec.vars) = true := by kernel_rfl
theorem jf5 : ((Rows.fnTextjoinRow.stops == [])) = true := by kernel_rfl
theorem jf6 : ((Tryz.prog.stops == [])) = true := by kernel_rfl
theorem jf7 : ((Rows.fnTextjoinRow.knobs == [])) = true := by kernel_rfl
theorem jf8 : ((Tryz.prog.stopKnobs == [])) = true := by kernel_rfl
theorem jf9 : ((Rows.fnTextjoinRow.inPlace == Tryz.prog.inPlace 3)) = true := by kernel_rfl
theorem jf10 : ((Rows.fnTextjoinRow.unfollowed == Tryz.prog.unfollowed 3)) = true := by kernel_rfl
theorem jf11 : ((Rows.fnTextjoinRow.recurses == Tryz.prog.recurses 3)) = true := by kernel_rfl
theorem jf12 : ((Rows.fnTextjoinRow.named == Tryz.prog.varsNamed 3)) = true := by kernel_rfl
theorem jf13 : ((Rows.fnTextjoinRow.maps == (Tryz.f3.params.toList ++ Rows.fnTextjoinSpec.plain.varTypes Tryz.prog).any (Tryz.prog.mapsRec ·))) = true := by kernel_rfl
theorem jf14 : ((Rows.fnTextjoinRow.ifaces == (Tryz.f3.params.toList ++ Rows.fnTextjoinSpec.plain.varTypes Tryz.prog).any (Tryz.prog.ifacesRec ·))) = true := by kernel_rfl
theorem jf15 : ((Rows.fnTextjoinRow.mapsOut == Tryz.prog.mapsAmong Tryz.f3.resultTypes.toList)) = true := by kernel_rfl
theorem jf16 : ((Rows.fnTextjoinRow.loops == (Tryz.f3.params.toList ++ Rows.fnTextjoinSpec.plain.varTypes Tryz.prog).any (Tryz.prog.loopsFrom ·))) = true := by kernel_rfl
theorem jf17 : ((Rows.fnTextjoinRow.wideKeys == (Tryz.f3.params.toList ++ Rows.fnTextjoinSpec.plain.varTypes Tryz.prog ++ Tryz.f3.resultTypes.toList).any (Tryz.prog.wideKeysFrom ·))) = true := by kernel_rfl
theorem jf18 : (Rows.fnTextjoinSpec.vars.all (Tryz.prog.varReadable ·)) = true := by kernel_rfl
theorem jf19 : (Tryz.f3.resultTypes.all (fun t => Tryz.prog.readableRec t && decide (t < Tryz.prog.types.size))) = true := by kernel_rfl
theorem jf20 : ((Rows.fnTextjoinRow.ifacesOut == Tryz.f3.resultTypes.toList.any (Tryz.prog.ifacesRec ·))) = true := by kernel_rfl
theorem jf21 : ((Rows.fnTextjoinRow.loopsOut == Tryz.f3.resultTypes.toList.any (Tryz.prog.loopsFrom ·))) = true := by kernel_rfl
theorem jf22 : ((Rows.fnTextjoinRow.plainKeys == Tryz.prog.plainKeys)) = true := by kernel_rfl
theorem jf23 : (Rows.fnTextjoinRow.shortTexts.isNone) = true := by kernel_rfl
theorem jf24 : (Tryz.prog.stopsHeard) = true := by kernel_rfl
theorem jf25 : (Tryz.prog.mayEnter) = true := by kernel_rfl
theorem jf26 : ((Rows.fnTextjoinRow.lifted == Tryz.prog.liftsFinal)) = true := by kernel_rfl
theorem jf27 : ((Tryz.prog.make == some Rows.fnTextjoinRow.make)) = true := by kernel_rfl
theorem jf28 : ((Rows.fnTextjoinRow.kinds == (if Rows.fnTextjoinRow.domain.isEmpty then [] else Tryz.f3.params.toList.map fun t => match Tryz.prog.underlying t with | some (.int k) => some k | _ => none))) = true := by kernel_rfl
theorem jf29 : ((Rows.fnTextjoinRow.pinned == Rows.fnTextjoinRow.pinnedBy)) = true := by kernel_rfl
theorem jf30 : ((Rows.fnTextjoinRow.veiled == (Tryz.f3.params.toList ++ Rows.fnTextjoinSpec.plain.varTypes Tryz.prog ++ Tryz.f3.resultTypes.toList).any (Tryz.prog.veiledRec ·))) = true := by kernel_rfl
theorem jf31 : (Rows.fnTextjoinRow.veiledFits Tryz.prog Tryz.f3.params.toList (Tryz.f3.params.toList ++ Rows.fnTextjoinSpec.plain.varTypes Tryz.prog ++ Tryz.f3.resultTypes.toList)) = true := by kernel_rfl
end Go.Proofs.YtpjckdhgefbonaaGreatDoor
