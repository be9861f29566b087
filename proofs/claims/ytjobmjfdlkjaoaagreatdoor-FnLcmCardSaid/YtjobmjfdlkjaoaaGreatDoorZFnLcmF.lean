/- FnLcm: the row and the card. -/
import Derived.Test.YtjobmjfdlkjaoaaGreatDoorRows
import Derived.JoinedOf
import Derived.KernelRfl
namespace Go.Proofs.YtjobmjfdlkjaoaaGreatDoor
set_option linter.unusedVariables false
set_option linter.unusedSimpArgs false
open Go
theorem jf0 : (Rows.fnLcmRow.wf (OpenSpec.ofChange Rows.fnLcmSpec)) = true := by kernel_rfl
theorem jf1 : (laidOutB Tryz.prog) = true := by kernel_rfl
theorem jf2 : (mapsRowed Tryz.prog) = true := by kernel_rfl
theorem jf3 : (Tryz.f8.params.all (Tryz.prog.readableRec ·)) = true := by kernel_rfl
theorem jf4 : (namedTie Tryz.prog Rows.fnLcmRow.named Rows.fnLcmSpec.vars) = true := by kernel_rfl
theorem jf5 : ((Rows.fnLcmRow.stops == [])) = true := by kernel_rfl
theorem jf6 : ((Tryz.prog.stops == [])) = true := by kernel_rfl
theorem jf7 : ((Rows.fnLcmRow.knobs == [])) = true := by kernel_rfl
theorem jf8 : ((Tryz.prog.stopKnobs == [])) = true := by kernel_rfl
theorem jf9 : ((Rows.fnLcmRow.inPlace == Tryz.prog.inPlace 8)) = true := by kernel_rfl
theorem jf10 : ((Rows.fnLcmRow.unfollowed == Tryz.prog.unfollowed 8)) = true := by kernel_rfl
theorem jf11 : ((Rows.fnLcmRow.recurses == Tryz.prog.recurses 8)) = true := by kernel_rfl
theorem jf12 : ((Rows.fnLcmRow.named == Tryz.prog.varsNamed 8)) = true := by kernel_rfl
theorem jf13 : ((Rows.fnLcmRow.maps == (Tryz.f8.params.toList ++ Rows.fnLcmSpec.plain.varTypes Tryz.prog).any (Tryz.prog.mapsRec ·))) = true := by kernel_rfl
theorem jf14 : ((Rows.fnLcmRow.ifaces == (Tryz.f8.params.toList ++ Rows.fnLcmSpec.plain.varTypes Tryz.prog).any (Tryz.prog.ifacesRec ·))) = true := by kernel_rfl
theorem jf15 : ((Rows.fnLcmRow.mapsOut == Tryz.prog.mapsAmong Tryz.f8.resultTypes.toList)) = true := by kernel_rfl
theorem jf16 : ((Rows.fnLcmRow.loops == (Tryz.f8.params.toList ++ Rows.fnLcmSpec.plain.varTypes Tryz.prog).any (Tryz.prog.loopsFrom ·))) = true := by kernel_rfl
theorem jf17 : ((Rows.fnLcmRow.wideKeys == (Tryz.f8.params.toList ++ Rows.fnLcmSpec.plain.varTypes Tryz.prog ++ Tryz.f8.resultTypes.toList).any (Tryz.prog.wideKeysFrom ·))) = true := by kernel_rfl
theorem jf18 : (Rows.fnLcmSpec.vars.all (Tryz.prog.varReadable ·)) = true := by kernel_rfl
theorem jf19 : (Tryz.f8.resultTypes.all (fun t => Tryz.prog.readableRec t && decide (t < Tryz.prog.types.size))) = true := by kernel_rfl
theorem jf20 : ((Rows.fnLcmRow.ifacesOut == Tryz.f8.resultTypes.toList.any (Tryz.prog.ifacesRec ·))) = true := by kernel_rfl
theorem jf21 : ((Rows.fnLcmRow.loopsOut == Tryz.f8.resultTypes.toList.any (Tryz.prog.loopsFrom ·))) = true := by kernel_rfl
theorem jf22 : ((Rows.fnLcmRow.plainKeys == Tryz.prog.plainKeys)) = true := by kernel_rfl
theorem jf23 : (Rows.fnLcmRow.shortTexts.isNone) = true := by kernel_rfl
theorem jf24 : (Tryz.prog.stopsHeard) = true := by kernel_rfl
theorem jf25 : (Tryz.prog.mayEnter) = true := by kernel_rfl
theorem jf26 : ((Rows.fnLcmRow.lifted == Tryz.prog.liftsFinal)) = true := by kernel_rfl
theorem jf27 : ((Tryz.prog.make == some Rows.fnLcmRow.make)) = true := by kernel_rfl
theorem jf28 : ((Rows.fnLcmRow.kinds == (if Rows.fnLcmRow.domain.isEmpty then [] else Tryz.f8.params.toList.map fun t => match Tryz.prog.underlying t with | some (.int k) => some k | _ => none))) = true := by kernel_rfl
theorem jf29 : ((Rows.fnLcmRow.pinned == Rows.fnLcmRow.pinnedBy)) = true := by kernel_rfl
theorem jf30 : ((Rows.fnLcmRow.veiled == (Tryz.f8.params.toList ++ Rows.fnLcmSpec.plain.varTypes Tryz.prog ++ Tryz.f8.resultTypes.toList).any (Tryz.prog.veiledRec ·))) = true := by kernel_rfl
theorem jf31 : (Rows.fnLcmRow.veiledFits Tryz.prog Tryz.f8.params.toList (Tryz.f8.params.toList ++ Rows.fnLcmSpec.plain.varTypes Tryz.prog ++ Tryz.f8.resultTypes.toList)) = true := by kernel_rfl
end Go.Proofs.YtjobmjfdlkjaoaaGreatDoor
