/- FnAbs: the row and the card. -/
import Derived.Test.YtjobmjfdlkjaoaaGreatDoorRows
import Derived.JoinedOf
import Derived.KernelRfl
namespace Go.Proofs.YtjobmjfdlkjaoaaGreatDoor
set_option linter.unusedVariables false
set_option linter.unusedSimpArgs false
open Go
theorem jf0 : (Rows.fnAbsRow.wf (OpenSpec.ofChange Rows.fnAbsSpec)) = true := by kernel_rfl
theorem jf1 : (laidOutB Tryz.prog) = true := by kernel_rfl
theorem jf2 : (mapsRowed Tryz.prog) = true := by kernel_rfl
theorem jf3 : (Tryz.f3.params.all (Tryz.prog.readableRec ·)) = true := by kernel_rfl
theorem jf4 : (namedTie Tryz.prog Rows.fnAbsRow.named Rows.fnAbsSpec.vars) = true := by kernel_rfl
theorem jf5 : ((Rows.fnAbsRow.stops == [])) = true := by kernel_rfl
theorem jf6 : ((Tryz.prog.stops == [])) = true := by kernel_rfl
theorem jf7 : ((Rows.fnAbsRow.knobs == [])) = true := by kernel_rfl
theorem jf8 : ((Tryz.prog.stopKnobs == [])) = true := by kernel_rfl
theorem jf9 : ((Rows.fnAbsRow.inPlace == Tryz.prog.inPlace 3)) = true := by kernel_rfl
theorem jf10 : ((Rows.fnAbsRow.unfollowed == Tryz.prog.unfollowed 3)) = true := by kernel_rfl
theorem jf11 : ((Rows.fnAbsRow.recurses == Tryz.prog.recurses 3)) = true := by kernel_rfl
theorem jf12 : ((Rows.fnAbsRow.named == Tryz.prog.varsNamed 3)) = true := by kernel_rfl
theorem jf13 : ((Rows.fnAbsRow.maps == (Tryz.f3.params.toList ++ Rows.fnAbsSpec.plain.varTypes Tryz.prog).any (Tryz.prog.mapsRec ·))) = true := by kernel_rfl
theorem jf14 : ((Rows.fnAbsRow.ifaces == (Tryz.f3.params.toList ++ Rows.fnAbsSpec.plain.varTypes Tryz.prog).any (Tryz.prog.ifacesRec ·))) = true := by kernel_rfl
theorem jf15 : ((Rows.fnAbsRow.mapsOut == Tryz.prog.mapsAmong Tryz.f3.resultTypes.toList)) = true := by kernel_rfl
theorem jf16 : ((Rows.fnAbsRow.loops == (Tryz.f3.params.toList ++ Rows.fnAbsSpec.plain.varTypes Tryz.prog).any (Tryz.prog.loopsFrom ·))) = true := by kernel_rfl
theorem jf17 : ((Rows.fnAbsRow.wideKeys == (Tryz.f3.params.toList ++ Rows.fnAbsSpec.plain.varTypes Tryz.prog ++ Tryz.f3.resultTypes.toList).any (Tryz.prog.wideKeysFrom ·))) = true := by kernel_rfl
theorem jf18 : (Rows.fnAbsSpec.vars.all (Tryz.prog.varReadable ·)) = true := by kernel_rfl
theorem jf19 : (Tryz.f3.resultTypes.all (fun t => Tryz.prog.readableRec t && decide (t < Tryz.prog.types.size))) = true := by kernel_rfl
theorem jf20 : ((Rows.fnAbsRow.ifacesOut == Tryz.f3.resultTypes.toList.any (Tryz.prog.ifacesRec ·))) = true := by kernel_rfl
theorem jf21 : ((Rows.fnAbsRow.loopsOut == Tryz.f3.resultTypes.toList.any (Tryz.prog.loopsFrom ·))) = true := by kernel_rfl
theorem jf22 : ((Rows.fnAbsRow.plainKeys == Tryz.prog.plainKeys)) = true := by kernel_rfl
theorem jf23 : (Rows.fnAbsRow.shortTexts.isNone) = true := by kernel_rfl
theorem jf24 : (Tryz.prog.stopsHeard) = true := by kernel_rfl
theorem jf25 : (Tryz.prog.mayEnter) = true := by kernel_rfl
theorem jf26 : ((Rows.fnAbsRow.lifted == Tryz.prog.liftsFinal)) = true := by kernel_rfl
theorem jf27 : ((Tryz.prog.make == some Rows.fnAbsRow.make)) = true := by kernel_rfl
theorem jf28 : ((Rows.fnAbsRow.kinds == (if Rows.fnAbsRow.domain.isEmpty then [] else Tryz.f3.params.toList.map fun t => match Tryz.prog.underlying t with | some (.int k) => some k | _ => none))) = true := by kernel_rfl
theorem jf29 : ((Rows.fnAbsRow.pinned == Rows.fnAbsRow.pinnedBy)) = true := by kernel_rfl
theorem jf30 : ((Rows.fnAbsRow.veiled == (Tryz.f3.params.toList ++ Rows.fnAbsSpec.plain.varTypes Tryz.prog ++ Tryz.f3.resultTypes.toList).any (Tryz.prog.veiledRec ·))) = true := by kernel_rfl
theorem jf31 : (Rows.fnAbsRow.veiledFits Tryz.prog Tryz.f3.params.toList (Tryz.f3.params.toList ++ Rows.fnAbsSpec.plain.varTypes Tryz.prog ++ Tryz.f3.resultTypes.toList)) = true := by kernel_rfl
end Go.Proofs.YtjobmjfdlkjaoaaGreatDoor
