/- FnBitand: the row and the card. -/
import Derived.Test.YtjobmjfdlkjaoaaGreatDoorRows
import Derived.JoinedOf
import Derived.KernelRfl
namespace Go.Proofs.YtjobmjfdlkjaoaaGreatDoor
set_option linter.unusedVariables false
set_option linter.unusedSimpArgs false
open Go
theorem jf0 : (Rows.fnBitandRow.wf (OpenSpec.ofChange Rows.fnBitandSpec)) = true := by kernel_rfl
theorem jf1 : (laidOutB Tryz.prog) = true := by kernel_rfl
theorem jf2 : (mapsRowed Tryz.prog) = true := by kernel_rfl
theorem jf3 : (Tryz.f6.params.all (Tryz.prog.readableRec ·)) = true := by kernel_rfl
theorem jf4 : (namedTie Tryz.prog Rows.fnBitandRow.named Rows.fnBitandSpec.vars) = true := by kernel_rfl
theorem jf5 : ((Rows.fnBitandRow.stops == [])) = true := by kernel_rfl
theorem jf6 : ((Tryz.prog.stops == [])) = true := by kernel_rfl
theorem jf7 : ((Rows.fnBitandRow.knobs == [])) = true := by kernel_rfl
theorem jf8 : ((Tryz.prog.stopKnobs == [])) = true := by kernel_rfl
theorem jf9 : ((Rows.fnBitandRow.inPlace == Tryz.prog.inPlace 6)) = true := by kernel_rfl
theorem jf10 : ((Rows.fnBitandRow.unfollowed == Tryz.prog.unfollowed 6)) = true := by kernel_rfl
theorem jf11 : ((Rows.fnBitandRow.recurses == Tryz.prog.recurses 6)) = true := by kernel_rfl
theorem jf12 : ((Rows.fnBitandRow.named == Tryz.prog.varsNamed 6)) = true := by kernel_rfl
theorem jf13 : ((Rows.fnBitandRow.maps == (Tryz.f6.params.toList ++ Rows.fnBitandSpec.plain.varTypes Tryz.prog).any (Tryz.prog.mapsRec ·))) = true := by kernel_rfl
theorem jf14 : ((Rows.fnBitandRow.ifaces == (Tryz.f6.params.toList ++ Rows.fnBitandSpec.plain.varTypes Tryz.prog).any (Tryz.prog.ifacesRec ·))) = true := by kernel_rfl
theorem jf15 : ((Rows.fnBitandRow.mapsOut == Tryz.prog.mapsAmong Tryz.f6.resultTypes.toList)) = true := by kernel_rfl
theorem jf16 : ((Rows.fnBitandRow.loops == (Tryz.f6.params.toList ++ Rows.fnBitandSpec.plain.varTypes Tryz.prog).any (Tryz.prog.loopsFrom ·))) = true := by kernel_rfl
theorem jf17 : ((Rows.fnBitandRow.wideKeys == (Tryz.f6.params.toList ++ Rows.fnBitandSpec.plain.varTypes Tryz.prog ++ Tryz.f6.resultTypes.toList).any (Tryz.prog.wideKeysFrom ·))) = true := by kernel_rfl
theorem jf18 : (Rows.fnBitandSpec.vars.all (Tryz.prog.varReadable ·)) = true := by kernel_rfl
theorem jf19 : (Tryz.f6.resultTypes.all (fun t => Tryz.prog.readableRec t && decide (t < Tryz.prog.types.size))) = true := by kernel_rfl
theorem jf20 : ((Rows.fnBitandRow.ifacesOut == Tryz.f6.resultTypes.toList.any (Tryz.prog.ifacesRec ·))) = true := by kernel_rfl
theorem jf21 : ((Rows.fnBitandRow.loopsOut == Tryz.f6.resultTypes.toList.any (Tryz.prog.loopsFrom ·))) = true := by kernel_rfl
theorem jf22 : ((Rows.fnBitandRow.plainKeys == Tryz.prog.plainKeys)) = true := by kernel_rfl
theorem jf23 : (Rows.fnBitandRow.shortTexts.isNone) = true := by kernel_rfl
theorem jf24 : (Tryz.prog.stopsHeard) = true := by kernel_rfl
theorem jf25 : (Tryz.prog.mayEnter) = true := by kernel_rfl
theorem jf26 : ((Rows.fnBitandRow.lifted == Tryz.prog.liftsFinal)) = true := by kernel_rfl
theorem jf27 : ((Tryz.prog.make == some Rows.fnBitandRow.make)) = true := by kernel_rfl
theorem jf28 : ((Rows.fnBitandRow.kinds == (if Rows.fnBitandRow.domain.isEmpty then [] else Tryz.f6.params.toList.map fun t => match Tryz.prog.underlying t with | some (.int k) => some k | _ => none))) = true := by kernel_rfl
theorem jf29 : ((Rows.fnBitandRow.pinned == Rows.fnBitandRow.pinnedBy)) = true := by kernel_rfl
theorem jf30 : ((Rows.fnBitandRow.veiled == (Tryz.f6.params.toList ++ Rows.fnBitandSpec.plain.varTypes Tryz.prog ++ Tryz.f6.resultTypes.toList).any (Tryz.prog.veiledRec ·))) = true := by kernel_rfl
theorem jf31 : (Rows.fnBitandRow.veiledFits Tryz.prog Tryz.f6.params.toList (Tryz.f6.params.toList ++ Rows.fnBitandSpec.plain.varTypes Tryz.prog ++ Tryz.f6.resultTypes.toList)) = true := by kernel_rfl
end Go.Proofs.YtjobmjfdlkjaoaaGreatDoor
