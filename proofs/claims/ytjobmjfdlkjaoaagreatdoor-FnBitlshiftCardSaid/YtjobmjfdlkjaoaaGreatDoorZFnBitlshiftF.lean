/- FnBitlshift: the row and the card. -/
import Derived.Test.YtjobmjfdlkjaoaaGreatDoorRows
import Derived.JoinedOf
import Derived.KernelRfl
namespace Go.Proofs.YtjobmjfdlkjaoaaGreatDoor
set_option linter.unusedVariables false
set_option linter.unusedSimpArgs false
open Go
theorem jf0 : (Rows.fnBitlshiftRow.wf (OpenSpec.ofChange Rows.fnBitlshiftSpec)) = true := by kernel_rfl
theorem jf1 : (laidOutB Tryz.prog) = true := by kernel_rfl
theorem jf2 : (mapsRowed Tryz.prog) = true := by kernel_rfl
theorem jf3 : (Tryz.f7.params.all (Tryz.prog.readableRec ·)) = true := by kernel_rfl
theorem jf4 : (namedTie Tryz.prog Rows.fnBitlshiftRow.named Rows.fnBitlshiftSpec.vars) = true := by kernel_rfl
theorem jf5 : ((Rows.fnBitlshiftRow.stops == [])) = true := by kernel_rfl
theorem jf6 : ((Tryz.prog.stops == [])) = true := by kernel_rfl
theorem jf7 : ((Rows.fnBitlshiftRow.knobs == [])) = true := by kernel_rfl
theorem jf8 : ((Tryz.prog.stopKnobs == [])) = true := by kernel_rfl
theorem jf9 : ((Rows.fnBitlshiftRow.inPlace == Tryz.prog.inPlace 7)) = true := by kernel_rfl
theorem jf10 : ((Rows.fnBitlshiftRow.unfollowed == Tryz.prog.unfollowed 7)) = true := by kernel_rfl
theorem jf11 : ((Rows.fnBitlshiftRow.recurses == Tryz.prog.recurses 7)) = true := by kernel_rfl
theorem jf12 : ((Rows.fnBitlshiftRow.named == Tryz.prog.varsNamed 7)) = true := by kernel_rfl
theorem jf13 : ((Rows.fnBitlshiftRow.maps == (Tryz.f7.params.toList ++ Rows.fnBitlshiftSpec.plain.varTypes Tryz.prog).any (Tryz.prog.mapsRec ·))) = true := by kernel_rfl
theorem jf14 : ((Rows.fnBitlshiftRow.ifaces == (Tryz.f7.params.toList ++ Rows.fnBitlshiftSpec.plain.varTypes Tryz.prog).any (Tryz.prog.ifacesRec ·))) = true := by kernel_rfl
theorem jf15 : ((Rows.fnBitlshiftRow.mapsOut == Tryz.prog.mapsAmong Tryz.f7.resultTypes.toList)) = true := by kernel_rfl
theorem jf16 : ((Rows.fnBitlshiftRow.loops == (Tryz.f7.params.toList ++ Rows.fnBitlshiftSpec.plain.varTypes Tryz.prog).any (Tryz.prog.loopsFrom ·))) = true := by kernel_rfl
theorem jf17 : ((Rows.fnBitlshiftRow.wideKeys == (Tryz.f7.params.toList ++ Rows.fnBitlshiftSpec.plain.varTypes Tryz.prog ++ Tryz.f7.resultTypes.toList).any (Tryz.prog.wideKeysFrom ·))) = true := by kernel_rfl
theorem jf18 : (Rows.fnBitlshiftSpec.vars.all (Tryz.prog.varReadable ·)) = true := by kernel_rfl
theorem jf19 : (Tryz.f7.resultTypes.all (fun t => Tryz.prog.readableRec t && decide (t < Tryz.prog.types.size))) = true := by kernel_rfl
theorem jf20 : ((Rows.fnBitlshiftRow.ifacesOut == Tryz.f7.resultTypes.toList.any (Tryz.prog.ifacesRec ·))) = true := by kernel_rfl
theorem jf21 : ((Rows.fnBitlshiftRow.loopsOut == Tryz.f7.resultTypes.toList.any (Tryz.prog.loopsFrom ·))) = true := by kernel_rfl
theorem jf22 : ((Rows.fnBitlshiftRow.plainKeys == Tryz.prog.plainKeys)) = true := by kernel_rfl
theorem jf23 : (Rows.fnBitlshiftRow.shortTexts.isNone) = true := by kernel_rfl
theorem jf24 : (Tryz.prog.stopsHeard) = true := by kernel_rfl
theorem jf25 : (Tryz.prog.mayEnter) = true := by kernel_rfl
theorem jf26 : ((Rows.fnBitlshiftRow.lifted == Tryz.prog.liftsFinal)) = true := by kernel_rfl
theorem jf27 : ((Tryz.prog.make == some Rows.fnBitlshiftRow.make)) = true := by kernel_rfl
theorem jf28 : ((Rows.fnBitlshiftRow.kinds == (if Rows.fnBitlshiftRow.domain.isEmpty then [] else Tryz.f7.params.toList.map fun t => match Tryz.prog.underlying t with | some (.int k) => some k | _ => none))) = true := by kernel_rfl
theorem jf29 : ((Rows.fnBitlshiftRow.pinned == Rows.fnBitlshiftRow.pinnedBy)) = true := by kernel_rfl
theorem jf30 : ((Rows.fnBitlshiftRow.veiled == (Tryz.f7.params.toList ++ Rows.fnBitlshiftSpec.plain.varTypes Tryz.prog ++ Tryz.f7.resultTypes.toList).any (Tryz.prog.veiledRec ·))) = true := by kernel_rfl
theorem jf31 : (Rows.fnBitlshiftRow.veiledFits Tryz.prog Tryz.f7.params.toList (Tryz.f7.params.toList ++ Rows.fnBitlshiftSpec.plain.varTypes Tryz.prog ++ Tryz.f7.resultTypes.toList)) = true := by kernel_rfl
end Go.Proofs.YtjobmjfdlkjaoaaGreatDoor
