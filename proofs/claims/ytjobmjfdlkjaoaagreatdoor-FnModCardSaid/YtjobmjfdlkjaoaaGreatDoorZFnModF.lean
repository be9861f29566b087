/- FnMod: the row and the card. -/
import Derived.Test.YtjobmjfdlkjaoaaGreatDoorRows
import Derived.JoinedOf
import Derived.KernelRfl
namespace Go.Proofs.YtjobmjfdlkjaoaaGreatDoor
set_option linter.unusedVariables false
set_option linter.unusedSimpArgs false
open Go
theorem jf0 : (Rows.fnModRow.wf (OpenSpec.ofChange Rows.fnModSpec)) = true := by kernel_rfl
theorem jf1 : (laidOutB Tryz.prog) = true := by kernel_rfl
theorem jf2 : (mapsRowed Tryz.prog) = true := by kernel_rfl
theorem jf3 : (Tryz.f5.params.all (Tryz.prog.readableRec ·)) = true := by kernel_rfl
theorem jf4 : (namedTie Tryz.prog Rows.fnModRow.named Rows.fnModSpec.vars) = true := by kernel_rfl
theorem jf5 : ((Rows.fnModRow.stops == [])) = true := by kernel_rfl
theorem jf6 : ((Tryz.prog.stops == [])) = true := by kernel_rfl
theorem jf7 : ((Rows.fnModRow.knobs == [])) = true := by kernel_rfl
theorem jf8 : ((Tryz.prog.stopKnobs == [])) = true := by kernel_rfl
theorem jf9 : ((Rows.fnModRow.inPlace == Tryz.prog.inPlace 5)) = true := by kernel_rfl
theorem jf10 : ((Rows.fnModRow.unfollowed == Tryz.prog.unfollowed 5)) = true := by kernel_rfl
theorem jf11 : ((Rows.fnModRow.recurses == Tryz.prog.recurses 5)) = true := by kernel_rfl
theorem jf12 : ((Rows.fnModRow.named == Tryz.prog.varsNamed 5)) = true := by kernel_rfl
theorem jf13 : ((Rows.fnModRow.maps == (Tryz.f5.params.toList ++ Rows.fnModSpec.plain.varTypes Tryz.prog).any (Tryz.prog.mapsRec ·))) = true := by kernel_rfl
theorem jf14 : ((Rows.fnModRow.ifaces == (Tryz.f5.params.toList ++ Rows.fnModSpec.plain.varTypes Tryz.prog).any (Tryz.prog.ifacesRec ·))) = true := by kernel_rfl
theorem jf15 : ((Rows.fnModRow.mapsOut == Tryz.prog.mapsAmong Tryz.f5.resultTypes.toList)) = true := by kernel_rfl
theorem jf16 : ((Rows.fnModRow.loops == (Tryz.f5.params.toList ++ Rows.fnModSpec.plain.varTypes Tryz.prog).any (Tryz.prog.loopsFrom ·))) = true := by kernel_rfl
theorem jf17 : ((Rows.fnModRow.wideKeys == (Tryz.f5.params.toList ++ Rows.fnModSpec.plain.varTypes Tryz.prog ++ Tryz.f5.resultTypes.toList).any (Tryz.prog.wideKeysFrom ·))) = true := by kernel_rfl
theorem jf18 : (Rows.fnModSpec.vars.all (Tryz.prog.varReadable ·)) = true := by kernel_rfl
theorem jf19 : (Tryz.f5.resultTypes.all (fun t => Tryz.prog.readableRec t && decide (t < Tryz.prog.types.size))) = true := by kernel_rfl
theorem jf20 : ((Rows.fnModRow.ifacesOut == Tryz.f5.resultTypes.toList.any (Tryz.prog.ifacesRec ·))) = true := by kernel_rfl
theorem jf21 : ((Rows.fnModRow.loopsOut == Tryz.f5.resultTypes.toList.any (Tryz.prog.loopsFrom ·))) = true := by kernel_rfl
theorem jf22 : ((Rows.fnModRow.plainKeys == Tryz.prog.plainKeys)) = true := by kernel_rfl
theorem jf23 : (Rows.fnModRow.shortTexts.isNone) = true := by kernel_rfl
theorem jf24 : (Tryz.prog.stopsHeard) = true := by kernel_rfl
theorem jf25 : (Tryz.prog.mayEnter) = true := by kernel_rfl
theorem jf26 : ((Rows.fnModRow.lifted == Tryz.prog.liftsFinal)) = true := by kernel_rfl
theorem jf27 : ((Tryz.prog.make == some Rows.fnModRow.make)) = true := by kernel_rfl
theorem jf28 : ((Rows.fnModRow.kinds == (if Rows.fnModRow.domain.isEmpty then [] else Tryz.f5.params.toList.map fun t => match Tryz.prog.underlying t with | some (.int k) => some k | _ => none))) = true := by kernel_rfl
theorem jf29 : ((Rows.fnModRow.pinned == Rows.fnModRow.pinnedBy)) = true := by kernel_rfl
theorem jf30 : ((Rows.fnModRow.veiled == (Tryz.f5.params.toList ++ Rows.fnModSpec.plain.varTypes Tryz.prog ++ Tryz.f5.resultTypes.toList).any (Tryz.prog.veiledRec ·))) = true := by kernel_rfl
theorem jf31 : (Rows.fnModRow.veiledFits Tryz.prog Tryz.f5.params.toList (Tryz.f5.params.toList ++ Rows.fnModSpec.plain.varTypes Tryz.prog ++ Tryz.f5.resultTypes.toList)) = true := by kernel_rfl
end Go.Proofs.YtjobmjfdlkjaoaaGreatDoor
