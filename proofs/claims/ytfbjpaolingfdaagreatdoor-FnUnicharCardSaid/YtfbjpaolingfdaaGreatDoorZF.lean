/- Walks of the functions, printed by program: each theorem says what one function answers. -/
import Derived.Test.YtfbjpaolingfdaaGreatDoorRows
import Derived.JoinedOf
import Derived.KernelRfl
namespace Go.Proofs.YtfbjpaolingfdaaGreatDoor
theorem jf0 : (Rows.fnUnicharRow.wf (OpenSpec.ofChange Rows.fnUnicharSpec)) = true := by kernel_rfl
theorem jf1 : (laidOutB Tryz.prog) = true := by kernel_rfl
theorem jf2 : (mapsRowed Tryz.prog) = true := by kernel_rfl
theorem jf3 : (Tryz.f4.params.all (Tryz.prog.readableRec ·)) = true := by kernel_rfl
theorem jf4 : (namedTie Tryz.prog Rows.fnUnicharRow.named Rows.fnUnicharSpec.vars) = true := by kernel_rfl
theorem jf5 : ((Rows.fnUnicharRow.stops == [])) = true := by kernel_rfl
theorem jf6 : ((Tryz.prog.stops == [])) = true := by kernel_rfl
theorem jf7 : ((Rows.fnUnicharRow.knobs == [])) = true := by kernel_rfl
theorem jf8 : ((Tryz.prog.stopKnobs == [])) = true := by kernel_rfl
theorem jf9 : ((Rows.fnUnicharRow.inPlace == Tryz.prog.inPlace 4)) = true := by kernel_rfl
theorem jf10 : ((Rows.fnUnicharRow.unfollowed == Tryz.prog.unfollowed 4)) = true := by kernel_rfl
theorem jf11 : ((Rows.fnUnicharRow.recurses == Tryz.prog.recurses 4)) = true := by kernel_rfl
theorem jf12 : ((Rows.fnUnicharRow.named == Tryz.prog.varsNamed 4)) = true := by kernel_rfl
theorem jf13 : ((Rows.fnUnicharRow.maps == (Tryz.f4.params.toList ++ Rows.fnUnicharSpec.plain.varTypes Tryz.prog).any (Tryz.prog.mapsRec ·))) = true := by kernel_rfl
theorem jf14 : ((Rows.fnUnicharRow.ifaces == (Tryz.f4.params.toList ++ Rows.fnUnicharSpec.plain.varTypes Tryz.prog).any (Tryz.prog.ifacesRec ·))) = true := by kernel_rfl
theorem jf15 : ((Rows.fnUnicharRow.mapsOut == Tryz.prog.mapsAmong Tryz.f4.resultTypes.toList)) = true := by kernel_rfl
theorem jf16 : ((Rows.fnUnicharRow.loops == (Tryz.f4.params.toList ++ Rows.fnUnicharSpec.plain.varTypes Tryz.prog).any (Tryz.prog.loopsFrom ·))) = true := by kernel_rfl
theorem jf17 : ((Rows.fnUnicharRow.wideKeys == (Tryz.f4.params.toList ++ Rows.fnUnicharSpec.plain.varTypes Tryz.prog ++ Tryz.f4.resultTypes.toList).any (Tryz.prog.wideKeysFrom ·))) = true := by kernel_rfl
theorem jf18 : (Rows.fnUnicharSpec.vars.all (Tryz.prog.varReadable ·)) = true := by kernel_rfl
theorem jf19 : (Tryz.f4.resultTypes.all (fun t => Tryz.prog.readableRec t && decide (t < Tryz.prog.types.size))) = true := by kernel_rfl
theorem jf20 : ((Rows.fnUnicharRow.ifacesOut == Tryz.f4.resultTypes.toList.any (Tryz.prog.ifacesRec ·))) = true := by kernel_rfl
theorem jf21 : ((Rows.fnUnicharRow.loopsOut == Tryz.f4.resultTypes.toList.any (Tryz.prog.loopsFrom ·))) = true := by kernel_rfl
theorem jf22 : ((Rows.fnUnicharRow.plainKeys == Tryz.prog.plainKeys)) = true := by kernel_rfl
theorem jf23 : (Rows.fnUnicharRow.shortTexts.isNone) = true := by kernel_rfl
theorem jf24 : (Tryz.prog.stopsHeard) = true := by kernel_rfl
theorem jf25 : (Tryz.prog.mayEnter) = true := by kernel_rfl
theorem jf26 : ((Rows.fnUnicharRow.lifted == Tryz.prog.liftsFinal)) = true := by kernel_rfl
theorem jf27 : ((Tryz.prog.make == some Rows.fnUnicharRow.make)) = true := by kernel_rfl
theorem jf28 : ((Rows.fnUnicharRow.kinds == (if Rows.fnUnicharRow.domain.isEmpty then [] else Tryz.f4.params.toList.map fun t => match Tryz.prog.underlying t with | some (.int k) => some k | _ => none))) = true := by kernel_rfl
theorem jf29 : ((Rows.fnUnicharRow.pinned == Rows.fnUnicharRow.pinnedBy)) = true := by kernel_rfl
theorem jf30 : ((Rows.fnUnicharRow.veiled == (Tryz.f4.params.toList ++ Rows.fnUnicharSpec.plain.varTypes Tryz.prog ++ Tryz.f4.resultTypes.toList).any (Tryz.prog.veiledRec ·))) = true := by kernel_rfl
theorem jf31 : (Rows.fnUnicharRow.veiledFits Tryz.prog Tryz.f4.params.toList (Tryz.f4.params.toList ++ Rows.fnUnicharSpec.plain.varTypes Tryz.prog ++ Tryz.f4.resultTypes.toList)) = true := by kernel_rfl
end Go.Proofs.YtfbjpaolingfdaaGreatDoor
