/- FnLcm: the row and the card. -/
import Derived.Test.YtjobmjfdlkjaoaaGreatDoorZLFnLcm
import Derived.Test.YtjobmjfdlkjaoaaGreatDoorZRowS
import Derived.Test.YtjobmjfdlkjaoaaGreatDoorRows
import Derived.Test.YtjobmjfdlkjaoaaGreatDoorCards
import Derived.Test.YtjobmjfdlkjaoaaGreatDoorTie
namespace Go.Proofs.YtjobmjfdlkjaoaaGreatDoor
set_option linter.unusedVariables false
set_option linter.unusedSimpArgs false
open Go.ChangeShapes Go.WideShapes Go.ChangeAt Go.RowKit Go.Abs

theorem own : ownKnob Tryz.prog.godebug = none := by kernel_rfl
theorem cells3 : Tryz.prog.cellsOf 3 = 1 := by kernel_rfl

theorem kids : Kids Tryz.prog (fun t => t = 31 ∨ t = 3) := by
  refine ⟨?_, ?_, ?_, ?_, ?_⟩
  · rintro t e (rfl | rfl) h
    · rw [Tryz.underlying31] at h; cases h
    · rw [Tryz.underlying3] at h; cases h
  · rintro t e (rfl | rfl) h
    · rw [Tryz.underlying31] at h; cases h; exact .inr (rfl)
    · rw [Tryz.underlying3] at h; cases h
  · rintro t e n (rfl | rfl) h
    · rw [Tryz.underlying31] at h; cases h
    · rw [Tryz.underlying3] at h; cases h
  · rintro t fs (rfl | rfl) h
    · rw [Tryz.underlying31] at h; cases h
    · rw [Tryz.underlying3] at h; cases h
  · rintro t k e (rfl | rfl) h
    · rw [Tryz.underlying31] at h; cases h
    · rw [Tryz.underlying3] at h; cases h
theorem sized {t e : TypeId} (ht : t = 31 ∨ t = 3) (h : Tryz.prog.underlying t = some (.slice e)) : 0 < Tryz.prog.cellsOf e := by
  rcases ht with rfl | rfl
  · rw [Tryz.underlying31] at h; cases h; rw [cells3]; decide
  · rw [Tryz.underlying3] at h; cases h

set_option maxRecDepth 100000 in
theorem lifted (os : Os) (started : os.Started) (H : Type) (enc : TypeId × Value → H) :
    ReturnsInHanded {} Tryz.checked os 8 .any (fun w args => (Rows.fnLcmSpec.pre enc Tryz.prog Tryz.f8 Rows.fnLcmRow.domain false w args ∧ laidMetH Tryz.prog Rows.fnLcmRow.laid w) ∧ sizedMet enc Tryz.prog Tryz.f8 (OpenSpec.ofChange Rows.fnLcmSpec) false w args)
      (Rows.fnLcmSpec.post enc Tryz.prog Tryz.f8 false true false false) := by
  refine returnsInHanded_of_change_and (C := Tryz.checked) (X := fun w _ => laidMetH Tryz.prog Rows.fnLcmRow.laid w) (fun _ _ _ hh h => h.of_heap hh) own started (by kernel_rfl) Tryz.func8
    (ChangeSpec.witness_shaped (enc := enc) (C := Tryz.checked) (os := os) (X := fun w _ => laidMetH Tryz.prog Rows.fnLcmRow.laid w) false (World.laidAll Tryz.prog os Rows.fnLcmRow.laid) #[.slice none 0 0] 8 (World.laidAll_os _ _ _)
      (World.shaped_of_ZipB (by kernel_rfl) (by kernel_rfl)) (by kernel_rfl) (by kernel_rfl) (by kernel_rfl)
      (by rw [MakeChecks.laidMetH_plain _ _ _ (by kernel_rfl)]; exact laidMet_laidAll _ (by kernel_rfl) (by kernel_rfl))) ?_
  intro W base args ds gs before hval0 hW _ _ _ _
  have hval : ∀ (j : Nat) t v, Tryz.f8.params[j]? = some t → args[j]? = some v → Value.okWide Tryz.prog W .any base t v := hval0
  have hW' := hW
  obtain ⟨p, q, hA0, hV, rfl, _, _⟩ := hW
  have hA : DataW.TrodAll enc Tryz.prog W 0 (fun _ => true) true Tryz.f8.params.toList args.toList ds p := hA0
  have hT : ∀ t ∈ Tryz.f8.params.toList, (fun t => t = 31 ∨ t = 3) t := by
    rw [Tryz.params8]; intro t ht
    simp only [List.mem_cons, List.mem_nil_iff, or_false] at ht
    subst ht
    · exact .inl rfl
  rw [Tryz.params8] at hA hval
  obtain ⟨v0, d0, rfl, rfl, h0⟩ := trodAll_one hA
  obtain ⟨rfl, rfl⟩ := trodVars_none hV
  obtain ⟨x0, w0, n0, r0⟩ := open_intsR Tryz.underlying31 Tryz.underlying3 cells3 (hval 0 31 v0 rfl rfl) h0
  clear hA0 hval0
  simp only [List.append_nil] at hW'
  refine (calls_trueS (Zz.pf_FnLcm x0) (W := W) (args := [v0]) (by simp only [repL]; exact ⟨_, _, rfl, r0, rfl⟩)).mono fun e W' ⟨he, hlf⟩ => ?_
  subst he
  exact ⟨_, rfl, post_stay kids sized hT rfl hW' rfl rfl (fun _ _ _ => trodAll_mk1 (shut_bool Tryz.underlying4 _)) hlf (ok_one (by kernel_rfl) rfl (okWide_bool_mk Tryz.underlying4 _))⟩

end Go.Proofs.YtjobmjfdlkjaoaaGreatDoor
