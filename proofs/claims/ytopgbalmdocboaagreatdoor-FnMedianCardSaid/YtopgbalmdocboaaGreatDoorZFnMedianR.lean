/- FnMedian: the row and the card. -/
import Derived.Test.YtopgbalmdocboaaGreatDoorZLFnMedian
import Derived.Test.YtopgbalmdocboaaGreatDoorZRw
import Derived.Test.YtopgbalmdocboaaGreatDoorRows
import Derived.Test.YtopgbalmdocboaaGreatDoorCards
import Derived.Test.YtopgbalmdocboaaGreatDoorTie
namespace Go.Proofs.YtopgbalmdocboaaGreatDoor
set_option linter.unusedVariables false
set_option linter.unusedSimpArgs false
open Go.ChangeShapes Go.WideShapes Go.ChangeAt Go.RowKit Go.Abs

theorem own : ownKnob Tryz.prog.godebug = none := by kernel_rfl
theorem cells3 : Tryz.prog.cellsOf 3 = 1 := by kernel_rfl
theorem cells9 : Tryz.prog.cellsOf 9 = 1 := by kernel_rfl
theorem cells35 : Tryz.prog.cellsOf 35 = 3 := by kernel_rfl

theorem kids : Kids Tryz.prog (fun t => t = 31 ∨ t = 35 ∨ t = 3 ∨ t = 9) := by
  refine ⟨?_, ?_, ?_, ?_, ?_⟩
  · rintro t e (rfl | rfl | rfl | rfl) h
    · rw [Tryz.underlying31] at h; cases h
    · rw [Tryz.underlying35] at h; cases h
    · rw [Tryz.underlying3] at h; cases h
    · rw [Tryz.underlying9] at h; cases h
  · rintro t e (rfl | rfl | rfl | rfl) h
    · rw [Tryz.underlying31] at h; cases h; exact .inr (.inl rfl)
    · rw [Tryz.underlying35] at h; cases h
    · rw [Tryz.underlying3] at h; cases h
    · rw [Tryz.underlying9] at h; cases h
  · rintro t e n (rfl | rfl | rfl | rfl) h
    · rw [Tryz.underlying31] at h; cases h
    · rw [Tryz.underlying35] at h; cases h
    · rw [Tryz.underlying3] at h; cases h
    · rw [Tryz.underlying9] at h; cases h
  · rintro t fs (rfl | rfl | rfl | rfl) h
    · rw [Tryz.underlying31] at h; cases h
    · rw [Tryz.underlying35] at h; cases h
      refine ⟨by intro f hf; simp at hf; rcases hf with rfl | rfl | rfl <;> simp, by rw [cells35]; simp [cells3, cells9], ?_⟩
      intro j f hf
      match j, hf with
      | 0, hf => cases hf; simp [cells3, cells9]
      | 1, hf => cases hf; simp [cells3, cells9]
      | 2, hf => cases hf; simp [cells3, cells9]
      | n + 3, hf => simp at hf
    · rw [Tryz.underlying3] at h; cases h
    · rw [Tryz.underlying9] at h; cases h
  · rintro t k e (rfl | rfl | rfl | rfl) h
    · rw [Tryz.underlying31] at h; cases h
    · rw [Tryz.underlying35] at h; cases h
    · rw [Tryz.underlying3] at h; cases h
    · rw [Tryz.underlying9] at h; cases h
theorem sized {t e : TypeId} (ht : t = 31 ∨ t = 35 ∨ t = 3 ∨ t = 9) (h : Tryz.prog.underlying t = some (.slice e)) : 0 < Tryz.prog.cellsOf e := by
  rcases ht with rfl | rfl | rfl | rfl
  · rw [Tryz.underlying31] at h; cases h; rw [cells35]; decide
  · rw [Tryz.underlying35] at h; cases h
  · rw [Tryz.underlying3] at h; cases h
  · rw [Tryz.underlying9] at h; cases h

set_option maxRecDepth 100000 in
theorem lifted (os : Os) (started : os.Started) (H : Type) (enc : TypeId × Value → H) :
    ReturnsInHanded {} Tryz.checked os 5 .any (fun w args => (Rows.fnMedianSpec.pre enc Tryz.prog Tryz.f5 Rows.fnMedianRow.domain false w args ∧ laidMetH Tryz.prog Rows.fnMedianRow.laid w) ∧ sizedMet enc Tryz.prog Tryz.f5 (OpenSpec.ofChange Rows.fnMedianSpec) false w args)
      (Rows.fnMedianSpec.post enc Tryz.prog Tryz.f5 false true false false) := by
  refine returnsInHanded_of_change_and (C := Tryz.checked) (X := fun w _ => laidMetH Tryz.prog Rows.fnMedianRow.laid w) (fun _ _ _ hh h => h.of_heap hh) own started (by kernel_rfl) Tryz.func5
    (ChangeSpec.witness_shaped (enc := enc) (C := Tryz.checked) (os := os) (X := fun w _ => laidMetH Tryz.prog Rows.fnMedianRow.laid w) false (World.laidAll Tryz.prog os Rows.fnMedianRow.laid) #[.slice none 0 0, .int .i64 0, .slice none 0 0] 8 (World.laidAll_os _ _ _)
      (World.shaped_of_ZipB (by kernel_rfl) (by kernel_rfl)) (by kernel_rfl) (by kernel_rfl) (by kernel_rfl)
      (by rw [MakeChecks.laidMetH_plain _ _ _ (by kernel_rfl)]; exact laidMet_laidAll _ (by kernel_rfl) (by kernel_rfl))) ?_
  intro W base args ds gs before hval0 hW _ _ _ _
  have hval : ∀ (j : Nat) t v, Tryz.f5.params[j]? = some t → args[j]? = some v → Value.okWide Tryz.prog W .any base t v := hval0
  have hW' := hW
  obtain ⟨p, q, hA0, hV, rfl, _, _⟩ := hW
  have hA : DataW.TrodAll enc Tryz.prog W 0 (fun _ => true) true Tryz.f5.params.toList args.toList ds p := hA0
  have hT : ∀ t ∈ Tryz.f5.params.toList, (fun t => t = 31 ∨ t = 35 ∨ t = 3 ∨ t = 9) t := by
    rw [Tryz.params5]; intro t ht
    simp only [List.mem_cons, List.mem_nil_iff, or_false] at ht
    rcases ht with rfl | rfl | rfl
    · exact .inl rfl
    · exact .inr (.inr (.inl rfl))
    · exact .inl rfl
  rw [Tryz.params5] at hA hval
  obtain ⟨v0, vs0, d0, ds0, p0, q0, ev, rfl, rfl, h0, hA0⟩ := trodAll_cons hA
  obtain ⟨v1, vs1, d1, ds1, p1, q1, rfl, rfl, rfl, h1, hA1⟩ := trodAll_cons hA0
  obtain ⟨v2, vs2, d2, ds2, p2, q2, rfl, rfl, rfl, h2, hA2⟩ := trodAll_cons hA1
  obtain ⟨rfl, rfl, rfl⟩ := trodAll_nil hA2
  obtain rfl : args = #[v0, v1, v2] := by apply Array.ext'; exact ev
  obtain ⟨rfl, rfl⟩ := trodVars_none hV
  obtain ⟨x0, n0, r0⟩ := open_itemsR Tryz.underlying31 Tryz.underlying35 cells35 rfl rfl rfl cells3 cells3 cells9 Tryz.underlying3 Tryz.underlying3 Tryz.underlying9 (hval 0 31 v0 rfl rfl) h0
  obtain ⟨x1, w1, r1⟩ := open_intR Tryz.underlying3 (hval 1 3 v1 rfl rfl)
  obtain ⟨x2, n2, r2⟩ := open_itemsR Tryz.underlying31 Tryz.underlying35 cells35 rfl rfl rfl cells3 cells3 cells9 Tryz.underlying3 Tryz.underlying3 Tryz.underlying9 (hval 2 31 v2 rfl rfl) h2
  clear hA0 hval0
  simp only [List.append_nil] at hW'
  refine (calls_trueS (Zz.pf_FnMedian x0 x1 x2) (W := W) (args := [v0, v1, v2]) (by simp only [repL]; exact ⟨_, _, rfl, r0, ⟨_, _, rfl, r1, ⟨_, _, rfl, r2, rfl⟩⟩⟩)).mono fun e W' ⟨he, hlf⟩ => ?_
  subst he
  exact ⟨_, rfl, post_stay kids sized hT rfl hW' rfl rfl (fun _ _ _ => trodAll_mk1 (shut_bool Tryz.underlying4 _)) hlf (ok_one (by kernel_rfl) rfl (okWide_bool_mk Tryz.underlying4 _))⟩

end Go.Proofs.YtopgbalmdocboaaGreatDoor
