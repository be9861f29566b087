/- FnIf: the row and the card. -/
import Derived.Test.YteghibfaiifdoaaGreatDoorZLFnIf
import Derived.Test.YteghibfaiifdoaaGreatDoorZRw
import Derived.Test.YteghibfaiifdoaaGreatDoorRows
import Derived.Test.YteghibfaiifdoaaGreatDoorCards
import Derived.Test.YteghibfaiifdoaaGreatDoorTie
namespace Go.Proofs.YteghibfaiifdoaaGreatDoor
set_option linter.unusedVariables false
set_option linter.unusedSimpArgs false
open Go.ChangeShapes Go.WideShapes Go.ChangeAt Go.RowKit Go.Abs

theorem own : ownKnob Tryz.prog.godebug = none := by kernel_rfl

theorem kids : Kids Tryz.prog (fun t => t = 4 ∨ t = 5 ∨ t = 3 ∨ t = 9) := by
  refine ⟨?_, ?_, ?_, ?_, ?_⟩
  · rintro t e (rfl | rfl | rfl | rfl) h
    · rw [Tryz.underlying4] at h; cases h
    · rw [Tryz.underlying5] at h; cases h
    · rw [Tryz.underlying3] at h; cases h
    · rw [Tryz.underlying9] at h; cases h
  · rintro t e (rfl | rfl | rfl | rfl) h
    · rw [Tryz.underlying4] at h; cases h
    · rw [Tryz.underlying5] at h; cases h
    · rw [Tryz.underlying3] at h; cases h
    · rw [Tryz.underlying9] at h; cases h
  · rintro t e n (rfl | rfl | rfl | rfl) h
    · rw [Tryz.underlying4] at h; cases h
    · rw [Tryz.underlying5] at h; cases h
    · rw [Tryz.underlying3] at h; cases h
    · rw [Tryz.underlying9] at h; cases h
  · rintro t fs (rfl | rfl | rfl | rfl) h
    · rw [Tryz.underlying4] at h; cases h
    · rw [Tryz.underlying5] at h; cases h
    · rw [Tryz.underlying3] at h; cases h
    · rw [Tryz.underlying9] at h; cases h
  · rintro t k e (rfl | rfl | rfl | rfl) h
    · rw [Tryz.underlying4] at h; cases h
    · rw [Tryz.underlying5] at h; cases h
    · rw [Tryz.underlying3] at h; cases h
    · rw [Tryz.underlying9] at h; cases h
theorem sized {t e : TypeId} (ht : t = 4 ∨ t = 5 ∨ t = 3 ∨ t = 9) (h : Tryz.prog.underlying t = some (.slice e)) : 0 < Tryz.prog.cellsOf e := by
  rcases ht with rfl | rfl | rfl | rfl
  · rw [Tryz.underlying4] at h; cases h
  · rw [Tryz.underlying5] at h; cases h
  · rw [Tryz.underlying3] at h; cases h
  · rw [Tryz.underlying9] at h; cases h

set_option maxRecDepth 100000 in
theorem lifted (os : Os) (started : os.Started) (H : Type) (enc : TypeId × Value → H) :
    ReturnsInHanded {} Tryz.checked os 6 .any (fun w args => (Rows.fnIfSpec.pre enc Tryz.prog Tryz.f6 Rows.fnIfRow.domain false w args ∧ laidMetH Tryz.prog Rows.fnIfRow.laid w) ∧ sizedMet enc Tryz.prog Tryz.f6 (OpenSpec.ofChange Rows.fnIfSpec) false w args)
      (Rows.fnIfSpec.post enc Tryz.prog Tryz.f6 false true false false) := by
  refine returnsInHanded_of_change_and (C := Tryz.checked) (X := fun w _ => laidMetH Tryz.prog Rows.fnIfRow.laid w) (fun _ _ _ hh h => h.of_heap hh) own started (by kernel_rfl) Tryz.func6
    (ChangeSpec.witness_shaped (enc := enc) (C := Tryz.checked) (os := os) (X := fun w _ => laidMetH Tryz.prog Rows.fnIfRow.laid w) false (World.laidAll Tryz.prog os Rows.fnIfRow.laid) #[.bool false, .int .u8 0, .int .u8 0, .int .i64 0, .int .i64 0, .string ⟨⟨[]⟩⟩, .string ⟨⟨[]⟩⟩] 8 (World.laidAll_os _ _ _)
      (World.shaped_of_ZipB (by kernel_rfl) (by kernel_rfl)) (by kernel_rfl) (by kernel_rfl) (by kernel_rfl)
      (by rw [MakeChecks.laidMetH_plain _ _ _ (by kernel_rfl)]; exact laidMet_laidAll _ (by kernel_rfl) (by kernel_rfl))) ?_
  intro W base args ds gs before hval0 hW _ _ _ _
  have hval : ∀ (j : Nat) t v, Tryz.f6.params[j]? = some t → args[j]? = some v → Value.okWide Tryz.prog W .any base t v := hval0
  have hW' := hW
  obtain ⟨p, q, hA0, hV, rfl, _, _⟩ := hW
  have hA : DataW.TrodAll enc Tryz.prog W 0 (fun _ => true) true Tryz.f6.params.toList args.toList ds p := hA0
  have hT : ∀ t ∈ Tryz.f6.params.toList, (fun t => t = 4 ∨ t = 5 ∨ t = 3 ∨ t = 9) t := by
    rw [Tryz.params6]; intro t ht
    simp only [List.mem_cons, List.mem_nil_iff, or_false] at ht
    rcases ht with rfl | rfl | rfl | rfl | rfl | rfl | rfl
    · exact .inl rfl
    · exact .inr (.inl rfl)
    · exact .inr (.inl rfl)
    · exact .inr (.inr (.inl rfl))
    · exact .inr (.inr (.inl rfl))
    · exact .inr (.inr (.inr (rfl)))
    · exact .inr (.inr (.inr (rfl)))
  rw [Tryz.params6] at hA hval
  obtain ⟨v0, vs0, d0, ds0, p0, q0, ev, rfl, rfl, h0, hA0⟩ := trodAll_cons hA
  obtain ⟨v1, vs1, d1, ds1, p1, q1, rfl, rfl, rfl, h1, hA1⟩ := trodAll_cons hA0
  obtain ⟨v2, vs2, d2, ds2, p2, q2, rfl, rfl, rfl, h2, hA2⟩ := trodAll_cons hA1
  obtain ⟨v3, vs3, d3, ds3, p3, q3, rfl, rfl, rfl, h3, hA3⟩ := trodAll_cons hA2
  obtain ⟨v4, vs4, d4, ds4, p4, q4, rfl, rfl, rfl, h4, hA4⟩ := trodAll_cons hA3
  obtain ⟨v5, vs5, d5, ds5, p5, q5, rfl, rfl, rfl, h5, hA5⟩ := trodAll_cons hA4
  obtain ⟨v6, vs6, d6, ds6, p6, q6, rfl, rfl, rfl, h6, hA6⟩ := trodAll_cons hA5
  obtain ⟨rfl, rfl, rfl⟩ := trodAll_nil hA6
  obtain rfl : args = #[v0, v1, v2, v3, v4, v5, v6] := by apply Array.ext'; exact ev
  obtain ⟨rfl, rfl⟩ := trodVars_none hV
  obtain ⟨x0, r0⟩ := open_boolR Tryz.underlying4 (hval 0 4 v0 rfl rfl)
  obtain ⟨x1, w1, r1⟩ := open_intR Tryz.underlying5 (hval 1 5 v1 rfl rfl)
  obtain ⟨x2, w2, r2⟩ := open_intR Tryz.underlying5 (hval 2 5 v2 rfl rfl)
  obtain ⟨x3, w3, r3⟩ := open_intR Tryz.underlying3 (hval 3 3 v3 rfl rfl)
  obtain ⟨x4, w4, r4⟩ := open_intR Tryz.underlying3 (hval 4 3 v4 rfl rfl)
  obtain ⟨x5, n5, r5⟩ := open_strR Tryz.underlying9 (hval 5 9 v5 rfl rfl)
  obtain ⟨x6, n6, r6⟩ := open_strR Tryz.underlying9 (hval 6 9 v6 rfl rfl)
  clear hA0 hval0
  simp only [List.append_nil] at hW'
  refine (calls_trueS (Zz.pf_FnIf x0 x1 x2 x3 x4 x5 x6) (W := W) (args := [v0, v1, v2, v3, v4, v5, v6]) (by simp only [repL]; exact ⟨_, _, rfl, r0, ⟨_, _, rfl, r1, ⟨_, _, rfl, r2, ⟨_, _, rfl, r3, ⟨_, _, rfl, r4, ⟨_, _, rfl, r5, ⟨_, _, rfl, r6, rfl⟩⟩⟩⟩⟩⟩⟩)).mono fun e W' ⟨he, hlf⟩ => ?_
  subst he
  exact ⟨_, rfl, post_stay kids sized hT rfl hW' rfl rfl (fun _ _ _ => trodAll_mk1 (shut_bool Tryz.underlying4 _)) hlf (ok_one (by kernel_rfl) rfl (okWide_bool_mk Tryz.underlying4 _))⟩

end Go.Proofs.YteghibfaiifdoaaGreatDoor
