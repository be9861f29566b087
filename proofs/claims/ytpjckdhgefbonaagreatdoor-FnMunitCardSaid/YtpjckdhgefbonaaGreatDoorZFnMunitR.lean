/- FnMunit: the row and the card. -/
import Derived.Test.YtpjckdhgefbonaaGreatDoorZLFnMunit
import Derived.Test.YtpjckdhgefbonaaGreatDoorZRw
import Derived.Test.YtpjckdhgefbonaaGreatDoorRows
import Derived.Test.YtpjckdhgefbonaaGreatDoorCards
import Derived.Test.YtpjckdhgefbonaaGreatDoorTie
namespace Go.Proofs.YtpjckdhgefbonaaGreatDoor
set_option linter.unusedVariables false
set_option linter.unusedSimpArgs false
open Go.ChangeShapes Go.WideShapes Go.ChangeAt Go.RowKit Go.Abs

theorem own : ownKnob Tryz.prog.godebug = none := by kernel_rfl

set_option maxRecDepth 100000 in
theorem lifted (os : Os) (started : os.Started) (H : Type) (enc : TypeId × Value → H) :
    ReturnsInHanded {} Tryz.checked os 4 .any (fun w args => (Rows.fnMunitSpec.pre enc Tryz.prog Tryz.f4 Rows.fnMunitRow.domain false w args ∧ laidMetH Tryz.prog Rows.fnMunitRow.laid w) ∧ sizedMet enc Tryz.prog Tryz.f4 (OpenSpec.ofChange Rows.fnMunitSpec) false w args)
      (Rows.fnMunitSpec.post enc Tryz.prog Tryz.f4 false true false false) := by
  refine returnsInHanded_of_change_and (C := Tryz.checked) (X := fun w _ => laidMetH Tryz.prog Rows.fnMunitRow.laid w) (fun _ _ _ hh h => h.of_heap hh) own started (by kernel_rfl) Tryz.func4
    (ChangeSpec.witness_shaped (enc := enc) (C := Tryz.checked) (os := os) (X := fun w _ => laidMetH Tryz.prog Rows.fnMunitRow.laid w) false (World.laidAll Tryz.prog os Rows.fnMunitRow.laid) #[.int .i64 0] 8 (World.laidAll_os _ _ _)
      (World.shaped_of_ZipB (by kernel_rfl) (by kernel_rfl)) (by kernel_rfl) (by kernel_rfl) (by kernel_rfl)
      (by rw [MakeChecks.laidMetH_plain _ _ _ (by kernel_rfl)]; exact laidMet_laidAll _ (by kernel_rfl) (by kernel_rfl))) ?_
  intro W base args ds gs before hval0 hW _ _ _ _
  have hval : ∀ (j : Nat) t v, Tryz.f4.params[j]? = some t → args[j]? = some v → Value.okWide Tryz.prog W .any base t v := hval0
  have hW' := hW
  obtain ⟨p, q, hA0, hV, rfl, _, _⟩ := hW
  have hA : DataW.TrodAll enc Tryz.prog W 0 (fun _ => true) true Tryz.f4.params.toList args.toList ds p := hA0
  rw [Tryz.params4] at hA hval
  obtain ⟨v0, d0, rfl, rfl, h0⟩ := trodAll_one hA
  obtain ⟨rfl, rfl⟩ := trodVars_none hV
  obtain ⟨n, rfl, rfl, rfl, wn⟩ := open_int Tryz.underlying3 (hval 0 3 v0 rfl rfl) h0
  clear hA0 hval0
  simp only [List.append_nil] at hW'
  refine (calls_true (Zz.pf_FnMunit n) (W := W) (args := [.int .i64 n]) (by simp only [repL]; exact ⟨_, [], rfl, by simp [rep], rfl⟩)).mono fun e W' ⟨he, hl⟩ => ?_
  subst he
  exact ⟨_, rfl, post_left hW' (fun _ _ _ => trodAll_mk1 (shut_bool Tryz.underlying4 _)) (fun _ => trodAll_mk1 (shut_int Tryz.underlying3 wn)) (fun _ => rfl) hl (ok_one (by kernel_rfl) rfl (okWide_bool_mk Tryz.underlying4 _))⟩

end Go.Proofs.YtpjckdhgefbonaaGreatDoor
