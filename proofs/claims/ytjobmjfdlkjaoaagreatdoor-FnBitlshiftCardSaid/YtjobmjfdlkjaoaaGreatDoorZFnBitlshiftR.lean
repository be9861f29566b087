/- FnBitlshift: the row and the card. -/
import Derived.Test.YtjobmjfdlkjaoaaGreatDoorZLFnBitlshift
import Derived.Test.YtjobmjfdlkjaoaaGreatDoorZRow
import Derived.Test.YtjobmjfdlkjaoaaGreatDoorRows
import Derived.Test.YtjobmjfdlkjaoaaGreatDoorCards
import Derived.Test.YtjobmjfdlkjaoaaGreatDoorTie
namespace Go.Proofs.YtjobmjfdlkjaoaaGreatDoor
set_option linter.unusedVariables false
set_option linter.unusedSimpArgs false
open Go.ChangeShapes Go.WideShapes Go.ChangeAt Go.RowKit Go.Abs

theorem own : ownKnob Tryz.prog.godebug = none := by kernel_rfl

set_option maxRecDepth 100000 in
theorem lifted (os : Os) (started : os.Started) (H : Type) (enc : TypeId × Value → H) :
    ReturnsInHanded {} Tryz.checked os 7 .any (fun w args => (Rows.fnBitlshiftSpec.pre enc Tryz.prog Tryz.f7 Rows.fnBitlshiftRow.domain false w args ∧ laidMetH Tryz.prog Rows.fnBitlshiftRow.laid w) ∧ sizedMet enc Tryz.prog Tryz.f7 (OpenSpec.ofChange Rows.fnBitlshiftSpec) false w args)
      (Rows.fnBitlshiftSpec.post enc Tryz.prog Tryz.f7 false true false false) := by
  refine returnsInHanded_of_change_and (C := Tryz.checked) (X := fun w _ => laidMetH Tryz.prog Rows.fnBitlshiftRow.laid w) (fun _ _ _ hh h => h.of_heap hh) own started (by kernel_rfl) Tryz.func7
    (ChangeSpec.witness_shaped (enc := enc) (C := Tryz.checked) (os := os) (X := fun w _ => laidMetH Tryz.prog Rows.fnBitlshiftRow.laid w) false (World.laidAll Tryz.prog os Rows.fnBitlshiftRow.laid) #[.int .i64 0, .int .i64 0] 8 (World.laidAll_os _ _ _)
      (World.shaped_of_ZipB (by kernel_rfl) (by kernel_rfl)) (by kernel_rfl) (by kernel_rfl) (by kernel_rfl)
      (by rw [MakeChecks.laidMetH_plain _ _ _ (by kernel_rfl)]; exact laidMet_laidAll _ (by kernel_rfl) (by kernel_rfl))) ?_
  intro W base args ds gs before hval0 hW _ _ _ _
  have hval : ∀ (j : Nat) t v, Tryz.f7.params[j]? = some t → args[j]? = some v → Value.okWide Tryz.prog W .any base t v := hval0
  have hW' := hW
  obtain ⟨p, q, hA0, hV, rfl, _, _⟩ := hW
  have hA : DataW.TrodAll enc Tryz.prog W 0 (fun _ => true) true Tryz.f7.params.toList args.toList ds p := hA0
  rw [Tryz.params7] at hA hval
  obtain ⟨v0, v1, d0, d1, p0, p1, rfl, rfl, rfl, h0, h1⟩ := trodAll_two hA
  obtain ⟨rfl, rfl⟩ := trodVars_none hV
  obtain ⟨n, rfl, rfl, rfl, wn⟩ := open_int Tryz.underlying3 (hval 0 3 v0 rfl rfl) h0
  obtain ⟨k, rfl, rfl, rfl, wk⟩ := open_int Tryz.underlying3 (hval 1 3 v1 rfl rfl) h1
  clear hA0 hval0
  simp only [List.append_nil] at hW'
  refine (calls_true (Zz.pf_FnBitlshift n k) (W := W) (args := [.int .i64 n, .int .i64 k]) (by simp only [repL]; exact ⟨_, _, rfl, by simp [rep], ⟨_, [], rfl, by simp [rep], rfl⟩⟩)).mono fun e W' ⟨he, hl⟩ => ?_
  subst he
  exact ⟨_, rfl, post_left hW' (fun _ _ _ => trodAll_mk1 (shut_bool Tryz.underlying4 _)) (fun _ => trodAll_mk2 (shut_int Tryz.underlying3 wn) (shut_int Tryz.underlying3 wk)) (fun _ => rfl) hl (ok_one (by kernel_rfl) rfl (okWide_bool_mk Tryz.underlying4 _))⟩

end Go.Proofs.YtjobmjfdlkjaoaaGreatDoor
