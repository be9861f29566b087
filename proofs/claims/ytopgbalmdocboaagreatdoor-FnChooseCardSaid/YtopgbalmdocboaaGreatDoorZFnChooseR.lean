/- FnChoose: the row and the card. -/
import Derived.Test.YtopgbalmdocboaaGreatDoorZLFnChoose
import Derived.Test.YtopgbalmdocboaaGreatDoorZRw
import Derived.Test.YtopgbalmdocboaaGreatDoorRows
import Derived.Test.YtopgbalmdocboaaGreatDoorCards
import Derived.Test.YtopgbalmdocboaaGreatDoorTie
namespace Go.Proofs.YtopgbalmdocboaaGreatDoor
set_option linter.unusedVariables false
set_option linter.unusedSimpArgs false
open Go.ChangeShapes Go.WideShapes Go.ChangeAt Go.RowKit Go.Abs

theorem own : ownKnob Tryz.prog.godebug = none := by kernel_rfl
theorem cells3 : Tryz.prog.cellsOf 3 = 1 := by kernel_rfl
theorem cells9 : Tryz.prog.cellsOf 9 = 1 := by kernel_rfl
theorem cells35 : Tryz.prog.cellsOf 35 = 3 := by kernel_rfl

theorem kids : Kids Tryz.prog (fun t => t = 3 ∨ t = 31 ∨ t = 35 ∨ t = 9) := by
  refine ⟨?_, ?_, ?_, ?_, ?_⟩
  · rintro t e (rfl | rfl | rfl | rfl) h
    · rw [Tryz.underlying3] at h; cases h
    · rw [Tryz.underlying31] at h; cases h
    · rw [Tryz.underlying35] at h; cases h
    · rw [Tryz.underlying9] at h; cases h
  · rintro t e (rfl | rfl | rfl | rfl) h
    · rw [Tryz.underlying3] at h; cases h
    · rw [Tryz.underlying31] at h; cases h; exact .inr (.inr (.inl rfl))
    · rw [Tryz.underlying35] at h; cases h
    · rw [Tryz.underlying9] at h; cases h
  · rintro t e n (rfl | rfl | rfl | rfl) h
    · rw [Tryz.underlying3] at h; cases h
    · rw [Tryz.underlying31] at h; cases h
    · rw [Tryz.underlying35] at h; cases h
    · rw [Tryz.underlying9] at h; cases h
  · rintro t fs (rfl | rfl | rfl | rfl) h
    · rw [Tryz.underlying3] at h; cases h
    · rw [Tryz.underlying31] at h; cases h
    · rw [Tryz.underlying35] at h; cases h
      refine ⟨by intro f hf; simp at hf; rcases hf with rfl | rfl | rfl <;> simp, by rw [cells35]; simp [cells3, cells9], ?_⟩
      intro j f hf
      match j, hf with
      | 0, hf => cases hf; simp [cells3, cells9]
      | 1, hf => cases hf; simp [cells3, cells9]
      | 2, hf => cases hf; simp [cells3, cells9]
      | n + 3, hf => simp at hf
    · rw [Tryz.underlying9] at h; cases h
  · rintro t k e (rfl | rfl | rfl | rfl) h
    · rw [Tryz.underlying3] at h; cases h
    · rw [Tryz.underlying31] at h; cases h
    · rw [Tryz.underlying35] at h; cases h
    · rw [Tryz.underlying9] at h; cases h
theorem sized {t e : TypeId} (ht : t = 3 ∨ t = 31 ∨ t = 35 ∨ t = 9) (h : Tryz.prog.underlying t = some (.slice e)) : 0 < Tryz.prog.cellsOf e := by
  rcases ht with rfl | rfl | rfl | rfl
  · rw [Tryz.underlying3] at h; cases h
  · rw [Tryz.underlying31] at h; cases h; rw [cells35]; decide
  · rw [Tryz.underlying35] at h; cases h
  · rw [Tryz.underlying9] at h; cases h

theorem row_powers : ∀ q : Fin 13, Go.Pinned.pow10Rows[q.val + 353]? = some (hiOf (q.val + 5), 0) := by decide +kernel
def tens : List Int := [1, 10, 100, 1000, 10000, 100000, 1000000, 10000000, 100000000, 1000000000, 10000000000, 100000000000, 1000000000000, 10000000000000, 100000000000000, 1000000000000000, 10000000000000000, 100000000000000000, 1000000000000000000, 10000000000000000000]
theorem row_tens : ∀ i : Fin 20, tens[i.val]? = some ((10 ^ i.val : Nat) : Int) := by decide +kernel
theorem tables {W : World} (h : laidMetH Tryz.prog Rows.fnChooseRow.laid W) : Zz.Tabs (tabG 12 (pairsV Go.Pinned.pow10Rows) 9 (wordsV tens)) ∧
    ∀ i, tabG 12 (pairsV Go.Pinned.pow10Rows) 9 (wordsV tens) i = glob0 i ∨ ∃ vs : List Value, tabG 12 (pairsV Go.Pinned.pow10Rows) 9 (wordsV tens) i = .pin (vs.map .sc) 0 ∧ ∀ k v, vs[k]? = some v → W.cell? ⟨i, k, none⟩ = some v ∧ v.oneCell' = true := by
  rw [MakeChecks.laidMetH_plain _ _ _ (by kernel_rfl)] at h
  obtain ⟨ps, hv, _, _⟩ := h
  obtain ⟨g, t, cs, fuel, p, hg, ht, hvv, hd⟩ := laid_at hv 7 "internal/strconv.pow10Tab" Rows.laid_internal_strconv_pow10Tab rfl
  obtain rfl := Option.some.inj ((show Tryz.prog.globalNamed "internal/strconv.pow10Tab" = some 12 by kernel_rfl).symm.trans hg)
  obtain rfl := Option.some.inj ((show (Tryz.prog.globals[12]?).map (·.type) = some 330 by kernel_rfl).symm.trans ht)
  have ec : cs.toList = pairsV Go.Pinned.pow10Rows := pairs_cells (rows := Go.Pinned.pow10Rows) Tryz.underlying330 Tryz.underlying329 ⟨rfl, rfl⟩ ⟨rfl, rfl⟩ Tryz.underlying235 (by kernel_rfl) (by kernel_rfl) (by kernel_rfl) hd
  obtain ⟨g2, t2, cs2, fuel2, p2, hg2, ht2, hvv2, hd2⟩ := laid_at hv 3 "internal/strconv.uint64pow10" Rows.laid_internal_strconv_uint64pow10 rfl
  obtain rfl := Option.some.inj ((show Tryz.prog.globalNamed "internal/strconv.uint64pow10" = some 9 by kernel_rfl).symm.trans hg2)
  obtain rfl := Option.some.inj ((show (Tryz.prog.globals[9]?).map (·.type) = some 297 by kernel_rfl).symm.trans ht2)
  have ec2 : cs2.toList = wordsV tens := words_cells (zs := tens) Tryz.underlying297 Tryz.underlying235 (by kernel_rfl) (by kernel_rfl) hd2
  refine ⟨⟨⟨_, if_pos rfl, fun p h1 h2 => ?_⟩, ⟨_, (if_neg (by decide)).trans (if_pos rfl), fun i hi => ?_⟩⟩, tabG_ok (fun k v hk => ?_) (fun k v hk => ?_)⟩
  · obtain ⟨q, rfl⟩ : ∃ q, p = q + 5 := ⟨p - 5, by omega⟩
    have h3 : Go.Pinned.pow10Rows[q + 5 + 348]? = some (hiOf (q + 5), 0) := row_powers ⟨q, by omega⟩
    obtain ⟨k1, k2⟩ := flat2_at (f := fun x : Nat × Nat => Value.int .u64 x.1) (g := fun x => Value.int .u64 x.2) h3
    refine ⟨?_, ?_⟩
    · rw [List.getElem?_map]; exact congrArg (Option.map D.sc) k1
    · rw [List.getElem?_map]; exact congrArg (Option.map D.sc) k2
  · rw [List.getElem?_map]
    unfold wordsV
    rw [List.getElem?_map, row_tens ⟨i, hi⟩]; rfl
  · rw [World.var?_cell hg hvv k, ← Array.getElem?_toList, ec]; exact ⟨hk, pairs_one hk⟩
  · rw [World.var?_cell hg2 hvv2 k, ← Array.getElem?_toList, ec2]; exact ⟨hk, words_one hk⟩

set_option maxRecDepth 100000 in
theorem lifted (os : Os) (started : os.Started) (H : Type) (enc : TypeId × Value → H) :
    ReturnsInHanded {} Tryz.checked os 4 .any (fun w args => (Rows.fnChooseSpec.pre enc Tryz.prog Tryz.f4 Rows.fnChooseRow.domain false w args ∧ laidMetH Tryz.prog Rows.fnChooseRow.laid w) ∧ sizedMet enc Tryz.prog Tryz.f4 (OpenSpec.ofChange Rows.fnChooseSpec) false w args)
      (Rows.fnChooseSpec.post enc Tryz.prog Tryz.f4 false true false false) := by
  refine returnsInHanded_of_change_and (C := Tryz.checked) (X := fun w _ => laidMetH Tryz.prog Rows.fnChooseRow.laid w) (fun _ _ _ hh h => h.of_heap hh) own started (by kernel_rfl) Tryz.func4
    (ChangeSpec.witness_shaped (enc := enc) (C := Tryz.checked) (os := os) (X := fun w _ => laidMetH Tryz.prog Rows.fnChooseRow.laid w) false (World.laidAll Tryz.prog os Rows.fnChooseRow.laid) #[.int .i64 0, .slice none 0 0] 8 (World.laidAll_os _ _ _)
      (World.shaped_of_ZipB (by kernel_rfl) (by kernel_rfl)) (by kernel_rfl) (by kernel_rfl) (by kernel_rfl)
      (by rw [MakeChecks.laidMetH_plain _ _ _ (by kernel_rfl)]; exact laidMet_laidAll _ (by kernel_rfl) (by kernel_rfl))) ?_
  intro W base args ds gs before hval0 hW _ _ hL _
  have hval : ∀ (j : Nat) t v, Tryz.f4.params[j]? = some t → args[j]? = some v → Value.okWide Tryz.prog W .any base t v := hval0
  have hW' := hW
  obtain ⟨p, q, hA0, hV, rfl, _, _⟩ := hW
  have hA : DataW.TrodAll enc Tryz.prog W 0 (fun _ => true) true Tryz.f4.params.toList args.toList ds p := hA0
  have hT : ∀ t ∈ Tryz.f4.params.toList, (fun t => t = 3 ∨ t = 31 ∨ t = 35 ∨ t = 9) t := by
    rw [Tryz.params4]; intro t ht
    simp only [List.mem_cons, List.mem_nil_iff, or_false] at ht
    rcases ht with rfl | rfl
    · exact .inl rfl
    · exact .inr (.inl rfl)
  rw [Tryz.params4] at hA hval
  obtain ⟨v0, vs0, d0, ds0, p0, q0, ev, rfl, rfl, h0, hA0⟩ := trodAll_cons hA
  obtain ⟨v1, vs1, d1, ds1, p1, q1, rfl, rfl, rfl, h1, hA1⟩ := trodAll_cons hA0
  obtain ⟨rfl, rfl, rfl⟩ := trodAll_nil hA1
  obtain rfl : args = #[v0, v1] := by apply Array.ext'; exact ev
  obtain ⟨rfl, rfl⟩ := trodVars_none hV
  obtain ⟨x0, w0, r0⟩ := open_intR Tryz.underlying3 (hval 0 3 v0 rfl rfl)
  obtain ⟨x1, n1, r1⟩ := open_itemsR Tryz.underlying31 Tryz.underlying35 cells35 rfl rfl rfl cells3 cells3 cells9 Tryz.underlying3 Tryz.underlying3 Tryz.underlying9 (hval 1 31 v1 rfl rfl) h1
  clear hA0 hval0
  simp only [List.append_nil] at hW'
  obtain ⟨T, hG⟩ := tables hL
  refine (calls_trueG hG (Zz.pf_FnChoose x0 x1 T) (W := W) (args := [v0, v1]) (by simp only [repL]; exact ⟨_, _, rfl, r0, ⟨_, _, rfl, r1, rfl⟩⟩)).mono fun e W' ⟨he, hlf⟩ => ?_
  subst he
  exact ⟨_, rfl, post_stay kids sized hT rfl hW' rfl rfl (fun _ _ _ => trodAll_mk1 (shut_bool Tryz.underlying4 _)) hlf (ok_one (by kernel_rfl) rfl (okWide_bool_mk Tryz.underlying4 _))⟩

end Go.Proofs.YtopgbalmdocboaaGreatDoor
