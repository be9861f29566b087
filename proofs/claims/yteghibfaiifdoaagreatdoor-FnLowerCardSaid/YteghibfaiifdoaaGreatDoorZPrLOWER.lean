/- Walks of the functions, printed by program, and the logic behind them: each theorem says what one function or one step answers. -/
import Derived.Test.YteghibfaiifdoaaGreatDoorZM
import Derived.Test.YteghibfaiifdoaaGreatDoorZTx
import Derived.Shelf.Lay
import Derived.Shelf.Strings.OnBuilder
namespace Go.Proofs.YteghibfaiifdoaaGreatDoor.Zz
open Go.Abs
set_option maxRecDepth 100000
set_option linter.unusedVariables false
set_option linter.unusedSimpArgs false
set_option maxHeartbeats 4000000
variable {G : Nat → D}

shelf_lay Lays.n159 Nm 159 at Tryz as Tryz.lays159
theorem Tryz.Builder_Extra_159 : Builder.Extra Tryz.prog Tryz.lays159_ren where
  sizeBuilder := by kernel_rfl
  liesBuilder := by kernel_rfl
  t5 := Tryz.underlying5
  a5 := Tryz.isAgg5
  z5 := Tryz.sizeOf5
  v5 := Tryz.zeroValue5
  infoByte := by kernel_rfl
  cellsByte := by kernel_rfl
  sizeByte := by kernel_rfl
  neB5 := by decide


theorem pf_ToLower (s : List UInt8) (hs : s.length ≤ 1000) (hp : ∀ b ∈ s, b.toNat < 128) : PF Tryz.prog G 59 [st s] (st (lowS s)) :=
  pf_shelf fun g Prot w cargs hr ha => by
    simp only [repL] at ha
    obtain ⟨v, r, rfl, h1, rfl⟩ := ha
    simp only [rep] at h1
    subst h1
    refine (Any.strings_ToLower_ascii Tryz.lays159 Tryz.Builder_Extra_159 ⟨⟨s⟩⟩ w (show s.length ≤ _ by omega) (fun j b hb => hp b (List.mem_of_getElem? hb))).mono fun e w' ⟨h2, h3⟩ => ⟨_, h2, h3, ?_⟩
    simp only [rep]
    show Value.string ⟨(Lib.toLowerA s).toArray⟩ = str (lowS s)
    rw [low_lib]


-- (*pub-tallysheet/pub/excelize.formulaFuncs).LOWER
theorem pf_LOWER {s : List UInt8} (h : Heap) (kf k : Nat) (es : List (Nat × D)) (H : IsList h k es) (hes : es.map (·.2) = [.ifc 65 (fStr s).d]) (hs : s.length ≤ 1000) (hp : ∀ b ∈ s, b.toNat < 128) : ACall Tryz.prog G 39 true [.hp kf 0, .hp k 0] h (fun ret _ => ret = (fStr (lowS s)).d) := by
  obtain ⟨e0, rfl⟩ := el1 hes
  refine ACall.intro rfl Tryz.func39 rfl (Nat.le_of_ble_eq_true rfl) rfl ?_
  refine w_seq (w_reg (s_s rfl rfl (as_alloc0 (id := 0) rfl rfl (by exact (rfl : _ = [_, _, _, _, _, _, _, _, _, _]))) ?_))
  refine s_nil (n_n (w_seq (w_seq (w_reg (s_q rfl rfl (q_mv (.inl rfl) (by first | exact is_box rfl | exact is_hp rfl | exact is_pin rfl | exact is_sc rfl | exact rfl)) ?_)))))
  refine s_o rfl rfl (ao_callH rfl rfl rfl rfl (pf_Len _ k _ H) fun vln Hvln hvln => ?_)
  obtain ⟨rfl, rfl⟩ := hvln
  refine s_q rfl rfl (q_neq rfl rfl rfl) ?_
  refine s_nil (n_n (w_ifF rfl (w_skip (n_n (w_seq (w_reg (s_q rfl rfl (q_mv (.inl rfl) (by first | exact is_box rfl | exact is_hp rfl | exact is_pin rfl | exact is_sc rfl | exact rfl)) ?_)))))))
  refine s_o rfl rfl (ao_callH rfl rfl rfl rfl (pf_Front _ k _ H (by simp) (by simp)) fun vfr Hvfr hvfr => ?_)
  obtain ⟨e_, rfl⟩ := hvfr
  replace e_ : vfr = D.hp e0 0 := e_
  subst e_
  refine s_q rfl rfl (q_nil rfl rfl rfl) ?_
  refine s_q rfl rfl (q_field rfl rfl (by exact rfl)) ?_
  refine s_q rfl rfl (q_loadH rfl rfl (d := .ifc 65 (fStr s).d) (by exact H.val (e0, .ifc 65 (fStr s).d) (by simp))) ?_
  refine s_q rfl rfl (q_asr rfl rfl) ?_
  refine s_q rfl rfl (q_call rfl rfl rfl rfl (pf_ValueS _)) ?_
  refine s_q rfl rfl (q_call rfl rfl rfl rfl (pf_ToLower s hs hp)) ?_
  refine s_q rfl rfl (q_call rfl rfl rfl rfl (pf_newStr _)) ?_
  refine s_u rfl rfl (as_st rfl rfl (by first | exact (rfl : _ = D.agg [_, _, _, _, _, _, _, _, _, _]) | exact rfl) rfl (by exact rfl) (by exact rfl) (by exact Nat.le_of_ble_eq_true rfl) (by exact (rfl : _ = [_, _, _, _, _, _, _, _, _, _]))) ?_
  refine s_nil (n_n (w_ret ?_))
  -- end 0
  refine r_r (ra_cell (by exact (rfl : _ = some (D.agg [_, _, _, _, _, _, _, _, _, _]))) ra_nil) (by first | exact (rfl : _ = D.agg [_, _, _, _, _, _, _, _, _, _]) | exact rfl) (by exact rfl) (Sub.refl _) ?_
  rfl


-- pub-tallysheet/pub/excelize.DoorLOWER
theorem pf_DoorLOWER (s : List UInt8) (hs : s.length ≤ 1000) (hp : ∀ b ∈ s, b.toNat < 128) : PF Tryz.prog G 25 [ilst [iStr s]] (iStr (lowS s)).d := by
  refine PC.intro rfl Tryz.func25 rfl (Nat.le_of_ble_eq_true rfl) rfl ?_
  refine w_seq (w_reg (s_s rfl rfl (as_alloc0 (id := 0) rfl rfl (by exact (rfl : _ = [_, _, _, _]))) ?_))
  refine s_nil (n_n (w_seq (w_reg (s_o rfl rfl (ao_callH rfl rfl rfl rfl (pf_doorFuncs _) fun v3 Hv3 hv3 => ?_)))))
  obtain ⟨kf, rfl⟩ := hv3
  refine s_q rfl rfl (q_mv (.inl rfl) (by first | exact is_im rfl | exact is_gs rfl | exact is_lit rfl | exact is_ms rfl | exact is_sc rfl | exact rfl)) ?_
  refine s_o rfl rfl (ao_callH rfl rfl rfl rfl (pf_innerList _ [iStr s] (by simp only [List.length_cons, List.length_nil]; omega) innF (fun v hv => by rw [List.mem_singleton.1 hv]; exact pf_innerS s)) fun v5 Hv5 hv5 => ?_)
  obtain ⟨kl, es, rfl, hL, hes⟩ := hv5
  refine s_o rfl rfl (ao_callH rfl rfl rfl rfl (pf_LOWER _ kf kl es hL hes hs hp) fun v6 Hv6 hv6 => ?_)
  obtain rfl := hv6
  refine s_q rfl rfl (q_call rfl rfl rfl rfl (pf_doorS _)) ?_
  refine s_u rfl rfl (as_st rfl rfl (by first | exact (rfl : _ = D.agg [_, _, _, _]) | exact rfl) rfl (by exact rfl) (by exact rfl) (by exact Nat.le_of_ble_eq_true rfl) (by exact (rfl : _ = [_, _, _, _]))) ?_
  refine s_nil (n_n (w_ret ?_))
  -- end 0
  refine r_r (ra_cell (by exact (rfl : _ = some (D.agg [_, _, _, _]))) ra_nil) (by first | exact (rfl : _ = D.agg [_, _, _, _]) | exact rfl) (by exact rfl) sub_no ?_
  rfl


-- pub-tallysheet/impl.LOWER
theorem pf_ImplLOWER (s : List UInt8) (hs : s.length ≤ 1000) (hp : ∀ b ∈ s, b.toNat < 128) : PF Tryz.prog G 10 [ilst [iStr s]] (iStr (lowS s)).d := by
  refine PC.intro rfl Tryz.func10 rfl (Nat.le_of_ble_eq_true rfl) rfl ?_
  refine w_seq (w_reg (s_s rfl rfl (as_alloc0 (id := 0) rfl rfl (by exact (rfl : _ = [_, _, _, _]))) ?_))
  refine s_nil (n_n (w_seq (w_reg (s_q rfl rfl (q_mv (.inl rfl) (by first | exact is_im rfl | exact is_gs rfl | exact is_lit rfl | exact is_ms rfl | exact is_sc rfl | exact rfl)) ?_))))
  refine s_q rfl rfl (q_call rfl rfl rfl rfl (pf_in [iStr s] (by simp only [List.length_cons, List.length_nil]; omega) (by intro v hv; simp only [List.mem_cons, List.mem_nil_iff, or_false] at hv; subst hv; rfl))) ?_
  refine s_q rfl rfl (q_call rfl rfl rfl rfl (pf_DoorLOWER s hs hp)) ?_
  refine s_q rfl rfl (q_call rfl rfl rfl rfl (pf_out _ _ _)) ?_
  refine s_u rfl rfl (as_st rfl rfl (by first | exact (rfl : _ = D.agg [_, _, _, _]) | exact rfl) rfl (by exact rfl) (by exact rfl) (by exact Nat.le_of_ble_eq_true rfl) (by exact (rfl : _ = [_, _, _, _]))) ?_
  refine s_nil (n_n (w_ret ?_))
  -- end 0
  refine r_r (ra_cell (by exact (rfl : _ = some (D.agg [_, _, _, _]))) ra_nil) (by first | exact (rfl : _ = D.agg [_, _, _, _]) | exact rfl) (by exact rfl) sub_no ?_
  rfl

end Go.Proofs.YteghibfaiifdoaaGreatDoor.Zz
