/- Walks of the functions, printed by program, and the logic behind them: each theorem says what one function or one step answers. -/
import Derived.Test.YteghibfaiifdoaaGreatDoorZM
import Derived.Test.YteghibfaiifdoaaGreatDoorZNx
namespace Go.Proofs.YteghibfaiifdoaaGreatDoor.Zz
open Go.Abs
set_option maxRecDepth 100000
set_option linter.unusedVariables false
set_option linter.unusedSimpArgs false
set_option maxHeartbeats 4000000
variable {G : Nat → D}

-- pub-tallysheet/pub/excelize.newBoolFormulaArg
theorem pf_newBool (c : Bool) : PF Tryz.prog G 69 [bl c] (fBool c).d := by
  refine PC.intro rfl Tryz.func69 rfl (Nat.le_of_ble_eq_true rfl) rfl ?_
  refine w_seq (w_reg (s_s rfl rfl (as_alloc0 (id := 0) rfl rfl (by exact (rfl : _ = [_, _, _, _, _, _, _, _, _, _]))) ?_))
  refine s_nil (n_n (w_seq (w_reg (s_q rfl rfl (q_mv (.inr rfl) (is_sc rfl)) ?_))))
  refine s_nil (n_n (w_seq (w_seq (w_reg (s_q rfl rfl (q_mv (.inl rfl) (is_sc rfl)) ?_)))))
  refine s_nil (n_n (w_if (is_scb rfl) (fun h4 => ?_) (fun h4 => ?_)))
  · refine w_reg (s_q rfl rfl (q_mv (.inr rfl) (is_sc rfl)) ?_)
    refine s_nil (n_n (w_seq (w_reg (s_q rfl rfl (q_mv (.inl rfl) (is_sc rfl)) ?_))))
    refine s_q rfl rfl (q_build rfl (pt_cons (is_sc rfl) (pt_cons (is_sc rfl) (pt_cons (is_sc rfl) pt_nil))) (by exact (rfl : _ = some [_, _, _, _, _, _, _, _, _, _]))) ?_
    refine s_u rfl rfl (as_st rfl rfl (by first | exact (rfl : _ = D.agg [_, _, _, _, _, _, _, _, _, _]) | exact rfl) rfl (by exact rfl) (by exact rfl) (by exact Nat.le_of_ble_eq_true rfl) (by exact (rfl : _ = [_, _, _, _, _, _, _, _, _, _]))) ?_
    refine s_nil (n_n (w_ret ?_))
    -- end 0
    refine r_r (ra_cell (by exact (rfl : _ = some (D.agg [_, _, _, _, _, _, _, _, _, _]))) ra_nil) (by first | exact (rfl : _ = D.agg [_, _, _, _, _, _, _, _, _, _]) | exact rfl) (by exact rfl) sub_no ?_
    obtain rfl : c = true := h4
    rfl
  · refine w_skip (n_n (w_seq (w_reg (s_q rfl rfl (q_mv (.inl rfl) (is_sc rfl)) ?_))))
    refine s_q rfl rfl (q_build rfl (pt_cons (is_sc rfl) (pt_cons (is_sc rfl) (pt_cons (is_sc rfl) pt_nil))) (by exact (rfl : _ = some [_, _, _, _, _, _, _, _, _, _]))) ?_
    refine s_u rfl rfl (as_st rfl rfl (by first | exact (rfl : _ = D.agg [_, _, _, _, _, _, _, _, _, _]) | exact rfl) rfl (by exact rfl) (by exact rfl) (by exact Nat.le_of_ble_eq_true rfl) (by exact (rfl : _ = [_, _, _, _, _, _, _, _, _, _]))) ?_
    refine s_nil (n_n (w_ret ?_))
    -- end 1
    refine r_r (ra_cell (by exact (rfl : _ = some (D.agg [_, _, _, _, _, _, _, _, _, _]))) ra_nil) (by first | exact (rfl : _ = D.agg [_, _, _, _, _, _, _, _, _, _]) | exact rfl) (by exact rfl) sub_no ?_
    obtain rfl : c = false := h4
    rfl


-- pub-tallysheet/pub/excelize.innerArg
theorem pf_innerB (b : Nat) : PF Tryz.prog G 64 [(iBool b).d] (fBool (fcmp .neq .f64 b 0)).d := by
  refine PC.intro rfl Tryz.func64 rfl (Nat.le_of_ble_eq_true rfl) rfl ?_
  refine w_seq (w_reg (s_s rfl rfl (as_box0 (id := 0) rfl (by first | exact (rfl : _ = D.agg [_, _, _, _]) | exact rfl) (by exact rfl) rfl (by exact (rfl : _ = [_, _, _, _]))) ?_))
  refine s_s rfl rfl (as_alloc0 (id := 1) rfl rfl (by exact (rfl : _ = [_, _, _, _, _, _, _, _, _, _]))) ?_
  refine s_nil (n_n (w_seq (w_seq (w_reg (s_q rfl rfl (q_field rfl rfl (by exact rfl)) ?_)))))
  refine s_q rfl rfl (q_load rfl rfl (by exact (rfl : _ = some (D.sc _)))) ?_
  refine s_nil (n_n (w_block (w_seq (w_reg (s_q rfl rfl (q_eql rfl rfl rfl) ?_)))))
  refine s_q rfl rfl (q_mv (.inr rfl) (is_sc rfl)) ?_
  refine s_nil (n_n (w_ifF rfl (w_seq (w_reg (s_q rfl rfl (q_eql rfl rfl rfl) ?_)))))
  refine s_q rfl rfl (q_mv (.inr rfl) (is_sc rfl)) ?_
  refine s_nil (n_n (w_ifF rfl (w_seq (w_reg (s_q rfl rfl (q_eql rfl rfl rfl) ?_)))))
  refine s_q rfl rfl (q_mv (.inr rfl) (is_sc rfl)) ?_
  refine s_nil (n_n (w_ifT rfl (w_seq (w_reg (s_q rfl rfl (q_field rfl rfl (by exact rfl)) ?_)))))
  refine s_q rfl rfl (q_load rfl rfl (by exact (rfl : _ = some (D.sc _)))) ?_
  refine s_q rfl rfl (q_fcmp rfl rfl rfl rfl) ?_
  refine s_q rfl rfl (q_call rfl rfl rfl rfl (pf_newBool _)) ?_
  refine s_u rfl rfl (as_st rfl rfl (by first | exact (rfl : _ = D.agg [_, _, _, _, _, _, _, _, _, _]) | exact rfl) rfl (by exact rfl) (by exact rfl) (by exact Nat.le_of_ble_eq_true rfl) (by exact (rfl : _ = [_, _, _, _, _, _, _, _, _, _]))) ?_
  refine s_nil (n_n (w_ret (b_r (n_r ?_))))
  -- end 0
  refine r_r (ra_cell (by exact (rfl : _ = some (D.agg [_, _, _, _, _, _, _, _, _, _]))) ra_nil) (by first | exact (rfl : _ = D.agg [_, _, _, _, _, _, _, _, _, _]) | exact rfl) (by exact rfl) sub_no ?_
  rfl


-- (*pub-tallysheet/pub/excelize.formulaFuncs).implicitIntersect
theorem pf_impl (kf : Nat) (f : F) (hf : ¬ f.ty = 4) : PF Tryz.prog G 67 [.hp kf 0, f.d] f.d := by
  refine PC.intro rfl Tryz.func67 rfl (Nat.le_of_ble_eq_true rfl) rfl ?_
  refine w_seq (w_reg (s_s rfl rfl (as_box0 (id := 0) rfl (by first | exact (rfl : _ = D.agg [_, _, _, _, _, _, _, _, _, _]) | exact rfl) (by exact rfl) rfl (by exact (rfl : _ = [_, _, _, _, _, _, _, _, _, _]))) ?_))
  refine s_s rfl rfl (as_alloc0 (id := 1) rfl rfl (by exact (rfl : _ = [_, _, _, _, _, _, _, _, _, _]))) ?_
  refine s_nil (n_n (w_seq (w_seq (w_reg (s_q rfl rfl (q_field rfl rfl (by exact rfl)) ?_)))))
  refine s_q rfl rfl (q_load rfl rfl (by exact (rfl : _ = some (D.sc _)))) ?_
  refine s_q rfl rfl (q_as (bl_yes (hf)) (q_neq rfl rfl rfl)) ?_
  refine s_nil (n_n (w_ifT rfl (w_seq (w_reg (s_q rfl rfl (q_load rfl rfl (by exact (rfl : _ = some (D.agg [_, _, _, _, _, _, _, _, _, _])))) ?_)))))
  refine s_u rfl rfl (as_st rfl rfl (by first | exact (rfl : _ = D.agg [_, _, _, _, _, _, _, _, _, _]) | exact rfl) rfl (by exact rfl) (by exact rfl) (by exact Nat.le_of_ble_eq_true rfl) (by exact (rfl : _ = [_, _, _, _, _, _, _, _, _, _]))) ?_
  refine s_nil (n_n (w_ret (n_r ?_)))
  -- end 0
  refine r_r (ra_cell (by exact (rfl : _ = some (D.agg [_, _, _, _, _, _, _, _, _, _]))) ra_nil) (by first | exact (rfl : _ = D.agg [_, _, _, _, _, _, _, _, _, _]) | exact rfl) (by exact rfl) sub_no ?_
  rfl


theorem innB (c : Bool) : innF (iBool (FloatKind.f64.nearest (if c then 1 else 0))) = fBool c := by
  cases c
  · rw [innF_bool, show FloatKind.f64.nearest (if false = true then 1 else 0) = 0 from by decide, fcmp_ne, fcmp_eq fx_zero fx_zero]; rfl
  · rw [innF_bool, show FloatKind.f64.nearest (if true = true then 1 else 0) = 4607182418800017408 from by decide, fcmp_ne, fcmp_eq fx_one fx_zero, decide_eq_false (by have := unit_pos; omega)]; rfl
theorem one_one : fcmp .eql .f64 4607182418800017408 4607182418800017408 = true := by rw [fcmp_eq fx_one fx_one]; simp
theorem zero_one : fcmp .eql .f64 0 4607182418800017408 = false := by rw [fcmp_eq fx_zero fx_one]; exact decide_eq_false (by have := unit_pos; omega)


-- (*pub-tallysheet/pub/excelize.formulaFuncs).IF
theorem pf_IFTN {b : Nat} {x : Int} {f0 g : F} (h : Heap) (kf k : Nat) (es : List (Nat × D)) (H : IsList h k es) (hes : es.map (·.2) = [.ifc 65 (f0).d, .ifc 65 (fNum b).d, .ifc 65 (g).d]) (h0 : f0 = fBool true) (hb : Fx b x) : ACall Tryz.prog G 44 true [.hp kf 0, .hp k 0] h (fun ret _ => ret = (fNum (clean b)).d) := by
  obtain ⟨e0, e1, e2, rfl⟩ := el3 hes
  subst h0
  refine ACall.intro rfl Tryz.func44 rfl (Nat.le_of_ble_eq_true rfl) rfl ?_
  refine w_seq (w_reg (s_s rfl rfl (as_alloc0 (id := 0) rfl rfl (by exact (rfl : _ = [_, _, _, _, _, _, _, _, _, _]))) ?_))
  refine s_nil (n_n (w_seq (w_seq (w_reg (s_q rfl rfl (q_mv (.inl rfl) (by first | exact is_box rfl | exact is_hp rfl | exact is_pin rfl | exact is_sc rfl | exact rfl)) ?_)))))
  refine s_o rfl rfl (ao_callH rfl rfl rfl rfl (pf_Len _ k _ H) fun vln Hvln hvln => ?_)
  obtain ⟨rfl, rfl⟩ := hvln
  refine s_q rfl rfl (q_eql rfl rfl rfl) ?_
  refine s_nil (n_n (w_ifF rfl (w_skip (n_n (w_seq (w_seq (w_reg (s_q rfl rfl (q_mv (.inl rfl) (by first | exact is_box rfl | exact is_hp rfl | exact is_pin rfl | exact is_sc rfl | exact rfl)) ?_))))))))
  refine s_o rfl rfl (ao_callH rfl rfl rfl rfl (pf_Len _ k _ H) fun vln Hvln hvln => ?_)
  obtain ⟨rfl, rfl⟩ := hvln
  refine s_q rfl rfl (q_gtr rfl rfl rfl) ?_
  refine s_nil (n_n (w_ifF rfl (w_skip (n_n (w_seq (w_reg (s_q rfl rfl (q_mv (.inl rfl) (by first | exact is_box rfl | exact is_hp rfl | exact is_pin rfl | exact is_sc rfl | exact rfl)) ?_)))))))
  refine s_q rfl rfl (q_mv (.inl rfl) (by first | exact is_box rfl | exact is_hp rfl | exact is_pin rfl | exact is_sc rfl | exact rfl)) ?_
  refine s_o rfl rfl (ao_callH rfl rfl rfl rfl (pf_Front _ k _ H (by simp) (by simp)) fun vfr Hvfr hvfr => ?_)
  obtain ⟨e_, rfl⟩ := hvfr
  replace e_ : vfr = D.hp e0 0 := e_
  subst e_
  refine s_q rfl rfl (q_nil rfl rfl rfl) ?_
  refine s_q rfl rfl (q_field rfl rfl (by exact rfl)) ?_
  refine s_q rfl rfl (q_loadH rfl rfl (d := .ifc 65 (fBool true).d) (by exact H.val (e0, .ifc 65 (fBool true).d) (by simp))) ?_
  refine s_q rfl rfl (q_asr rfl rfl) ?_
  refine s_q rfl rfl (q_call rfl rfl rfl rfl (pf_impl kf (fBool true) (by cases h : (true : Bool) <;> decide))) ?_
  refine s_s rfl rfl (as_alloc0 (id := 1) rfl rfl (by exact (rfl : _ = [_, _, _, _, _, _, _, _, _, _]))) ?_
  refine s_u rfl rfl (as_st rfl rfl (by first | exact (rfl : _ = D.agg [_, _, _, _, _, _, _, _, _, _]) | exact rfl) rfl (by exact rfl) (by exact rfl) (by exact Nat.le_of_ble_eq_true rfl) (by exact (rfl : _ = [_, _, _, _, _, _, _, _, _, _]))) ?_
  refine s_nil (n_n (w_seq (w_reg (s_q rfl rfl (q_mv (.inr rfl) (is_sc rfl)) ?_))))
  refine s_nil (n_n (w_seq (w_reg (s_q rfl rfl (q_mv (.inr rfl) (by first | exact is_ifc rfl | exact is_sc rfl | exact rfl)) ?_))))
  refine s_nil (n_n (w_seq (w_reg (s_s rfl rfl (as_alloc0 (id := 2) rfl rfl (by exact (rfl : _ = [_, _, _, _, _, _, _, _, _, _]))) ?_))))
  refine s_nil (n_n (w_seq (w_seq (w_reg (s_q rfl rfl (q_field rfl rfl (by exact rfl)) ?_)))))
  refine s_q rfl rfl (q_load rfl rfl (by exact (rfl : _ = some (D.sc _)))) ?_
  refine s_nil (n_n (w_block (w_seq (w_reg (s_q rfl rfl (q_eql rfl rfl rfl) ?_)))))
  refine s_q rfl rfl (q_mv (.inr rfl) (is_sc rfl)) ?_
  refine s_nil (n_n (w_ifF rfl (w_seq (w_reg (s_q rfl rfl (q_eql rfl rfl rfl) ?_)))))
  refine s_q rfl rfl (q_mv (.inr rfl) (is_sc rfl)) ?_
  refine s_nil (n_n (w_ifF rfl (w_seq (w_reg (s_q rfl rfl (q_eql rfl rfl rfl) ?_)))))
  refine s_q rfl rfl (q_mv (.inr rfl) (is_sc rfl)) ?_
  refine s_nil (n_n (w_ifT rfl (w_reg (s_q rfl rfl (q_field rfl rfl (by exact rfl)) ?_))))
  refine s_q rfl rfl (q_load rfl rfl (by exact (rfl : _ = some (D.sc _)))) ?_
  refine s_q rfl rfl (q_fcmpV rfl rfl rfl rfl one_one) ?_
  refine s_q rfl rfl (q_mv (.inr rfl) (is_sc rfl)) ?_
  refine s_nil (b_n (n_n (w_seq (w_seq (w_reg (s_q rfl rfl (q_mv (.inl rfl) (by first | exact is_box rfl | exact is_hp rfl | exact is_pin rfl | exact is_sc rfl | exact rfl)) ?_))))))
  refine s_o rfl rfl (ao_callH rfl rfl rfl rfl (pf_Len _ k _ H) fun vln Hvln hvln => ?_)
  obtain ⟨rfl, rfl⟩ := hvln
  refine s_q rfl rfl (q_eql rfl rfl rfl) ?_
  refine s_nil (n_n (w_ifF rfl (w_skip (n_n (w_seq (w_seq (w_reg (s_q rfl rfl (q_mv (.inl rfl) (is_sc rfl)) ?_))))))))
  refine s_nil (n_n (w_ifT rfl (w_seq (w_reg (s_q rfl rfl (q_mv (.inl rfl) (by first | exact is_box rfl | exact is_hp rfl | exact is_pin rfl | exact is_sc rfl | exact rfl)) ?_)))))
  refine s_q rfl rfl (q_mv (.inl rfl) (by first | exact is_box rfl | exact is_hp rfl | exact is_pin rfl | exact is_sc rfl | exact rfl)) ?_
  refine s_o rfl rfl (ao_callH rfl rfl rfl rfl (pf_Front _ k _ H (by simp) (by simp)) fun vfr Hvfr hvfr => ?_)
  obtain ⟨e_, rfl⟩ := hvfr
  replace e_ : vfr = D.hp e0 0 := e_
  subst e_
  refine s_o rfl rfl (ao_callH rfl rfl rfl rfl (pf_NextA _ k _ H 0 (by simp) (by simp)) fun vn1 Hvn1 hvn1 => ?_)
  obtain ⟨e_, rfl⟩ := hvn1
  replace e_ : vn1 = D.hp e1 0 := e_
  subst e_
  refine s_q rfl rfl (q_nil rfl rfl rfl) ?_
  refine s_q rfl rfl (q_field rfl rfl (by exact rfl)) ?_
  refine s_q rfl rfl (q_loadH rfl rfl (d := .ifc 65 (fNum b).d) (by exact H.val (e1, .ifc 65 (fNum b).d) (by simp))) ?_
  refine s_q rfl rfl (q_asr rfl rfl) ?_
  refine s_q rfl rfl (q_call rfl rfl rfl rfl (pf_impl kf (fNum b) (by simp [fNum, fStr]))) ?_
  refine s_s rfl rfl (as_alloc0 (id := 3) rfl rfl (by exact (rfl : _ = [_, _, _, _, _, _, _, _, _, _]))) ?_
  refine s_u rfl rfl (as_st rfl rfl (by first | exact (rfl : _ = D.agg [_, _, _, _, _, _, _, _, _, _]) | exact rfl) rfl (by exact rfl) (by exact rfl) (by exact Nat.le_of_ble_eq_true rfl) (by exact (rfl : _ = [_, _, _, _, _, _, _, _, _, _]))) ?_
  refine s_nil (n_n (w_seq (w_seq (w_reg (s_q rfl rfl (q_field rfl rfl (by exact rfl)) ?_)))))
  refine s_q rfl rfl (q_load rfl rfl (by exact (rfl : _ = some (D.sc _)))) ?_
  refine s_nil (n_n (w_block (w_seq (w_reg (s_q rfl rfl (q_eql rfl rfl rfl) ?_)))))
  refine s_q rfl rfl (q_mv (.inr rfl) (is_sc rfl)) ?_
  refine s_nil (n_n (w_ifT rfl (w_reg (s_q rfl rfl (q_load rfl rfl (by exact (rfl : _ = some (D.agg [_, _, _, _, _, _, _, _, _, _])))) ?_))))
  refine s_q rfl rfl (q_call rfl rfl rfl rfl (pf_toNumN _ _ hb)) ?_
  refine s_u rfl rfl (as_st rfl rfl (by first | exact (rfl : _ = D.agg [_, _, _, _, _, _, _, _, _, _]) | exact rfl) rfl (by exact rfl) (by exact rfl) (by exact Nat.le_of_ble_eq_true rfl) (by exact (rfl : _ = [_, _, _, _, _, _, _, _, _, _]))) ?_
  refine s_nil (b_n (n_n (w_seq (w_reg (s_q rfl rfl (q_load rfl rfl (by exact (rfl : _ = some (D.agg [_, _, _, _, _, _, _, _, _, _])))) ?_)))))
  refine s_u rfl rfl (as_st rfl rfl (by first | exact (rfl : _ = D.agg [_, _, _, _, _, _, _, _, _, _]) | exact rfl) rfl (by exact rfl) (by exact rfl) (by exact Nat.le_of_ble_eq_true rfl) (by exact (rfl : _ = [_, _, _, _, _, _, _, _, _, _]))) ?_
  refine s_nil (n_n (w_ret (n_r ?_)))
  -- end 0
  refine r_r (ra_cell (by exact (rfl : _ = some (D.agg [_, _, _, _, _, _, _, _, _, _]))) ra_nil) (by first | exact (rfl : _ = D.agg [_, _, _, _, _, _, _, _, _, _]) | exact rfl) (by exact rfl) (Sub.refl _) ?_
  rfl


-- pub-tallysheet/pub/excelize.DoorIF
theorem pf_DoorIFTN (b : Nat) (x : Int) (hb : Fx b x) (iv : IV) (hr : iv.rows = []) (hg : PF Tryz.prog G 64 [iv.d] (innF iv).d) : PF Tryz.prog G 30 [ilst [iBool (FloatKind.f64.nearest (if true then 1 else 0)), iNum b, iv]] (iNum (clean (clean b))).d := by
  refine PC.intro rfl Tryz.func30 rfl (Nat.le_of_ble_eq_true rfl) rfl ?_
  refine w_seq (w_reg (s_s rfl rfl (as_alloc0 (id := 0) rfl rfl (by exact (rfl : _ = [_, _, _, _]))) ?_))
  refine s_nil (n_n (w_seq (w_reg (s_o rfl rfl (ao_callH rfl rfl rfl rfl (pf_doorFuncs _) fun v3 Hv3 hv3 => ?_)))))
  obtain ⟨kf, rfl⟩ := hv3
  refine s_q rfl rfl (q_mv (.inl rfl) (by first | exact is_im rfl | exact is_gs rfl | exact is_lit rfl | exact is_ms rfl | exact is_sc rfl | exact rfl)) ?_
  refine s_o rfl rfl (ao_callH rfl rfl rfl rfl (pf_innerList _ [iBool (FloatKind.f64.nearest (if true then 1 else 0)), iNum b, iv] (by simp only [List.length_cons, List.length_nil]; omega) innF (fun v hv => by
    simp only [List.mem_cons, List.mem_nil_iff, or_false] at hv
    rcases hv with rfl | rfl | rfl
    · exact pf_innerB _
    · exact pf_innerN b _ hb
    · exact hg)) fun v5 Hv5 hv5 => ?_)
  obtain ⟨kl, es, rfl, hL, hes⟩ := hv5
  refine s_o rfl rfl (ao_callH rfl rfl rfl rfl (pf_IFTN _ kf kl es hL hes (innB true) (fx_clean hb)) fun v6 Hv6 hv6 => ?_)
  obtain rfl := hv6
  refine s_q rfl rfl (q_call rfl rfl rfl rfl (pf_doorN _)) ?_
  refine s_u rfl rfl (as_st rfl rfl (by first | exact (rfl : _ = D.agg [_, _, _, _]) | exact rfl) rfl (by exact rfl) (by exact rfl) (by exact Nat.le_of_ble_eq_true rfl) (by exact (rfl : _ = [_, _, _, _]))) ?_
  refine s_nil (n_n (w_ret ?_))
  -- end 0
  refine r_r (ra_cell (by exact (rfl : _ = some (D.agg [_, _, _, _]))) ra_nil) (by first | exact (rfl : _ = D.agg [_, _, _, _]) | exact rfl) (by exact rfl) sub_no ?_
  rfl


-- pub-tallysheet/impl.IF
theorem pf_ImplIFTN (b : Nat) (x : Int) (hb : Fx b x) (iv : IV) (hr : iv.rows = []) (hg : PF Tryz.prog G 64 [iv.d] (innF iv).d) : PF Tryz.prog G 15 [ilst [iBool (FloatKind.f64.nearest (if true then 1 else 0)), iNum b, iv]] (iNum (clean (clean b))).d := by
  refine PC.intro rfl Tryz.func15 rfl (Nat.le_of_ble_eq_true rfl) rfl ?_
  refine w_seq (w_reg (s_s rfl rfl (as_alloc0 (id := 0) rfl rfl (by exact (rfl : _ = [_, _, _, _]))) ?_))
  refine s_nil (n_n (w_seq (w_reg (s_q rfl rfl (q_mv (.inl rfl) (by first | exact is_im rfl | exact is_gs rfl | exact is_lit rfl | exact is_ms rfl | exact is_sc rfl | exact rfl)) ?_))))
  refine s_q rfl rfl (q_call rfl rfl rfl rfl (pf_in [iBool (FloatKind.f64.nearest (if true then 1 else 0)), iNum b, iv] (by simp only [List.length_cons, List.length_nil]; omega) (by intro v hv; simp only [List.mem_cons, List.mem_nil_iff, or_false] at hv; rcases hv with rfl | rfl | rfl <;> first | rfl | assumption))) ?_
  refine s_q rfl rfl (q_call rfl rfl rfl rfl (pf_DoorIFTN b x hb iv hr hg)) ?_
  refine s_q rfl rfl (q_call rfl rfl rfl rfl (pf_out _ _ _)) ?_
  refine s_u rfl rfl (as_st rfl rfl (by first | exact (rfl : _ = D.agg [_, _, _, _]) | exact rfl) rfl (by exact rfl) (by exact rfl) (by exact Nat.le_of_ble_eq_true rfl) (by exact (rfl : _ = [_, _, _, _]))) ?_
  refine s_nil (n_n (w_ret ?_))
  -- end 0
  refine r_r (ra_cell (by exact (rfl : _ = some (D.agg [_, _, _, _]))) ra_nil) (by first | exact (rfl : _ = D.agg [_, _, _, _]) | exact rfl) (by exact rfl) sub_no ?_
  rfl


-- (*pub-tallysheet/pub/excelize.formulaFuncs).IF
theorem pf_IFTS {s : List UInt8} {f0 g : F} (h : Heap) (kf k : Nat) (es : List (Nat × D)) (H : IsList h k es) (hes : es.map (·.2) = [.ifc 65 (f0).d, .ifc 65 (fStr s).d, .ifc 65 (g).d]) (h0 : f0 = fBool true) : ACall Tryz.prog G 44 true [.hp kf 0, .hp k 0] h (fun ret _ => ret = (fStr s).d) := by
  obtain ⟨e0, e1, e2, rfl⟩ := el3 hes
  subst h0
  refine ACall.intro rfl Tryz.func44 rfl (Nat.le_of_ble_eq_true rfl) rfl ?_
  refine w_seq (w_reg (s_s rfl rfl (as_alloc0 (id := 0) rfl rfl (by exact (rfl : _ = [_, _, _, _, _, _, _, _, _, _]))) ?_))
  refine s_nil (n_n (w_seq (w_seq (w_reg (s_q rfl rfl (q_mv (.inl rfl) (by first | exact is_box rfl | exact is_hp rfl | exact is_pin rfl | exact is_sc rfl | exact rfl)) ?_)))))
  refine s_o rfl rfl (ao_callH rfl rfl rfl rfl (pf_Len _ k _ H) fun vln Hvln hvln => ?_)
  obtain ⟨rfl, rfl⟩ := hvln
  refine s_q rfl rfl (q_eql rfl rfl rfl) ?_
  refine s_nil (n_n (w_ifF rfl (w_skip (n_n (w_seq (w_seq (w_reg (s_q rfl rfl (q_mv (.inl rfl) (by first | exact is_box rfl | exact is_hp rfl | exact is_pin rfl | exact is_sc rfl | exact rfl)) ?_))))))))
  refine s_o rfl rfl (ao_callH rfl rfl rfl rfl (pf_Len _ k _ H) fun vln Hvln hvln => ?_)
  obtain ⟨rfl, rfl⟩ := hvln
  refine s_q rfl rfl (q_gtr rfl rfl rfl) ?_
  refine s_nil (n_n (w_ifF rfl (w_skip (n_n (w_seq (w_reg (s_q rfl rfl (q_mv (.inl rfl) (by first | exact is_box rfl | exact is_hp rfl | exact is_pin rfl | exact is_sc rfl | exact rfl)) ?_)))))))
  refine s_q rfl rfl (q_mv (.inl rfl) (by first | exact is_box rfl | exact is_hp rfl | exact is_pin rfl | exact is_sc rfl | exact rfl)) ?_
  refine s_o rfl rfl (ao_callH rfl rfl rfl rfl (pf_Front _ k _ H (by simp) (by simp)) fun vfr Hvfr hvfr => ?_)
  obtain ⟨e_, rfl⟩ := hvfr
  replace e_ : vfr = D.hp e0 0 := e_
  subst e_
  refine s_q rfl rfl (q_nil rfl rfl rfl) ?_
  refine s_q rfl rfl (q_field rfl rfl (by exact rfl)) ?_
  refine s_q rfl rfl (q_loadH rfl rfl (d := .ifc 65 (fBool true).d) (by exact H.val (e0, .ifc 65 (fBool true).d) (by simp))) ?_
  refine s_q rfl rfl (q_asr rfl rfl) ?_
  refine s_q rfl rfl (q_call rfl rfl rfl rfl (pf_impl kf (fBool true) (by cases h : (true : Bool) <;> decide))) ?_
  refine s_s rfl rfl (as_alloc0 (id := 1) rfl rfl (by exact (rfl : _ = [_, _, _, _, _, _, _, _, _, _]))) ?_
  refine s_u rfl rfl (as_st rfl rfl (by first | exact (rfl : _ = D.agg [_, _, _, _, _, _, _, _, _, _]) | exact rfl) rfl (by exact rfl) (by exact rfl) (by exact Nat.le_of_ble_eq_true rfl) (by exact (rfl : _ = [_, _, _, _, _, _, _, _, _, _]))) ?_
  refine s_nil (n_n (w_seq (w_reg (s_q rfl rfl (q_mv (.inr rfl) (is_sc rfl)) ?_))))
  refine s_nil (n_n (w_seq (w_reg (s_q rfl rfl (q_mv (.inr rfl) (by first | exact is_ifc rfl | exact is_sc rfl | exact rfl)) ?_))))
  refine s_nil (n_n (w_seq (w_reg (s_s rfl rfl (as_alloc0 (id := 2) rfl rfl (by exact (rfl : _ = [_, _, _, _, _, _, _, _, _, _]))) ?_))))
  refine s_nil (n_n (w_seq (w_seq (w_reg (s_q rfl rfl (q_field rfl rfl (by exact rfl)) ?_)))))
  refine s_q rfl rfl (q_load rfl rfl (by exact (rfl : _ = some (D.sc _)))) ?_
  refine s_nil (n_n (w_block (w_seq (w_reg (s_q rfl rfl (q_eql rfl rfl rfl) ?_)))))
  refine s_q rfl rfl (q_mv (.inr rfl) (is_sc rfl)) ?_
  refine s_nil (n_n (w_ifF rfl (w_seq (w_reg (s_q rfl rfl (q_eql rfl rfl rfl) ?_)))))
  refine s_q rfl rfl (q_mv (.inr rfl) (is_sc rfl)) ?_
  refine s_nil (n_n (w_ifF rfl (w_seq (w_reg (s_q rfl rfl (q_eql rfl rfl rfl) ?_)))))
  refine s_q rfl rfl (q_mv (.inr rfl) (is_sc rfl)) ?_
  refine s_nil (n_n (w_ifT rfl (w_reg (s_q rfl rfl (q_field rfl rfl (by exact rfl)) ?_))))
  refine s_q rfl rfl (q_load rfl rfl (by exact (rfl : _ = some (D.sc _)))) ?_
  refine s_q rfl rfl (q_fcmpV rfl rfl rfl rfl one_one) ?_
  refine s_q rfl rfl (q_mv (.inr rfl) (is_sc rfl)) ?_
  refine s_nil (b_n (n_n (w_seq (w_seq (w_reg (s_q rfl rfl (q_mv (.inl rfl) (by first | exact is_box rfl | exact is_hp rfl | exact is_pin rfl | exact is_sc rfl | exact rfl)) ?_))))))
  refine s_o rfl rfl (ao_callH rfl rfl rfl rfl (pf_Len _ k _ H) fun vln Hvln hvln => ?_)
  obtain ⟨rfl, rfl⟩ := hvln
  refine s_q rfl rfl (q_eql rfl rfl rfl) ?_
  refine s_nil (n_n (w_ifF rfl (w_skip (n_n (w_seq (w_seq (w_reg (s_q rfl rfl (q_mv (.inl rfl) (is_sc rfl)) ?_))))))))
  refine s_nil (n_n (w_ifT rfl (w_seq (w_reg (s_q rfl rfl (q_mv (.inl rfl) (by first | exact is_box rfl | exact is_hp rfl | exact is_pin rfl | exact is_sc rfl | exact rfl)) ?_)))))
  refine s_q rfl rfl (q_mv (.inl rfl) (by first | exact is_box rfl | exact is_hp rfl | exact is_pin rfl | exact is_sc rfl | exact rfl)) ?_
  refine s_o rfl rfl (ao_callH rfl rfl rfl rfl (pf_Front _ k _ H (by simp) (by simp)) fun vfr Hvfr hvfr => ?_)
  obtain ⟨e_, rfl⟩ := hvfr
  replace e_ : vfr = D.hp e0 0 := e_
  subst e_
  refine s_o rfl rfl (ao_callH rfl rfl rfl rfl (pf_NextA _ k _ H 0 (by simp) (by simp)) fun vn1 Hvn1 hvn1 => ?_)
  obtain ⟨e_, rfl⟩ := hvn1
  replace e_ : vn1 = D.hp e1 0 := e_
  subst e_
  refine s_q rfl rfl (q_nil rfl rfl rfl) ?_
  refine s_q rfl rfl (q_field rfl rfl (by exact rfl)) ?_
  refine s_q rfl rfl (q_loadH rfl rfl (d := .ifc 65 (fStr s).d) (by exact H.val (e1, .ifc 65 (fStr s).d) (by simp))) ?_
  refine s_q rfl rfl (q_asr rfl rfl) ?_
  refine s_q rfl rfl (q_call rfl rfl rfl rfl (pf_impl kf (fStr s) (by simp [fNum, fStr]))) ?_
  refine s_s rfl rfl (as_alloc0 (id := 3) rfl rfl (by exact (rfl : _ = [_, _, _, _, _, _, _, _, _, _]))) ?_
  refine s_u rfl rfl (as_st rfl rfl (by first | exact (rfl : _ = D.agg [_, _, _, _, _, _, _, _, _, _]) | exact rfl) rfl (by exact rfl) (by exact rfl) (by exact Nat.le_of_ble_eq_true rfl) (by exact (rfl : _ = [_, _, _, _, _, _, _, _, _, _]))) ?_
  refine s_nil (n_n (w_seq (w_seq (w_reg (s_q rfl rfl (q_field rfl rfl (by exact rfl)) ?_)))))
  refine s_q rfl rfl (q_load rfl rfl (by exact (rfl : _ = some (D.sc _)))) ?_
  refine s_nil (n_n (w_block (w_seq (w_reg (s_q rfl rfl (q_eql rfl rfl rfl) ?_)))))
  refine s_q rfl rfl (q_mv (.inr rfl) (is_sc rfl)) ?_
  refine s_nil (n_n (w_ifF rfl (w_seq (w_reg (s_q rfl rfl (q_eql rfl rfl rfl) ?_)))))
  refine s_q rfl rfl (q_mv (.inr rfl) (is_sc rfl)) ?_
  refine s_nil (n_n (w_ifF rfl (w_reg (s_q rfl rfl (q_load rfl rfl (by exact (rfl : _ = some (D.agg [_, _, _, _, _, _, _, _, _, _])))) ?_))))
  refine s_q rfl rfl (q_call rfl rfl rfl rfl (pf_ValueS _)) ?_
  refine s_q rfl rfl (q_call rfl rfl rfl rfl (pf_newStr _)) ?_
  refine s_u rfl rfl (as_st rfl rfl (by first | exact (rfl : _ = D.agg [_, _, _, _, _, _, _, _, _, _]) | exact rfl) rfl (by exact rfl) (by exact rfl) (by exact Nat.le_of_ble_eq_true rfl) (by exact (rfl : _ = [_, _, _, _, _, _, _, _, _, _]))) ?_
  refine s_nil (b_n (n_n (w_seq (w_reg (s_q rfl rfl (q_load rfl rfl (by exact (rfl : _ = some (D.agg [_, _, _, _, _, _, _, _, _, _])))) ?_)))))
  refine s_u rfl rfl (as_st rfl rfl (by first | exact (rfl : _ = D.agg [_, _, _, _, _, _, _, _, _, _]) | exact rfl) rfl (by exact rfl) (by exact rfl) (by exact Nat.le_of_ble_eq_true rfl) (by exact (rfl : _ = [_, _, _, _, _, _, _, _, _, _]))) ?_
  refine s_nil (n_n (w_ret (n_r ?_)))
  -- end 0
  refine r_r (ra_cell (by exact (rfl : _ = some (D.agg [_, _, _, _, _, _, _, _, _, _]))) ra_nil) (by first | exact (rfl : _ = D.agg [_, _, _, _, _, _, _, _, _, _]) | exact rfl) (by exact rfl) (Sub.refl _) ?_
  rfl


-- pub-tallysheet/pub/excelize.DoorIF
theorem pf_DoorIFTS (s : List UInt8) (iv : IV) (hr : iv.rows = []) (hg : PF Tryz.prog G 64 [iv.d] (innF iv).d) : PF Tryz.prog G 30 [ilst [iBool (FloatKind.f64.nearest (if true then 1 else 0)), iStr s, iv]] (iStr s).d := by
  refine PC.intro rfl Tryz.func30 rfl (Nat.le_of_ble_eq_true rfl) rfl ?_
  refine w_seq (w_reg (s_s rfl rfl (as_alloc0 (id := 0) rfl rfl (by exact (rfl : _ = [_, _, _, _]))) ?_))
  refine s_nil (n_n (w_seq (w_reg (s_o rfl rfl (ao_callH rfl rfl rfl rfl (pf_doorFuncs _) fun v3 Hv3 hv3 => ?_)))))
  obtain ⟨kf, rfl⟩ := hv3
  refine s_q rfl rfl (q_mv (.inl rfl) (by first | exact is_im rfl | exact is_gs rfl | exact is_lit rfl | exact is_ms rfl | exact is_sc rfl | exact rfl)) ?_
  refine s_o rfl rfl (ao_callH rfl rfl rfl rfl (pf_innerList _ [iBool (FloatKind.f64.nearest (if true then 1 else 0)), iStr s, iv] (by simp only [List.length_cons, List.length_nil]; omega) innF (fun v hv => by
    simp only [List.mem_cons, List.mem_nil_iff, or_false] at hv
    rcases hv with rfl | rfl | rfl
    · exact pf_innerB _
    · exact pf_innerS s
    · exact hg)) fun v5 Hv5 hv5 => ?_)
  obtain ⟨kl, es, rfl, hL, hes⟩ := hv5
  refine s_o rfl rfl (ao_callH rfl rfl rfl rfl (pf_IFTS _ kf kl es hL hes (innB true)) fun v6 Hv6 hv6 => ?_)
  obtain rfl := hv6
  refine s_q rfl rfl (q_call rfl rfl rfl rfl (pf_doorS _)) ?_
  refine s_u rfl rfl (as_st rfl rfl (by first | exact (rfl : _ = D.agg [_, _, _, _]) | exact rfl) rfl (by exact rfl) (by exact rfl) (by exact Nat.le_of_ble_eq_true rfl) (by exact (rfl : _ = [_, _, _, _]))) ?_
  refine s_nil (n_n (w_ret ?_))
  -- end 0
  refine r_r (ra_cell (by exact (rfl : _ = some (D.agg [_, _, _, _]))) ra_nil) (by first | exact (rfl : _ = D.agg [_, _, _, _]) | exact rfl) (by exact rfl) sub_no ?_
  rfl


-- pub-tallysheet/impl.IF
theorem pf_ImplIFTS (s : List UInt8) (iv : IV) (hr : iv.rows = []) (hg : PF Tryz.prog G 64 [iv.d] (innF iv).d) : PF Tryz.prog G 15 [ilst [iBool (FloatKind.f64.nearest (if true then 1 else 0)), iStr s, iv]] (iStr s).d := by
  refine PC.intro rfl Tryz.func15 rfl (Nat.le_of_ble_eq_true rfl) rfl ?_
  refine w_seq (w_reg (s_s rfl rfl (as_alloc0 (id := 0) rfl rfl (by exact (rfl : _ = [_, _, _, _]))) ?_))
  refine s_nil (n_n (w_seq (w_reg (s_q rfl rfl (q_mv (.inl rfl) (by first | exact is_im rfl | exact is_gs rfl | exact is_lit rfl | exact is_ms rfl | exact is_sc rfl | exact rfl)) ?_))))
  refine s_q rfl rfl (q_call rfl rfl rfl rfl (pf_in [iBool (FloatKind.f64.nearest (if true then 1 else 0)), iStr s, iv] (by simp only [List.length_cons, List.length_nil]; omega) (by intro v hv; simp only [List.mem_cons, List.mem_nil_iff, or_false] at hv; rcases hv with rfl | rfl | rfl <;> first | rfl | assumption))) ?_
  refine s_q rfl rfl (q_call rfl rfl rfl rfl (pf_DoorIFTS s iv hr hg)) ?_
  refine s_q rfl rfl (q_call rfl rfl rfl rfl (pf_out _ _ _)) ?_
  refine s_u rfl rfl (as_st rfl rfl (by first | exact (rfl : _ = D.agg [_, _, _, _]) | exact rfl) rfl (by exact rfl) (by exact rfl) (by exact Nat.le_of_ble_eq_true rfl) (by exact (rfl : _ = [_, _, _, _]))) ?_
  refine s_nil (n_n (w_ret ?_))
  -- end 0
  refine r_r (ra_cell (by exact (rfl : _ = some (D.agg [_, _, _, _]))) ra_nil) (by first | exact (rfl : _ = D.agg [_, _, _, _]) | exact rfl) (by exact rfl) sub_no ?_
  rfl


-- (*pub-tallysheet/pub/excelize.formulaFuncs).IF
theorem pf_IFFN {b : Nat} {x : Int} {f0 g : F} (h : Heap) (kf k : Nat) (es : List (Nat × D)) (H : IsList h k es) (hes : es.map (·.2) = [.ifc 65 (f0).d, .ifc 65 (g).d, .ifc 65 (fNum b).d]) (h0 : f0 = fBool false) (hb : Fx b x) : ACall Tryz.prog G 44 true [.hp kf 0, .hp k 0] h (fun ret _ => ret = (fNum (clean b)).d) := by
  obtain ⟨e0, e1, e2, rfl⟩ := el3 hes
  subst h0
  refine ACall.intro rfl Tryz.func44 rfl (Nat.le_of_ble_eq_true rfl) rfl ?_
  refine w_seq (w_reg (s_s rfl rfl (as_alloc0 (id := 0) rfl rfl (by exact (rfl : _ = [_, _, _, _, _, _, _, _, _, _]))) ?_))
  refine s_nil (n_n (w_seq (w_seq (w_reg (s_q rfl rfl (q_mv (.inl rfl) (by first | exact is_box rfl | exact is_hp rfl | exact is_pin rfl | exact is_sc rfl | exact rfl)) ?_)))))
  refine s_o rfl rfl (ao_callH rfl rfl rfl rfl (pf_Len _ k _ H) fun vln Hvln hvln => ?_)
  obtain ⟨rfl, rfl⟩ := hvln
  refine s_q rfl rfl (q_eql rfl rfl rfl) ?_
  refine s_nil (n_n (w_ifF rfl (w_skip (n_n (w_seq (w_seq (w_reg (s_q rfl rfl (q_mv (.inl rfl) (by first | exact is_box rfl | exact is_hp rfl | exact is_pin rfl | exact is_sc rfl | exact rfl)) ?_))))))))
  refine s_o rfl rfl (ao_callH rfl rfl rfl rfl (pf_Len _ k _ H) fun vln Hvln hvln => ?_)
  obtain ⟨rfl, rfl⟩ := hvln
  refine s_q rfl rfl (q_gtr rfl rfl rfl) ?_
  refine s_nil (n_n (w_ifF rfl (w_skip (n_n (w_seq (w_reg (s_q rfl rfl (q_mv (.inl rfl) (by first | exact is_box rfl | exact is_hp rfl | exact is_pin rfl | exact is_sc rfl | exact rfl)) ?_)))))))
  refine s_q rfl rfl (q_mv (.inl rfl) (by first | exact is_box rfl | exact is_hp rfl | exact is_pin rfl | exact is_sc rfl | exact rfl)) ?_
  refine s_o rfl rfl (ao_callH rfl rfl rfl rfl (pf_Front _ k _ H (by simp) (by simp)) fun vfr Hvfr hvfr => ?_)
  obtain ⟨e_, rfl⟩ := hvfr
  replace e_ : vfr = D.hp e0 0 := e_
  subst e_
  refine s_q rfl rfl (q_nil rfl rfl rfl) ?_
  refine s_q rfl rfl (q_field rfl rfl (by exact rfl)) ?_
  refine s_q rfl rfl (q_loadH rfl rfl (d := .ifc 65 (fBool false).d) (by exact H.val (e0, .ifc 65 (fBool false).d) (by simp))) ?_
  refine s_q rfl rfl (q_asr rfl rfl) ?_
  refine s_q rfl rfl (q_call rfl rfl rfl rfl (pf_impl kf (fBool false) (by cases h : (false : Bool) <;> decide))) ?_
  refine s_s rfl rfl (as_alloc0 (id := 1) rfl rfl (by exact (rfl : _ = [_, _, _, _, _, _, _, _, _, _]))) ?_
  refine s_u rfl rfl (as_st rfl rfl (by first | exact (rfl : _ = D.agg [_, _, _, _, _, _, _, _, _, _]) | exact rfl) rfl (by exact rfl) (by exact rfl) (by exact Nat.le_of_ble_eq_true rfl) (by exact (rfl : _ = [_, _, _, _, _, _, _, _, _, _]))) ?_
  refine s_nil (n_n (w_seq (w_reg (s_q rfl rfl (q_mv (.inr rfl) (is_sc rfl)) ?_))))
  refine s_nil (n_n (w_seq (w_reg (s_q rfl rfl (q_mv (.inr rfl) (by first | exact is_ifc rfl | exact is_sc rfl | exact rfl)) ?_))))
  refine s_nil (n_n (w_seq (w_reg (s_s rfl rfl (as_alloc0 (id := 2) rfl rfl (by exact (rfl : _ = [_, _, _, _, _, _, _, _, _, _]))) ?_))))
  refine s_nil (n_n (w_seq (w_seq (w_reg (s_q rfl rfl (q_field rfl rfl (by exact rfl)) ?_)))))
  refine s_q rfl rfl (q_load rfl rfl (by exact (rfl : _ = some (D.sc _)))) ?_
  refine s_nil (n_n (w_block (w_seq (w_reg (s_q rfl rfl (q_eql rfl rfl rfl) ?_)))))
  refine s_q rfl rfl (q_mv (.inr rfl) (is_sc rfl)) ?_
  refine s_nil (n_n (w_ifF rfl (w_seq (w_reg (s_q rfl rfl (q_eql rfl rfl rfl) ?_)))))
  refine s_q rfl rfl (q_mv (.inr rfl) (is_sc rfl)) ?_
  refine s_nil (n_n (w_ifF rfl (w_seq (w_reg (s_q rfl rfl (q_eql rfl rfl rfl) ?_)))))
  refine s_q rfl rfl (q_mv (.inr rfl) (is_sc rfl)) ?_
  refine s_nil (n_n (w_ifT rfl (w_reg (s_q rfl rfl (q_field rfl rfl (by exact rfl)) ?_))))
  refine s_q rfl rfl (q_load rfl rfl (by exact (rfl : _ = some (D.sc _)))) ?_
  refine s_q rfl rfl (q_fcmpV rfl rfl rfl rfl zero_one) ?_
  refine s_q rfl rfl (q_mv (.inr rfl) (is_sc rfl)) ?_
  refine s_nil (b_n (n_n (w_seq (w_seq (w_reg (s_q rfl rfl (q_mv (.inl rfl) (by first | exact is_box rfl | exact is_hp rfl | exact is_pin rfl | exact is_sc rfl | exact rfl)) ?_))))))
  refine s_o rfl rfl (ao_callH rfl rfl rfl rfl (pf_Len _ k _ H) fun vln Hvln hvln => ?_)
  obtain ⟨rfl, rfl⟩ := hvln
  refine s_q rfl rfl (q_eql rfl rfl rfl) ?_
  refine s_nil (n_n (w_ifF rfl (w_skip (n_n (w_seq (w_seq (w_reg (s_q rfl rfl (q_mv (.inl rfl) (is_sc rfl)) ?_))))))))
  refine s_nil (n_n (w_ifF rfl (w_skip (n_n (w_seq (w_seq (w_reg (s_q rfl rfl (q_mv (.inl rfl) (by first | exact is_box rfl | exact is_hp rfl | exact is_pin rfl | exact is_sc rfl | exact rfl)) ?_))))))))
  refine s_o rfl rfl (ao_callH rfl rfl rfl rfl (pf_Len _ k _ H) fun vln Hvln hvln => ?_)
  obtain ⟨rfl, rfl⟩ := hvln
  refine s_q rfl rfl (q_eql rfl rfl rfl) ?_
  refine s_nil (n_n (w_ifT rfl (w_seq (w_reg (s_q rfl rfl (q_mv (.inl rfl) (by first | exact is_box rfl | exact is_hp rfl | exact is_pin rfl | exact is_sc rfl | exact rfl)) ?_)))))
  refine s_q rfl rfl (q_mv (.inl rfl) (by first | exact is_box rfl | exact is_hp rfl | exact is_pin rfl | exact is_sc rfl | exact rfl)) ?_
  refine s_o rfl rfl (ao_callH rfl rfl rfl rfl (pf_Back _ k _ H (by simp) (by simp)) fun vbk Hvbk hvbk => ?_)
  obtain ⟨e_, rfl⟩ := hvbk
  replace e_ : vbk = D.hp e2 0 := e_
  subst e_
  refine s_q rfl rfl (q_nil rfl rfl rfl) ?_
  refine s_q rfl rfl (q_field rfl rfl (by exact rfl)) ?_
  refine s_q rfl rfl (q_loadH rfl rfl (d := .ifc 65 (fNum b).d) (by exact H.val (e2, .ifc 65 (fNum b).d) (by simp))) ?_
  refine s_q rfl rfl (q_asr rfl rfl) ?_
  refine s_q rfl rfl (q_call rfl rfl rfl rfl (pf_impl kf (fNum b) (by simp [fNum, fStr]))) ?_
  refine s_s rfl rfl (as_alloc0 (id := 3) rfl rfl (by exact (rfl : _ = [_, _, _, _, _, _, _, _, _, _]))) ?_
  refine s_u rfl rfl (as_st rfl rfl (by first | exact (rfl : _ = D.agg [_, _, _, _, _, _, _, _, _, _]) | exact rfl) rfl (by exact rfl) (by exact rfl) (by exact Nat.le_of_ble_eq_true rfl) (by exact (rfl : _ = [_, _, _, _, _, _, _, _, _, _]))) ?_
  refine s_nil (n_n (w_seq (w_seq (w_reg (s_q rfl rfl (q_field rfl rfl (by exact rfl)) ?_)))))
  refine s_q rfl rfl (q_load rfl rfl (by exact (rfl : _ = some (D.sc _)))) ?_
  refine s_nil (n_n (w_block (w_seq (w_reg (s_q rfl rfl (q_eql rfl rfl rfl) ?_)))))
  refine s_q rfl rfl (q_mv (.inr rfl) (is_sc rfl)) ?_
  refine s_nil (n_n (w_ifT rfl (w_reg (s_q rfl rfl (q_load rfl rfl (by exact (rfl : _ = some (D.agg [_, _, _, _, _, _, _, _, _, _])))) ?_))))
  refine s_q rfl rfl (q_call rfl rfl rfl rfl (pf_toNumN _ _ hb)) ?_
  refine s_u rfl rfl (as_st rfl rfl (by first | exact (rfl : _ = D.agg [_, _, _, _, _, _, _, _, _, _]) | exact rfl) rfl (by exact rfl) (by exact rfl) (by exact Nat.le_of_ble_eq_true rfl) (by exact (rfl : _ = [_, _, _, _, _, _, _, _, _, _]))) ?_
  refine s_nil (b_n (n_n (w_seq (w_reg (s_q rfl rfl (q_load rfl rfl (by exact (rfl : _ = some (D.agg [_, _, _, _, _, _, _, _, _, _])))) ?_)))))
  refine s_u rfl rfl (as_st rfl rfl (by first | exact (rfl : _ = D.agg [_, _, _, _, _, _, _, _, _, _]) | exact rfl) rfl (by exact rfl) (by exact rfl) (by exact Nat.le_of_ble_eq_true rfl) (by exact (rfl : _ = [_, _, _, _, _, _, _, _, _, _]))) ?_
  refine s_nil (n_n (w_ret (n_r ?_)))
  -- end 0
  refine r_r (ra_cell (by exact (rfl : _ = some (D.agg [_, _, _, _, _, _, _, _, _, _]))) ra_nil) (by first | exact (rfl : _ = D.agg [_, _, _, _, _, _, _, _, _, _]) | exact rfl) (by exact rfl) (Sub.refl _) ?_
  rfl


-- pub-tallysheet/pub/excelize.DoorIF
theorem pf_DoorIFFN (b : Nat) (x : Int) (hb : Fx b x) (iv : IV) (hr : iv.rows = []) (hg : PF Tryz.prog G 64 [iv.d] (innF iv).d) : PF Tryz.prog G 30 [ilst [iBool (FloatKind.f64.nearest (if false then 1 else 0)), iv, iNum b]] (iNum (clean (clean b))).d := by
  refine PC.intro rfl Tryz.func30 rfl (Nat.le_of_ble_eq_true rfl) rfl ?_
  refine w_seq (w_reg (s_s rfl rfl (as_alloc0 (id := 0) rfl rfl (by exact (rfl : _ = [_, _, _, _]))) ?_))
  refine s_nil (n_n (w_seq (w_reg (s_o rfl rfl (ao_callH rfl rfl rfl rfl (pf_doorFuncs _) fun v3 Hv3 hv3 => ?_)))))
  obtain ⟨kf, rfl⟩ := hv3
  refine s_q rfl rfl (q_mv (.inl rfl) (by first | exact is_im rfl | exact is_gs rfl | exact is_lit rfl | exact is_ms rfl | exact is_sc rfl | exact rfl)) ?_
  refine s_o rfl rfl (ao_callH rfl rfl rfl rfl (pf_innerList _ [iBool (FloatKind.f64.nearest (if false then 1 else 0)), iv, iNum b] (by simp only [List.length_cons, List.length_nil]; omega) innF (fun v hv => by
    simp only [List.mem_cons, List.mem_nil_iff, or_false] at hv
    rcases hv with rfl | rfl | rfl
    · exact pf_innerB _
    · exact hg
    · exact pf_innerN b _ hb)) fun v5 Hv5 hv5 => ?_)
  obtain ⟨kl, es, rfl, hL, hes⟩ := hv5
  refine s_o rfl rfl (ao_callH rfl rfl rfl rfl (pf_IFFN _ kf kl es hL hes (innB false) (fx_clean hb)) fun v6 Hv6 hv6 => ?_)
  obtain rfl := hv6
  refine s_q rfl rfl (q_call rfl rfl rfl rfl (pf_doorN _)) ?_
  refine s_u rfl rfl (as_st rfl rfl (by first | exact (rfl : _ = D.agg [_, _, _, _]) | exact rfl) rfl (by exact rfl) (by exact rfl) (by exact Nat.le_of_ble_eq_true rfl) (by exact (rfl : _ = [_, _, _, _]))) ?_
  refine s_nil (n_n (w_ret ?_))
  -- end 0
  refine r_r (ra_cell (by exact (rfl : _ = some (D.agg [_, _, _, _]))) ra_nil) (by first | exact (rfl : _ = D.agg [_, _, _, _]) | exact rfl) (by exact rfl) sub_no ?_
  rfl


-- pub-tallysheet/impl.IF
theorem pf_ImplIFFN (b : Nat) (x : Int) (hb : Fx b x) (iv : IV) (hr : iv.rows = []) (hg : PF Tryz.prog G 64 [iv.d] (innF iv).d) : PF Tryz.prog G 15 [ilst [iBool (FloatKind.f64.nearest (if false then 1 else 0)), iv, iNum b]] (iNum (clean (clean b))).d := by
  refine PC.intro rfl Tryz.func15 rfl (Nat.le_of_ble_eq_true rfl) rfl ?_
  refine w_seq (w_reg (s_s rfl rfl (as_alloc0 (id := 0) rfl rfl (by exact (rfl : _ = [_, _, _, _]))) ?_))
  refine s_nil (n_n (w_seq (w_reg (s_q rfl rfl (q_mv (.inl rfl) (by first | exact is_im rfl | exact is_gs rfl | exact is_lit rfl | exact is_ms rfl | exact is_sc rfl | exact rfl)) ?_))))
  refine s_q rfl rfl (q_call rfl rfl rfl rfl (pf_in [iBool (FloatKind.f64.nearest (if false then 1 else 0)), iv, iNum b] (by simp only [List.length_cons, List.length_nil]; omega) (by intro v hv; simp only [List.mem_cons, List.mem_nil_iff, or_false] at hv; rcases hv with rfl | rfl | rfl <;> first | rfl | assumption))) ?_
  refine s_q rfl rfl (q_call rfl rfl rfl rfl (pf_DoorIFFN b x hb iv hr hg)) ?_
  refine s_q rfl rfl (q_call rfl rfl rfl rfl (pf_out _ _ _)) ?_
  refine s_u rfl rfl (as_st rfl rfl (by first | exact (rfl : _ = D.agg [_, _, _, _]) | exact rfl) rfl (by exact rfl) (by exact rfl) (by exact Nat.le_of_ble_eq_true rfl) (by exact (rfl : _ = [_, _, _, _]))) ?_
  refine s_nil (n_n (w_ret ?_))
  -- end 0
  refine r_r (ra_cell (by exact (rfl : _ = some (D.agg [_, _, _, _]))) ra_nil) (by first | exact (rfl : _ = D.agg [_, _, _, _]) | exact rfl) (by exact rfl) sub_no ?_
  rfl


-- (*pub-tallysheet/pub/excelize.formulaFuncs).IF
theorem pf_IFFS {s : List UInt8} {f0 g : F} (h : Heap) (kf k : Nat) (es : List (Nat × D)) (H : IsList h k es) (hes : es.map (·.2) = [.ifc 65 (f0).d, .ifc 65 (g).d, .ifc 65 (fStr s).d]) (h0 : f0 = fBool false) : ACall Tryz.prog G 44 true [.hp kf 0, .hp k 0] h (fun ret _ => ret = (fStr s).d) := by
  obtain ⟨e0, e1, e2, rfl⟩ := el3 hes
  subst h0
  refine ACall.intro rfl Tryz.func44 rfl (Nat.le_of_ble_eq_true rfl) rfl ?_
  refine w_seq (w_reg (s_s rfl rfl (as_alloc0 (id := 0) rfl rfl (by exact (rfl : _ = [_, _, _, _, _, _, _, _, _, _]))) ?_))
  refine s_nil (n_n (w_seq (w_seq (w_reg (s_q rfl rfl (q_mv (.inl rfl) (by first | exact is_box rfl | exact is_hp rfl | exact is_pin rfl | exact is_sc rfl | exact rfl)) ?_)))))
  refine s_o rfl rfl (ao_callH rfl rfl rfl rfl (pf_Len _ k _ H) fun vln Hvln hvln => ?_)
  obtain ⟨rfl, rfl⟩ := hvln
  refine s_q rfl rfl (q_eql rfl rfl rfl) ?_
  refine s_nil (n_n (w_ifF rfl (w_skip (n_n (w_seq (w_seq (w_reg (s_q rfl rfl (q_mv (.inl rfl) (by first | exact is_box rfl | exact is_hp rfl | exact is_pin rfl | exact is_sc rfl | exact rfl)) ?_))))))))
  refine s_o rfl rfl (ao_callH rfl rfl rfl rfl (pf_Len _ k _ H) fun vln Hvln hvln => ?_)
  obtain ⟨rfl, rfl⟩ := hvln
  refine s_q rfl rfl (q_gtr rfl rfl rfl) ?_
  refine s_nil (n_n (w_ifF rfl (w_skip (n_n (w_seq (w_reg (s_q rfl rfl (q_mv (.inl rfl) (by first | exact is_box rfl | exact is_hp rfl | exact is_pin rfl | exact is_sc rfl | exact rfl)) ?_)))))))
  refine s_q rfl rfl (q_mv (.inl rfl) (by first | exact is_box rfl | exact is_hp rfl | exact is_pin rfl | exact is_sc rfl | exact rfl)) ?_
  refine s_o rfl rfl (ao_callH rfl rfl rfl rfl (pf_Front _ k _ H (by simp) (by simp)) fun vfr Hvfr hvfr => ?_)
  obtain ⟨e_, rfl⟩ := hvfr
  replace e_ : vfr = D.hp e0 0 := e_
  subst e_
  refine s_q rfl rfl (q_nil rfl rfl rfl) ?_
  refine s_q rfl rfl (q_field rfl rfl (by exact rfl)) ?_
  refine s_q rfl rfl (q_loadH rfl rfl (d := .ifc 65 (fBool false).d) (by exact H.val (e0, .ifc 65 (fBool false).d) (by simp))) ?_
  refine s_q rfl rfl (q_asr rfl rfl) ?_
  refine s_q rfl rfl (q_call rfl rfl rfl rfl (pf_impl kf (fBool false) (by cases h : (false : Bool) <;> decide))) ?_
  refine s_s rfl rfl (as_alloc0 (id := 1) rfl rfl (by exact (rfl : _ = [_, _, _, _, _, _, _, _, _, _]))) ?_
  refine s_u rfl rfl (as_st rfl rfl (by first | exact (rfl : _ = D.agg [_, _, _, _, _, _, _, _, _, _]) | exact rfl) rfl (by exact rfl) (by exact rfl) (by exact Nat.le_of_ble_eq_true rfl) (by exact (rfl : _ = [_, _, _, _, _, _, _, _, _, _]))) ?_
  refine s_nil (n_n (w_seq (w_reg (s_q rfl rfl (q_mv (.inr rfl) (is_sc rfl)) ?_))))
  refine s_nil (n_n (w_seq (w_reg (s_q rfl rfl (q_mv (.inr rfl) (by first | exact is_ifc rfl | exact is_sc rfl | exact rfl)) ?_))))
  refine s_nil (n_n (w_seq (w_reg (s_s rfl rfl (as_alloc0 (id := 2) rfl rfl (by exact (rfl : _ = [_, _, _, _, _, _, _, _, _, _]))) ?_))))
  refine s_nil (n_n (w_seq (w_seq (w_reg (s_q rfl rfl (q_field rfl rfl (by exact rfl)) ?_)))))
  refine s_q rfl rfl (q_load rfl rfl (by exact (rfl : _ = some (D.sc _)))) ?_
  refine s_nil (n_n (w_block (w_seq (w_reg (s_q rfl rfl (q_eql rfl rfl rfl) ?_)))))
  refine s_q rfl rfl (q_mv (.inr rfl) (is_sc rfl)) ?_
  refine s_nil (n_n (w_ifF rfl (w_seq (w_reg (s_q rfl rfl (q_eql rfl rfl rfl) ?_)))))
  refine s_q rfl rfl (q_mv (.inr rfl) (is_sc rfl)) ?_
  refine s_nil (n_n (w_ifF rfl (w_seq (w_reg (s_q rfl rfl (q_eql rfl rfl rfl) ?_)))))
  refine s_q rfl rfl (q_mv (.inr rfl) (is_sc rfl)) ?_
  refine s_nil (n_n (w_ifT rfl (w_reg (s_q rfl rfl (q_field rfl rfl (by exact rfl)) ?_))))
  refine s_q rfl rfl (q_load rfl rfl (by exact (rfl : _ = some (D.sc _)))) ?_
  refine s_q rfl rfl (q_fcmpV rfl rfl rfl rfl zero_one) ?_
  refine s_q rfl rfl (q_mv (.inr rfl) (is_sc rfl)) ?_
  refine s_nil (b_n (n_n (w_seq (w_seq (w_reg (s_q rfl rfl (q_mv (.inl rfl) (by first | exact is_box rfl | exact is_hp rfl | exact is_pin rfl | exact is_sc rfl | exact rfl)) ?_))))))
  refine s_o rfl rfl (ao_callH rfl rfl rfl rfl (pf_Len _ k _ H) fun vln Hvln hvln => ?_)
  obtain ⟨rfl, rfl⟩ := hvln
  refine s_q rfl rfl (q_eql rfl rfl rfl) ?_
  refine s_nil (n_n (w_ifF rfl (w_skip (n_n (w_seq (w_seq (w_reg (s_q rfl rfl (q_mv (.inl rfl) (is_sc rfl)) ?_))))))))
  refine s_nil (n_n (w_ifF rfl (w_skip (n_n (w_seq (w_seq (w_reg (s_q rfl rfl (q_mv (.inl rfl) (by first | exact is_box rfl | exact is_hp rfl | exact is_pin rfl | exact is_sc rfl | exact rfl)) ?_))))))))
  refine s_o rfl rfl (ao_callH rfl rfl rfl rfl (pf_Len _ k _ H) fun vln Hvln hvln => ?_)
  obtain ⟨rfl, rfl⟩ := hvln
  refine s_q rfl rfl (q_eql rfl rfl rfl) ?_
  refine s_nil (n_n (w_ifT rfl (w_seq (w_reg (s_q rfl rfl (q_mv (.inl rfl) (by first | exact is_box rfl | exact is_hp rfl | exact is_pin rfl | exact is_sc rfl | exact rfl)) ?_)))))
  refine s_q rfl rfl (q_mv (.inl rfl) (by first | exact is_box rfl | exact is_hp rfl | exact is_pin rfl | exact is_sc rfl | exact rfl)) ?_
  refine s_o rfl rfl (ao_callH rfl rfl rfl rfl (pf_Back _ k _ H (by simp) (by simp)) fun vbk Hvbk hvbk => ?_)
  obtain ⟨e_, rfl⟩ := hvbk
  replace e_ : vbk = D.hp e2 0 := e_
  subst e_
  refine s_q rfl rfl (q_nil rfl rfl rfl) ?_
  refine s_q rfl rfl (q_field rfl rfl (by exact rfl)) ?_
  refine s_q rfl rfl (q_loadH rfl rfl (d := .ifc 65 (fStr s).d) (by exact H.val (e2, .ifc 65 (fStr s).d) (by simp))) ?_
  refine s_q rfl rfl (q_asr rfl rfl) ?_
  refine s_q rfl rfl (q_call rfl rfl rfl rfl (pf_impl kf (fStr s) (by simp [fNum, fStr]))) ?_
  refine s_s rfl rfl (as_alloc0 (id := 3) rfl rfl (by exact (rfl : _ = [_, _, _, _, _, _, _, _, _, _]))) ?_
  refine s_u rfl rfl (as_st rfl rfl (by first | exact (rfl : _ = D.agg [_, _, _, _, _, _, _, _, _, _]) | exact rfl) rfl (by exact rfl) (by exact rfl) (by exact Nat.le_of_ble_eq_true rfl) (by exact (rfl : _ = [_, _, _, _, _, _, _, _, _, _]))) ?_
  refine s_nil (n_n (w_seq (w_seq (w_reg (s_q rfl rfl (q_field rfl rfl (by exact rfl)) ?_)))))
  refine s_q rfl rfl (q_load rfl rfl (by exact (rfl : _ = some (D.sc _)))) ?_
  refine s_nil (n_n (w_block (w_seq (w_reg (s_q rfl rfl (q_eql rfl rfl rfl) ?_)))))
  refine s_q rfl rfl (q_mv (.inr rfl) (is_sc rfl)) ?_
  refine s_nil (n_n (w_ifF rfl (w_seq (w_reg (s_q rfl rfl (q_eql rfl rfl rfl) ?_)))))
  refine s_q rfl rfl (q_mv (.inr rfl) (is_sc rfl)) ?_
  refine s_nil (n_n (w_ifF rfl (w_reg (s_q rfl rfl (q_load rfl rfl (by exact (rfl : _ = some (D.agg [_, _, _, _, _, _, _, _, _, _])))) ?_))))
  refine s_q rfl rfl (q_call rfl rfl rfl rfl (pf_ValueS _)) ?_
  refine s_q rfl rfl (q_call rfl rfl rfl rfl (pf_newStr _)) ?_
  refine s_u rfl rfl (as_st rfl rfl (by first | exact (rfl : _ = D.agg [_, _, _, _, _, _, _, _, _, _]) | exact rfl) rfl (by exact rfl) (by exact rfl) (by exact Nat.le_of_ble_eq_true rfl) (by exact (rfl : _ = [_, _, _, _, _, _, _, _, _, _]))) ?_
  refine s_nil (b_n (n_n (w_seq (w_reg (s_q rfl rfl (q_load rfl rfl (by exact (rfl : _ = some (D.agg [_, _, _, _, _, _, _, _, _, _])))) ?_)))))
  refine s_u rfl rfl (as_st rfl rfl (by first | exact (rfl : _ = D.agg [_, _, _, _, _, _, _, _, _, _]) | exact rfl) rfl (by exact rfl) (by exact rfl) (by exact Nat.le_of_ble_eq_true rfl) (by exact (rfl : _ = [_, _, _, _, _, _, _, _, _, _]))) ?_
  refine s_nil (n_n (w_ret (n_r ?_)))
  -- end 0
  refine r_r (ra_cell (by exact (rfl : _ = some (D.agg [_, _, _, _, _, _, _, _, _, _]))) ra_nil) (by first | exact (rfl : _ = D.agg [_, _, _, _, _, _, _, _, _, _]) | exact rfl) (by exact rfl) (Sub.refl _) ?_
  rfl


-- pub-tallysheet/pub/excelize.DoorIF
theorem pf_DoorIFFS (s : List UInt8) (iv : IV) (hr : iv.rows = []) (hg : PF Tryz.prog G 64 [iv.d] (innF iv).d) : PF Tryz.prog G 30 [ilst [iBool (FloatKind.f64.nearest (if false then 1 else 0)), iv, iStr s]] (iStr s).d := by
  refine PC.intro rfl Tryz.func30 rfl (Nat.le_of_ble_eq_true rfl) rfl ?_
  refine w_seq (w_reg (s_s rfl rfl (as_alloc0 (id := 0) rfl rfl (by exact (rfl : _ = [_, _, _, _]))) ?_))
  refine s_nil (n_n (w_seq (w_reg (s_o rfl rfl (ao_callH rfl rfl rfl rfl (pf_doorFuncs _) fun v3 Hv3 hv3 => ?_)))))
  obtain ⟨kf, rfl⟩ := hv3
  refine s_q rfl rfl (q_mv (.inl rfl) (by first | exact is_im rfl | exact is_gs rfl | exact is_lit rfl | exact is_ms rfl | exact is_sc rfl | exact rfl)) ?_
  refine s_o rfl rfl (ao_callH rfl rfl rfl rfl (pf_innerList _ [iBool (FloatKind.f64.nearest (if false then 1 else 0)), iv, iStr s] (by simp only [List.length_cons, List.length_nil]; omega) innF (fun v hv => by
    simp only [List.mem_cons, List.mem_nil_iff, or_false] at hv
    rcases hv with rfl | rfl | rfl
    · exact pf_innerB _
    · exact hg
    · exact pf_innerS s)) fun v5 Hv5 hv5 => ?_)
  obtain ⟨kl, es, rfl, hL, hes⟩ := hv5
  refine s_o rfl rfl (ao_callH rfl rfl rfl rfl (pf_IFFS _ kf kl es hL hes (innB false)) fun v6 Hv6 hv6 => ?_)
  obtain rfl := hv6
  refine s_q rfl rfl (q_call rfl rfl rfl rfl (pf_doorS _)) ?_
  refine s_u rfl rfl (as_st rfl rfl (by first | exact (rfl : _ = D.agg [_, _, _, _]) | exact rfl) rfl (by exact rfl) (by exact rfl) (by exact Nat.le_of_ble_eq_true rfl) (by exact (rfl : _ = [_, _, _, _]))) ?_
  refine s_nil (n_n (w_ret ?_))
  -- end 0
  refine r_r (ra_cell (by exact (rfl : _ = some (D.agg [_, _, _, _]))) ra_nil) (by first | exact (rfl : _ = D.agg [_, _, _, _]) | exact rfl) (by exact rfl) sub_no ?_
  rfl


-- pub-tallysheet/impl.IF
theorem pf_ImplIFFS (s : List UInt8) (iv : IV) (hr : iv.rows = []) (hg : PF Tryz.prog G 64 [iv.d] (innF iv).d) : PF Tryz.prog G 15 [ilst [iBool (FloatKind.f64.nearest (if false then 1 else 0)), iv, iStr s]] (iStr s).d := by
  refine PC.intro rfl Tryz.func15 rfl (Nat.le_of_ble_eq_true rfl) rfl ?_
  refine w_seq (w_reg (s_s rfl rfl (as_alloc0 (id := 0) rfl rfl (by exact (rfl : _ = [_, _, _, _]))) ?_))
  refine s_nil (n_n (w_seq (w_reg (s_q rfl rfl (q_mv (.inl rfl) (by first | exact is_im rfl | exact is_gs rfl | exact is_lit rfl | exact is_ms rfl | exact is_sc rfl | exact rfl)) ?_))))
  refine s_q rfl rfl (q_call rfl rfl rfl rfl (pf_in [iBool (FloatKind.f64.nearest (if false then 1 else 0)), iv, iStr s] (by simp only [List.length_cons, List.length_nil]; omega) (by intro v hv; simp only [List.mem_cons, List.mem_nil_iff, or_false] at hv; rcases hv with rfl | rfl | rfl <;> first | rfl | assumption))) ?_
  refine s_q rfl rfl (q_call rfl rfl rfl rfl (pf_DoorIFFS s iv hr hg)) ?_
  refine s_q rfl rfl (q_call rfl rfl rfl rfl (pf_out _ _ _)) ?_
  refine s_u rfl rfl (as_st rfl rfl (by first | exact (rfl : _ = D.agg [_, _, _, _]) | exact rfl) rfl (by exact rfl) (by exact rfl) (by exact Nat.le_of_ble_eq_true rfl) (by exact (rfl : _ = [_, _, _, _]))) ?_
  refine s_nil (n_n (w_ret ?_))
  -- end 0
  refine r_r (ra_cell (by exact (rfl : _ = some (D.agg [_, _, _, _]))) ra_nil) (by first | exact (rfl : _ = D.agg [_, _, _, _]) | exact rfl) (by exact rfl) sub_no ?_
  rfl

end Go.Proofs.YteghibfaiifdoaaGreatDoor.Zz
