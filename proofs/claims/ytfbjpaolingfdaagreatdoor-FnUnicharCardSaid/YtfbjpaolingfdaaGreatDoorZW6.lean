/- Walks of the functions, printed by program: each theorem says what one function answers. -/
import Derived.Test.YtfbjpaolingfdaaGreatDoorZLib
import Derived.Test.YtfbjpaolingfdaaGreatDoorZWE
namespace Go.Proofs.YtfbjpaolingfdaaGreatDoor.Zz
open Go.Abs
set_option maxRecDepth 100000
set_option linter.unusedVariables false
set_option linter.unusedSimpArgs false
set_option maxHeartbeats 4000000
variable {G : Nat → D}


-- (pub-tallysheet/pub/excelize.formulaArg).ToNumber
theorem pf_toNumN (b : Nat) (x : Int) (hb : Fx b x) : PF Tryz.prog G 62 [(fNum b).d] (fNum (clean b)).d := by
  refine PC.intro rfl Tryz.func62 rfl (Nat.le_of_ble_eq_true rfl) rfl ?_
  refine w_seq (w_reg (s_s rfl rfl (as_box0 (id := 0) rfl (by first | exact (rfl : _ = D.agg [_, _, _, _, _, _, _, _, _, _]) | exact rfl) (by exact rfl) rfl (by exact (rfl : _ = [_, _, _, _, _, _, _, _, _, _]))) ?_))
  refine s_s rfl rfl (as_alloc0 (id := 1) rfl rfl (by exact (rfl : _ = [_, _, _, _, _, _, _, _, _, _]))) ?_
  refine s_nil (n_n (w_seq (w_reg (s_q rfl rfl (q_mv (.inr rfl) (is_sc rfl)) ?_))))
  refine s_nil (n_n (w_seq (w_reg (s_q rfl rfl (q_mv (.inr rfl) (by first | exact is_ifc rfl | exact is_sc rfl | exact rfl)) ?_))))
  refine s_nil (n_n (w_seq (w_seq (w_reg (s_q rfl rfl (q_field rfl rfl (by exact rfl)) ?_)))))
  refine s_q rfl rfl (q_load rfl rfl (by exact (rfl : _ = some (D.sc _)))) ?_
  refine s_nil (n_n (w_block (w_seq (w_reg (s_q rfl rfl (q_eql rfl rfl rfl) ?_)))))
  refine s_q rfl rfl (q_mv (.inr rfl) (is_sc rfl)) ?_
  refine s_nil (n_n (w_ifF rfl (w_seq (w_reg (s_q rfl rfl (q_eql rfl rfl rfl) ?_)))))
  refine s_q rfl rfl (q_mv (.inr rfl) (is_sc rfl)) ?_
  refine s_nil (n_n (w_ifT rfl (w_reg (s_q rfl rfl (q_field rfl rfl (by exact rfl)) ?_))))
  refine s_q rfl rfl (q_load rfl rfl (by exact (rfl : _ = some (D.sc _)))) ?_
  refine s_q rfl rfl (q_mv (.inr rfl) (is_sc rfl)) ?_
  refine s_nil (b_n (n_n (w_seq (w_reg (s_q rfl rfl (q_mv (.inl rfl) (is_sc rfl)) ?_)))))
  refine s_q rfl rfl (q_call rfl rfl rfl rfl (pf_newNum _ _ hb)) ?_
  refine s_u rfl rfl (as_st rfl rfl (by first | exact (rfl : _ = D.agg [_, _, _, _, _, _, _, _, _, _]) | exact rfl) rfl (by exact rfl) (by exact rfl) (by exact Nat.le_of_ble_eq_true rfl) (by exact (rfl : _ = [_, _, _, _, _, _, _, _, _, _]))) ?_
  refine s_nil (n_n (w_ret ?_))
  -- end 0
  refine r_r (ra_cell (by exact (rfl : _ = some (D.agg [_, _, _, _, _, _, _, _, _, _]))) ra_nil) (by first | exact (rfl : _ = D.agg [_, _, _, _, _, _, _, _, _, _]) | exact rfl) (by exact rfl) sub_no ?_
  rfl


-- pub-tallysheet/pub/excelize.doorArg
theorem pf_doorN (b : Nat) : PF Tryz.prog G 33 [(fNum b).d] (iNum b).d := by
  refine PC.intro rfl Tryz.func33 rfl (Nat.le_of_ble_eq_true rfl) rfl ?_
  refine w_seq (w_reg (s_s rfl rfl (as_box0 (id := 0) rfl (by first | exact (rfl : _ = D.agg [_, _, _, _, _, _, _, _, _, _]) | exact rfl) (by exact rfl) rfl (by exact (rfl : _ = [_, _, _, _, _, _, _, _, _, _]))) ?_))
  refine s_s rfl rfl (as_alloc0 (id := 1) rfl rfl (by exact (rfl : _ = [_, _, _, _]))) ?_
  refine s_nil (n_n (w_seq (w_seq (w_reg (s_q rfl rfl (q_field rfl rfl (by exact rfl)) ?_)))))
  refine s_q rfl rfl (q_load rfl rfl (by exact (rfl : _ = some (D.sc _)))) ?_
  refine s_nil (n_n (w_block (w_seq (w_reg (s_q rfl rfl (q_eql rfl rfl rfl) ?_)))))
  refine s_q rfl rfl (q_mv (.inr rfl) (is_sc rfl)) ?_
  refine s_nil (n_n (w_ifT rfl (w_seq (w_seq (w_reg (s_q rfl rfl (q_field rfl rfl (by exact rfl)) ?_))))))
  refine s_q rfl rfl (q_load rfl rfl (by exact (rfl : _ = some (D.sc _)))) ?_
  refine s_nil (n_n (w_ifF rfl (w_skip (n_n (w_seq (w_reg (s_q rfl rfl (q_field rfl rfl (by exact rfl)) ?_)))))))
  refine s_q rfl rfl (q_load rfl rfl (by exact (rfl : _ = some (D.sc _)))) ?_
  refine s_q rfl rfl (q_build rfl (pt_cons (is_sc rfl) (pt_cons (is_sc rfl) pt_nil)) (by exact (rfl : _ = some [_, _, _, _]))) ?_
  refine s_u rfl rfl (as_st rfl rfl (by first | exact (rfl : _ = D.agg [_, _, _, _]) | exact rfl) rfl (by exact rfl) (by exact rfl) (by exact Nat.le_of_ble_eq_true rfl) (by exact (rfl : _ = [_, _, _, _]))) ?_
  refine s_nil (n_n (w_ret (b_r (n_r ?_))))
  -- end 0
  refine r_r (ra_cell (by exact (rfl : _ = some (D.agg [_, _, _, _]))) ra_nil) (by first | exact (rfl : _ = D.agg [_, _, _, _]) | exact rfl) (by exact rfl) sub_no ?_
  rfl


-- pub-tallysheet/pub/excelize.doorArg
theorem pf_doorS (s : List UInt8) : PF Tryz.prog G 33 [(fStr s).d] (iStr s).d := by
  refine PC.intro rfl Tryz.func33 rfl (Nat.le_of_ble_eq_true rfl) rfl ?_
  refine w_seq (w_reg (s_s rfl rfl (as_box0 (id := 0) rfl (by first | exact (rfl : _ = D.agg [_, _, _, _, _, _, _, _, _, _]) | exact rfl) (by exact rfl) rfl (by exact (rfl : _ = [_, _, _, _, _, _, _, _, _, _]))) ?_))
  refine s_s rfl rfl (as_alloc0 (id := 1) rfl rfl (by exact (rfl : _ = [_, _, _, _]))) ?_
  refine s_nil (n_n (w_seq (w_seq (w_reg (s_q rfl rfl (q_field rfl rfl (by exact rfl)) ?_)))))
  refine s_q rfl rfl (q_load rfl rfl (by exact (rfl : _ = some (D.sc _)))) ?_
  refine s_nil (n_n (w_block (w_seq (w_reg (s_q rfl rfl (q_eql rfl rfl rfl) ?_)))))
  refine s_q rfl rfl (q_mv (.inr rfl) (is_sc rfl)) ?_
  refine s_nil (n_n (w_ifF rfl (w_seq (w_reg (s_q rfl rfl (q_eql rfl rfl rfl) ?_)))))
  refine s_q rfl rfl (q_mv (.inr rfl) (is_sc rfl)) ?_
  refine s_nil (n_n (w_ifT rfl (w_seq (w_reg (s_q rfl rfl (q_field rfl rfl (by exact rfl)) ?_)))))
  refine s_q rfl rfl (q_load rfl rfl (by exact (rfl : _ = some (D.sc _)))) ?_
  refine s_q rfl rfl (q_build rfl (pt_cons (is_sc rfl) (pt_cons (is_sc rfl) pt_nil)) (by exact (rfl : _ = some [_, _, _, _]))) ?_
  refine s_u rfl rfl (as_st rfl rfl (by first | exact (rfl : _ = D.agg [_, _, _, _]) | exact rfl) rfl (by exact rfl) (by exact rfl) (by exact Nat.le_of_ble_eq_true rfl) (by exact (rfl : _ = [_, _, _, _]))) ?_
  refine s_nil (n_n (w_ret (b_r (n_r ?_))))
  -- end 0
  refine r_r (ra_cell (by exact (rfl : _ = some (D.agg [_, _, _, _]))) ra_nil) (by first | exact (rfl : _ = D.agg [_, _, _, _]) | exact rfl) (by exact rfl) sub_no ?_
  rfl


-- pub-tallysheet/pub/excelize.doorArg
theorem pf_doorE (s t : List UInt8) : PF Tryz.prog G 33 [(fErr s t).d] (iErr s).d := by
  refine PC.intro rfl Tryz.func33 rfl (Nat.le_of_ble_eq_true rfl) rfl ?_
  refine w_seq (w_reg (s_s rfl rfl (as_box0 (id := 0) rfl (by first | exact (rfl : _ = D.agg [_, _, _, _, _, _, _, _, _, _]) | exact rfl) (by exact rfl) rfl (by exact (rfl : _ = [_, _, _, _, _, _, _, _, _, _]))) ?_))
  refine s_s rfl rfl (as_alloc0 (id := 1) rfl rfl (by exact (rfl : _ = [_, _, _, _]))) ?_
  refine s_nil (n_n (w_seq (w_seq (w_reg (s_q rfl rfl (q_field rfl rfl (by exact rfl)) ?_)))))
  refine s_q rfl rfl (q_load rfl rfl (by exact (rfl : _ = some (D.sc _)))) ?_
  refine s_nil (n_n (w_block (w_seq (w_reg (s_q rfl rfl (q_eql rfl rfl rfl) ?_)))))
  refine s_q rfl rfl (q_mv (.inr rfl) (is_sc rfl)) ?_
  refine s_nil (n_n (w_ifF rfl (w_seq (w_reg (s_q rfl rfl (q_eql rfl rfl rfl) ?_)))))
  refine s_q rfl rfl (q_mv (.inr rfl) (is_sc rfl)) ?_
  refine s_nil (n_n (w_ifF rfl (w_seq (w_reg (s_q rfl rfl (q_eql rfl rfl rfl) ?_)))))
  refine s_q rfl rfl (q_mv (.inr rfl) (is_sc rfl)) ?_
  refine s_nil (n_n (w_ifT rfl (w_seq (w_reg (s_q rfl rfl (q_field rfl rfl (by exact rfl)) ?_)))))
  refine s_q rfl rfl (q_load rfl rfl (by exact (rfl : _ = some (D.sc _)))) ?_
  refine s_q rfl rfl (q_build rfl (pt_cons (is_sc rfl) (pt_cons (is_sc rfl) pt_nil)) (by exact (rfl : _ = some [_, _, _, _]))) ?_
  refine s_u rfl rfl (as_st rfl rfl (by first | exact (rfl : _ = D.agg [_, _, _, _]) | exact rfl) rfl (by exact rfl) (by exact rfl) (by exact Nat.le_of_ble_eq_true rfl) (by exact (rfl : _ = [_, _, _, _]))) ?_
  refine s_nil (n_n (w_ret (b_r (n_r ?_))))
  -- end 0
  refine r_r (ra_cell (by exact (rfl : _ = some (D.agg [_, _, _, _]))) ra_nil) (by first | exact (rfl : _ = D.agg [_, _, _, _]) | exact rfl) (by exact rfl) sub_no ?_
  rfl


-- (*pub-tallysheet/pub/excelize.formulaFuncs).UNICHAR
theorem pf_UNICHARS {b : Nat} (h : Heap) (kf k : Nat) (es : List (Nat × D)) (H : IsList h k es) (hes : es.map (·.2) = [.ifc 66 (fNum b).d]) (n : Int) (hb : Fx b (n * unit)) (h1 : 32 ≤ n) (h2 : n ≤ 126) : ACall Tryz.prog G 37 true [.hp kf 0, .hp k 0] h (fun v _ => v = (fStr [UInt8.ofNat n.toNat]).d) := by
  obtain ⟨e, rfl⟩ : ∃ e, es = [(e, .ifc 66 (fNum b).d)] := by
    cases es with
    | nil => simp at hes
    | cons p es =>
      cases es with
      | nil => obtain ⟨e, x⟩ := p; simp at hes; subst hes; exact ⟨e, rfl⟩
      | cons _ _ => simp at hes
  have hc := fx_clean hb
  have c1 : fcmp .leq .f64 (clean b) 0 = false := by rw [(fcmp_lt hc fx_zero).2.1]; simp; rw [show (0 : Int) = 0 * (unit : Nat) by simp, unit_lt]; omega
  have c2 : fcmp .gtr .f64 (clean b) 4677832500515438592 = false := by rw [(fcmp_lt hc fx_55295).2.2.1]; simp; rw [unit_le]; omega
  refine ACall.intro rfl Tryz.func37 rfl (Nat.le_of_ble_eq_true rfl) rfl ?_
  refine w_seq (w_reg (s_s rfl rfl (as_alloc0 (id := 0) rfl rfl (by exact (rfl : _ = [_, _, _, _, _, _, _, _, _, _]))) ?_))
  refine s_nil (n_n (w_seq (w_seq (w_reg (s_q rfl rfl (q_mv (.inl rfl) (by first | exact is_box rfl | exact is_hp rfl | exact is_pin rfl | exact is_sc rfl | exact rfl)) ?_)))))
  refine s_o rfl rfl (ao_callH rfl rfl rfl rfl (pf_Len _ k _ H) fun v7 Hv7 hv7 => ?_)
  obtain ⟨rfl, rfl⟩ := hv7
  refine s_q rfl rfl (q_neq rfl rfl rfl) ?_
  refine s_nil (n_n (w_ifF rfl (w_skip (n_n (w_seq (w_reg (s_q rfl rfl (q_mv (.inl rfl) (by first | exact is_box rfl | exact is_hp rfl | exact is_pin rfl | exact is_sc rfl | exact rfl)) ?_)))))))
  refine s_o rfl rfl (ao_callH rfl rfl rfl rfl (pf_Front _ k _ H (by simp) (by simp)) fun v11 Hv11 hv11 => ?_)
  obtain ⟨rfl, rfl⟩ := hv11
  refine s_q rfl rfl (q_nil rfl rfl rfl) ?_
  refine s_q rfl rfl (q_field rfl rfl (by exact rfl)) ?_
  refine s_q rfl rfl (q_loadH rfl rfl (d := .ifc 66 (fNum b).d) (by exact H.val _ (List.mem_cons_self))) ?_
  refine s_q rfl rfl (q_asr rfl rfl) ?_
  refine s_q rfl rfl (q_call rfl rfl rfl rfl (pf_toNumN _ _ hb)) ?_
  refine s_s rfl rfl (as_alloc0 (id := 1) rfl rfl (by exact (rfl : _ = [_, _, _, _, _, _, _, _, _, _]))) ?_
  refine s_u rfl rfl (as_st rfl rfl (by first | exact (rfl : _ = D.agg [_, _, _, _, _, _, _, _, _, _]) | exact rfl) rfl (by exact rfl) (by exact rfl) (by exact Nat.le_of_ble_eq_true rfl) (by exact (rfl : _ = [_, _, _, _, _, _, _, _, _, _]))) ?_
  refine s_nil (n_n (w_seq (w_seq (w_reg (s_q rfl rfl (q_field rfl rfl (by exact rfl)) ?_)))))
  refine s_q rfl rfl (q_load rfl rfl (by exact (rfl : _ = some (D.sc _)))) ?_
  refine s_q rfl rfl (q_neq rfl rfl rfl) ?_
  refine s_nil (n_n (w_ifF rfl (w_skip (n_n (w_seq (w_seq (w_reg (s_q rfl rfl (q_field rfl rfl (by exact rfl)) ?_))))))))
  refine s_q rfl rfl (q_load rfl rfl (by exact (rfl : _ = some (D.sc _)))) ?_
  refine s_q rfl rfl (q_fcmpV rfl rfl rfl rfl c1) ?_
  refine s_q rfl rfl (q_mv (.inl rfl) (is_sc rfl)) ?_
  refine s_q rfl rfl (q_field rfl rfl (by exact rfl)) ?_
  refine s_q rfl rfl (q_load rfl rfl (by exact (rfl : _ = some (D.sc _)))) ?_
  refine s_q rfl rfl (q_fcmpV rfl rfl rfl rfl c2) ?_
  refine s_q rfl rfl (q_pickF rfl rfl (is_sc rfl)) ?_
  refine s_nil (n_n (w_ifF rfl (w_skip (n_n (w_seq (w_reg (s_q rfl rfl (q_field rfl rfl (by exact rfl)) ?_)))))))
  refine s_q rfl rfl (q_load rfl rfl (by exact (rfl : _ = some (D.sc _)))) ?_
  refine s_q rfl rfl (q_cfi rfl rfl (fx_toInt (n := n) hc .i32 (by simp only [IntKind.min, IntKind.max, IntKind.signed, IntKind.bits]; omega))) ?_
  refine s_q rfl rfl (q_cisV (l := [UInt8.ofNat n.toNat]) rfl rfl (enc_ascii (by omega) (by omega))) ?_
  refine s_q rfl rfl (q_call rfl rfl rfl rfl (pf_newStr _)) ?_
  refine s_u rfl rfl (as_st rfl rfl (by first | exact (rfl : _ = D.agg [_, _, _, _, _, _, _, _, _, _]) | exact rfl) rfl (by exact rfl) (by exact rfl) (by exact Nat.le_of_ble_eq_true rfl) (by exact (rfl : _ = [_, _, _, _, _, _, _, _, _, _]))) ?_
  refine s_nil (n_n (w_ret ?_))
  -- end 0
  refine r_r (ra_cell (by exact (rfl : _ = some (D.agg [_, _, _, _, _, _, _, _, _, _]))) ra_nil) (by first | exact (rfl : _ = D.agg [_, _, _, _, _, _, _, _, _, _]) | exact rfl) (by exact rfl) (Sub.refl _) ?_
  rfl


-- (*pub-tallysheet/pub/excelize.formulaFuncs).UNICHAR
theorem pf_UNICHARE {b : Nat} (h : Heap) (kf k : Nat) (es : List (Nat × D)) (H : IsList h k es) (hes : es.map (·.2) = [.ifc 66 (fNum b).d]) (n : Int) (hb : Fx b (n * unit)) (h1 : n ≤ 0) : ACall Tryz.prog G 37 true [.hp kf 0, .hp k 0] h (fun v _ => v = (fErr [35, 86, 65, 76, 85, 69, 33] [35, 86, 65, 76, 85, 69, 33]).d) := by
  obtain ⟨e, rfl⟩ : ∃ e, es = [(e, .ifc 66 (fNum b).d)] := by
    cases es with
    | nil => simp at hes
    | cons p es =>
      cases es with
      | nil => obtain ⟨e, x⟩ := p; simp at hes; subst hes; exact ⟨e, rfl⟩
      | cons _ _ => simp at hes
  have hc := fx_clean hb
  have c1 : fcmp .leq .f64 (clean b) 0 = true := by rw [(fcmp_lt hc fx_zero).2.1]; simp; rw [show (0 : Int) = 0 * (unit : Nat) by simp, unit_le]; omega
  refine ACall.intro rfl Tryz.func37 rfl (Nat.le_of_ble_eq_true rfl) rfl ?_
  refine w_seq (w_reg (s_s rfl rfl (as_alloc0 (id := 0) rfl rfl (by exact (rfl : _ = [_, _, _, _, _, _, _, _, _, _]))) ?_))
  refine s_nil (n_n (w_seq (w_seq (w_reg (s_q rfl rfl (q_mv (.inl rfl) (by first | exact is_box rfl | exact is_hp rfl | exact is_pin rfl | exact is_sc rfl | exact rfl)) ?_)))))
  refine s_o rfl rfl (ao_callH rfl rfl rfl rfl (pf_Len _ k _ H) fun v7 Hv7 hv7 => ?_)
  obtain ⟨rfl, rfl⟩ := hv7
  refine s_q rfl rfl (q_neq rfl rfl rfl) ?_
  refine s_nil (n_n (w_ifF rfl (w_skip (n_n (w_seq (w_reg (s_q rfl rfl (q_mv (.inl rfl) (by first | exact is_box rfl | exact is_hp rfl | exact is_pin rfl | exact is_sc rfl | exact rfl)) ?_)))))))
  refine s_o rfl rfl (ao_callH rfl rfl rfl rfl (pf_Front _ k _ H (by simp) (by simp)) fun v11 Hv11 hv11 => ?_)
  obtain ⟨rfl, rfl⟩ := hv11
  refine s_q rfl rfl (q_nil rfl rfl rfl) ?_
  refine s_q rfl rfl (q_field rfl rfl (by exact rfl)) ?_
  refine s_q rfl rfl (q_loadH rfl rfl (d := .ifc 66 (fNum b).d) (by exact H.val _ (List.mem_cons_self))) ?_
  refine s_q rfl rfl (q_asr rfl rfl) ?_
  refine s_q rfl rfl (q_call rfl rfl rfl rfl (pf_toNumN _ _ hb)) ?_
  refine s_s rfl rfl (as_alloc0 (id := 1) rfl rfl (by exact (rfl : _ = [_, _, _, _, _, _, _, _, _, _]))) ?_
  refine s_u rfl rfl (as_st rfl rfl (by first | exact (rfl : _ = D.agg [_, _, _, _, _, _, _, _, _, _]) | exact rfl) rfl (by exact rfl) (by exact rfl) (by exact Nat.le_of_ble_eq_true rfl) (by exact (rfl : _ = [_, _, _, _, _, _, _, _, _, _]))) ?_
  refine s_nil (n_n (w_seq (w_seq (w_reg (s_q rfl rfl (q_field rfl rfl (by exact rfl)) ?_)))))
  refine s_q rfl rfl (q_load rfl rfl (by exact (rfl : _ = some (D.sc _)))) ?_
  refine s_q rfl rfl (q_neq rfl rfl rfl) ?_
  refine s_nil (n_n (w_ifF rfl (w_skip (n_n (w_seq (w_seq (w_reg (s_q rfl rfl (q_field rfl rfl (by exact rfl)) ?_))))))))
  refine s_q rfl rfl (q_load rfl rfl (by exact (rfl : _ = some (D.sc _)))) ?_
  refine s_q rfl rfl (q_fcmpV rfl rfl rfl rfl c1) ?_
  refine s_q rfl rfl (q_mv (.inl rfl) (is_sc rfl)) ?_
  refine s_off rfl rfl ?_
  refine s_off rfl rfl ?_
  refine s_off rfl rfl ?_
  refine s_q rfl rfl (q_pickT rfl rfl (is_sc rfl)) ?_
  refine s_nil (n_n (w_ifT rfl (w_seq (w_reg (s_q rfl rfl (q_call rfl rfl rfl rfl (pf_newErr _ _)) ?_)))))
  refine s_u rfl rfl (as_st rfl rfl (by first | exact (rfl : _ = D.agg [_, _, _, _, _, _, _, _, _, _]) | exact rfl) rfl (by exact rfl) (by exact rfl) (by exact Nat.le_of_ble_eq_true rfl) (by exact (rfl : _ = [_, _, _, _, _, _, _, _, _, _]))) ?_
  refine s_nil (n_n (w_ret (n_r ?_)))
  -- end 0
  refine r_r (ra_cell (by exact (rfl : _ = some (D.agg [_, _, _, _, _, _, _, _, _, _]))) ra_nil) (by first | exact (rfl : _ = D.agg [_, _, _, _, _, _, _, _, _, _]) | exact rfl) (by exact rfl) (Sub.refl _) ?_
  rfl


-- pub-tallysheet/pub/excelize.DoorUNICHAR
theorem pf_DoorUNICHARS (b0 : Nat) (n : Int) (hb0 : Fx b0 (n * unit)) (h1 : 32 ≤ n) (h2 : n ≤ 126) : PF Tryz.prog G 25 [ilst [iNum b0]] (iStr [UInt8.ofNat n.toNat]).d := by
  refine PC.intro rfl Tryz.func25 rfl (Nat.le_of_ble_eq_true rfl) rfl ?_
  refine w_seq (w_reg (s_s rfl rfl (as_alloc0 (id := 0) rfl rfl (by exact (rfl : _ = [_, _, _, _]))) ?_))
  refine s_nil (n_n (w_seq (w_reg (s_o rfl rfl (ao_callH rfl rfl rfl rfl (pf_doorFuncs _) fun v3 Hv3 hv3 => ?_)))))
  obtain ⟨kf, rfl⟩ := hv3
  refine s_q rfl rfl (q_mv (.inl rfl) (by first | exact is_im rfl | exact is_gs rfl | exact is_lit rfl | exact is_ms rfl | exact is_sc rfl | exact rfl)) ?_
  refine s_o rfl rfl (ao_callH rfl rfl rfl rfl (pf_innerList _ [iNum b0] (by simp only [List.length_cons, List.length_nil]; omega) (fun _ => fNum (clean b0)) (fun v hv => by rw [List.mem_singleton.1 hv]; exact pf_innerN b0 _ hb0)) fun v5 Hv5 hv5 => ?_)
  obtain ⟨kl, es, rfl, hL, hes⟩ := hv5
  refine s_o rfl rfl (ao_callH rfl rfl rfl rfl (pf_UNICHARS _ kf kl es hL hes n (fx_clean hb0) h1 h2) fun v6 Hv6 hv6 => ?_)
  obtain rfl := hv6
  refine s_q rfl rfl (q_call rfl rfl rfl rfl (pf_doorS _)) ?_
  refine s_u rfl rfl (as_st rfl rfl (by first | exact (rfl : _ = D.agg [_, _, _, _]) | exact rfl) rfl (by exact rfl) (by exact rfl) (by exact Nat.le_of_ble_eq_true rfl) (by exact (rfl : _ = [_, _, _, _]))) ?_
  refine s_nil (n_n (w_ret ?_))
  -- end 0
  refine r_r (ra_cell (by exact (rfl : _ = some (D.agg [_, _, _, _]))) ra_nil) (by first | exact (rfl : _ = D.agg [_, _, _, _]) | exact rfl) (by exact rfl) sub_no ?_
  rfl


-- pub-tallysheet/impl.UNICHAR
theorem pf_ImplUNICHARS (b0 : Nat) (n : Int) (hb0 : Fx b0 (n * unit)) (h1 : 32 ≤ n) (h2 : n ≤ 126) : PF Tryz.prog G 13 [ilst [iNum b0]] (iStr [UInt8.ofNat n.toNat]).d := by
  refine PC.intro rfl Tryz.func13 rfl (Nat.le_of_ble_eq_true rfl) rfl ?_
  refine w_seq (w_reg (s_s rfl rfl (as_alloc0 (id := 0) rfl rfl (by exact (rfl : _ = [_, _, _, _]))) ?_))
  refine s_nil (n_n (w_seq (w_reg (s_q rfl rfl (q_mv (.inl rfl) (by first | exact is_im rfl | exact is_gs rfl | exact is_lit rfl | exact is_ms rfl | exact is_sc rfl | exact rfl)) ?_))))
  refine s_q rfl rfl (q_call rfl rfl rfl rfl (pf_in [iNum b0] (by simp only [List.length_cons, List.length_nil]; omega) (by intro v hv; simp only [List.mem_cons, List.mem_nil_iff, or_false] at hv; subst hv; rfl))) ?_
  refine s_q rfl rfl (q_call rfl rfl rfl rfl (pf_DoorUNICHARS b0 n hb0 h1 h2)) ?_
  refine s_q rfl rfl (q_call rfl rfl rfl rfl (pf_out _ _ _)) ?_
  refine s_u rfl rfl (as_st rfl rfl (by first | exact (rfl : _ = D.agg [_, _, _, _]) | exact rfl) rfl (by exact rfl) (by exact rfl) (by exact Nat.le_of_ble_eq_true rfl) (by exact (rfl : _ = [_, _, _, _]))) ?_
  refine s_nil (n_n (w_ret ?_))
  -- end 0
  refine r_r (ra_cell (by exact (rfl : _ = some (D.agg [_, _, _, _]))) ra_nil) (by first | exact (rfl : _ = D.agg [_, _, _, _]) | exact rfl) (by exact rfl) sub_no ?_
  rfl


-- pub-tallysheet/pub/excelize.DoorUNICHAR
theorem pf_DoorUNICHARE (b0 : Nat) (n : Int) (hb0 : Fx b0 (n * unit)) (h1 : n ≤ 0) : PF Tryz.prog G 25 [ilst [iNum b0]] (iErr [35, 86, 65, 76, 85, 69, 33]).d := by
  refine PC.intro rfl Tryz.func25 rfl (Nat.le_of_ble_eq_true rfl) rfl ?_
  refine w_seq (w_reg (s_s rfl rfl (as_alloc0 (id := 0) rfl rfl (by exact (rfl : _ = [_, _, _, _]))) ?_))
  refine s_nil (n_n (w_seq (w_reg (s_o rfl rfl (ao_callH rfl rfl rfl rfl (pf_doorFuncs _) fun v3 Hv3 hv3 => ?_)))))
  obtain ⟨kf, rfl⟩ := hv3
  refine s_q rfl rfl (q_mv (.inl rfl) (by first | exact is_im rfl | exact is_gs rfl | exact is_lit rfl | exact is_ms rfl | exact is_sc rfl | exact rfl)) ?_
  refine s_o rfl rfl (ao_callH rfl rfl rfl rfl (pf_innerList _ [iNum b0] (by simp only [List.length_cons, List.length_nil]; omega) (fun _ => fNum (clean b0)) (fun v hv => by rw [List.mem_singleton.1 hv]; exact pf_innerN b0 _ hb0)) fun v5 Hv5 hv5 => ?_)
  obtain ⟨kl, es, rfl, hL, hes⟩ := hv5
  refine s_o rfl rfl (ao_callH rfl rfl rfl rfl (pf_UNICHARE _ kf kl es hL hes n (fx_clean hb0) h1) fun v6 Hv6 hv6 => ?_)
  obtain rfl := hv6
  refine s_q rfl rfl (q_call rfl rfl rfl rfl (pf_doorE _ _)) ?_
  refine s_u rfl rfl (as_st rfl rfl (by first | exact (rfl : _ = D.agg [_, _, _, _]) | exact rfl) rfl (by exact rfl) (by exact rfl) (by exact Nat.le_of_ble_eq_true rfl) (by exact (rfl : _ = [_, _, _, _]))) ?_
  refine s_nil (n_n (w_ret ?_))
  -- end 0
  refine r_r (ra_cell (by exact (rfl : _ = some (D.agg [_, _, _, _]))) ra_nil) (by first | exact (rfl : _ = D.agg [_, _, _, _]) | exact rfl) (by exact rfl) sub_no ?_
  rfl


-- pub-tallysheet/impl.UNICHAR
theorem pf_ImplUNICHARE (b0 : Nat) (n : Int) (hb0 : Fx b0 (n * unit)) (h1 : n ≤ 0) : PF Tryz.prog G 13 [ilst [iNum b0]] (iErr [35, 86, 65, 76, 85, 69, 33]).d := by
  refine PC.intro rfl Tryz.func13 rfl (Nat.le_of_ble_eq_true rfl) rfl ?_
  refine w_seq (w_reg (s_s rfl rfl (as_alloc0 (id := 0) rfl rfl (by exact (rfl : _ = [_, _, _, _]))) ?_))
  refine s_nil (n_n (w_seq (w_reg (s_q rfl rfl (q_mv (.inl rfl) (by first | exact is_im rfl | exact is_gs rfl | exact is_lit rfl | exact is_ms rfl | exact is_sc rfl | exact rfl)) ?_))))
  refine s_q rfl rfl (q_call rfl rfl rfl rfl (pf_in [iNum b0] (by simp only [List.length_cons, List.length_nil]; omega) (by intro v hv; simp only [List.mem_cons, List.mem_nil_iff, or_false] at hv; subst hv; rfl))) ?_
  refine s_q rfl rfl (q_call rfl rfl rfl rfl (pf_DoorUNICHARE b0 n hb0 h1)) ?_
  refine s_q rfl rfl (q_call rfl rfl rfl rfl (pf_out _ _ _)) ?_
  refine s_u rfl rfl (as_st rfl rfl (by first | exact (rfl : _ = D.agg [_, _, _, _]) | exact rfl) rfl (by exact rfl) (by exact rfl) (by exact Nat.le_of_ble_eq_true rfl) (by exact (rfl : _ = [_, _, _, _]))) ?_
  refine s_nil (n_n (w_ret ?_))
  -- end 0
  refine r_r (ra_cell (by exact (rfl : _ = some (D.agg [_, _, _, _]))) ra_nil) (by first | exact (rfl : _ = D.agg [_, _, _, _]) | exact rfl) (by exact rfl) sub_no ?_
  rfl

end Go.Proofs.YtfbjpaolingfdaaGreatDoor.Zz
