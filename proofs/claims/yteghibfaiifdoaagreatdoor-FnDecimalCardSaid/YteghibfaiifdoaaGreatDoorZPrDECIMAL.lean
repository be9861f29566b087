/- Walks of the functions, printed by program, and the logic behind them: each theorem says what one function or one step answers. -/
import Derived.Test.YteghibfaiifdoaaGreatDoorZM
import Derived.Test.YteghibfaiifdoaaGreatDoorZPrParse
import Derived.Test.YteghibfaiifdoaaGreatDoorZTx
namespace Go.Proofs.YteghibfaiifdoaaGreatDoor.Zz
open Go.Abs
set_option maxRecDepth 100000
set_option linter.unusedVariables false
set_option linter.unusedSimpArgs false
set_option maxHeartbeats 4000000
variable {G : Nat → D}

-- (*pub-tallysheet/pub/excelize.formulaFuncs).DECIMAL
theorem pf_DECIMAL {s : List UInt8} {b : Nat} {m N : Int} (h : Heap) (kf k : Nat) (es : List (Nat × D)) (H : IsList h k es) (hes : es.map (·.2) = [.ifc 65 (fStr s).d, .ifc 65 (fNum b).d]) (hs : s.length ≤ 1000) (he : ¬ s = []) (hb : Fx b (m * (unit : Nat))) (hm : 2 ≤ m ∧ m ≤ 36) (hD : decL m s 0 0 = some N) (hN : 0 ≤ N ∧ N ≤ 99999999999) : ACall Tryz.prog G 46 true [.hp kf 0, .hp k 0] h (fun ret _ => ret = (fNum (clean (FloatKind.f64.nearest N))).d) := by
  obtain ⟨e0, e1, rfl⟩ := el2 hes
  have hf : Fx (FloatKind.f64.nearest N) (N * (unit : Nat)) := fv_nearest (by omega)
  refine ACall.intro rfl Tryz.func46 rfl (Nat.le_of_ble_eq_true rfl) rfl ?_
  refine w_seq (w_reg (s_s rfl rfl (as_alloc0 (id := 0) rfl rfl (by exact (rfl : _ = [_, _, _, _, _, _, _, _, _, _]))) ?_))
  refine s_nil (n_n (w_seq (w_seq (w_reg (s_q rfl rfl (q_mv (.inl rfl) (by first | exact is_box rfl | exact is_hp rfl | exact is_pin rfl | exact is_sc rfl | exact rfl)) ?_)))))
  refine s_o rfl rfl (ao_callH rfl rfl rfl rfl (pf_Len _ k _ H) fun vln Hvln hvln => ?_)
  obtain ⟨rfl, rfl⟩ := hvln
  refine s_q rfl rfl (q_neq rfl rfl rfl) ?_
  refine s_nil (n_n (w_ifF rfl (w_skip (n_n (w_seq (w_reg (s_q rfl rfl (q_mv (.inl rfl) (by first | exact is_box rfl | exact is_hp rfl | exact is_pin rfl | exact is_sc rfl | exact rfl)) ?_)))))))
  refine s_o rfl rfl (ao_callH rfl rfl rfl rfl (pf_Front _ k _ H (by simp) (by simp)) fun vfr Hvfr hvfr => ?_)
  obtain ⟨e_, rfl⟩ := hvfr
  replace e_ : vfr = D.hp e0 0 := e_
  subst e_
  refine s_q rfl rfl (q_nil rfl rfl rfl) ?_
  refine s_q rfl rfl (q_field rfl rfl (by exact rfl)) ?_
  refine s_q rfl rfl (q_loadH rfl rfl (d := .ifc 65 (fStr s).d) (by exact H.val (e0, .ifc 65 (fStr s).d) (by simp))) ?_
  refine s_q rfl rfl (q_asr rfl rfl) ?_
  refine s_q rfl rfl (q_call rfl rfl rfl rfl (pf_ValueS _)) ?_
  refine s_q rfl rfl (q_mv (.inr rfl) (is_sc rfl)) ?_
  refine s_nil (n_n (w_seq (w_reg (s_q rfl rfl (q_mv (.inr rfl) (by first | exact is_ifc rfl | exact is_sc rfl | exact rfl)) ?_))))
  refine s_nil (n_n (w_seq (w_reg (s_q rfl rfl (q_mv (.inl rfl) (by first | exact is_box rfl | exact is_hp rfl | exact is_pin rfl | exact is_sc rfl | exact rfl)) ?_))))
  refine s_o rfl rfl (ao_callH rfl rfl rfl rfl (pf_Back _ k _ H (by simp) (by simp)) fun vbk Hvbk hvbk => ?_)
  obtain ⟨e_, rfl⟩ := hvbk
  replace e_ : vbk = D.hp e1 0 := e_
  subst e_
  refine s_q rfl rfl (q_nil rfl rfl rfl) ?_
  refine s_q rfl rfl (q_field rfl rfl (by exact rfl)) ?_
  refine s_q rfl rfl (q_loadH rfl rfl (d := .ifc 65 (fNum b).d) (by exact H.val (e1, .ifc 65 (fNum b).d) (by simp))) ?_
  refine s_q rfl rfl (q_asr rfl rfl) ?_
  refine s_q rfl rfl (q_call rfl rfl rfl rfl (pf_toNumN _ _ hb)) ?_
  refine s_s rfl rfl (as_alloc0 (id := 1) rfl rfl (by exact (rfl : _ = [_, _, _, _, _, _, _, _, _, _]))) ?_
  refine s_u rfl rfl (as_st rfl rfl (by first | exact (rfl : _ = D.agg [_, _, _, _, _, _, _, _, _, _]) | exact rfl) rfl (by exact rfl) (by exact rfl) (by exact Nat.le_of_ble_eq_true rfl) (by exact (rfl : _ = [_, _, _, _, _, _, _, _, _, _]))) ?_
  refine s_nil (n_n (w_seq (w_seq (w_reg (s_q rfl rfl (q_field rfl rfl (by exact rfl)) ?_)))))
  refine s_q rfl rfl (q_load rfl rfl (by exact (rfl : _ = some (D.sc _)))) ?_
  refine s_q rfl rfl (q_neq rfl rfl rfl) ?_
  refine s_nil (n_n (w_ifF rfl (w_skip (n_n (w_seq (w_seq (w_reg (s_q rfl rfl (q_mv (.inl rfl) (is_sc rfl)) ?_))))))))
  refine s_q rfl rfl (q_lens rfl rfl) ?_
  refine s_q rfl rfl (q_gtr rfl rfl rfl) ?_
  refine s_q rfl rfl (q_mv (.inl rfl) (is_sc rfl)) ?_
  refine s_split 34 (is_scb rfl) (fun h1 => ?_) (fun h1 => ?_)
  · refine s_q rfl rfl (q_mv (.inl rfl) (is_sc rfl)) ?_
    refine s_q rfl rfl (q_call rfl rfl rfl rfl (pf_HasPrefix _ _ (dec_prefix hD 120 (.inl rfl)))) ?_
    refine s_q rfl rfl (q_mv (.inl rfl) (is_sc rfl)) ?_
    refine s_q rfl rfl (q_mv (.inl rfl) (is_sc rfl)) ?_
    refine s_q rfl rfl (q_call rfl rfl rfl rfl (pf_HasPrefix _ _ (dec_prefix hD 88 (.inr rfl)))) ?_
    refine s_q rfl rfl (q_pickF rfl rfl (is_sc rfl)) ?_
    refine s_q rfl rfl (q_pickT rfl rfl (is_sc rfl)) ?_
    refine s_nil (n_n (w_ifF rfl (w_skip (n_n (w_seq (w_reg (s_q rfl rfl (q_mv (.inl rfl) (is_sc rfl)) ?_)))))))
    refine s_q rfl rfl (q_field rfl rfl (by exact rfl)) ?_
    refine s_q rfl rfl (q_load rfl rfl (by exact (rfl : _ = some (D.sc _)))) ?_
    refine s_q rfl rfl (q_cfi rfl rfl (fx_toInt (fx_clean hb) .i64 (by simp only [IntKind.min, IntKind.max, IntKind.signed, IntKind.bits]; omega))) ?_
    refine s_q rfl rfl (q_call rfl rfl rfl rfl (pf_ParseInt s m N hs he hm hD)) ?_
    refine s_q rfl rfl (q_mv (.inl rfl) (by first | exact (rfl : _ = D.tup [_, _]) | exact rfl)) ?_
    refine s_q rfl rfl (q_extract rfl rfl rfl) ?_
    refine s_q rfl rfl (q_extract rfl rfl rfl) ?_
    refine s_q rfl rfl (q_mv (.inr rfl) (is_sc rfl)) ?_
    refine s_q rfl rfl (q_mv (.inr rfl) (by first | exact is_ifc rfl | exact is_sc rfl | exact rfl)) ?_
    refine s_nil (n_n (w_seq (w_seq (w_reg (s_q rfl rfl (q_mv (.inl rfl) (by first | exact is_ifc rfl | exact is_sc rfl | exact rfl)) ?_)))))
    refine s_q rfl rfl (q_ifNeN rfl rfl rfl) ?_
    refine s_nil (n_n (w_ifF rfl (w_skip (n_n (w_seq (w_reg (s_q rfl rfl (q_mv (.inl rfl) (is_sc rfl)) ?_)))))))
    refine s_q rfl rfl (q_cif rfl rfl) ?_
    refine s_q rfl rfl (q_call rfl rfl rfl rfl (pf_newNum _ _ hf)) ?_
    refine s_u rfl rfl (as_st rfl rfl (by first | exact (rfl : _ = D.agg [_, _, _, _, _, _, _, _, _, _]) | exact rfl) rfl (by exact rfl) (by exact rfl) (by exact Nat.le_of_ble_eq_true rfl) (by exact (rfl : _ = [_, _, _, _, _, _, _, _, _, _]))) ?_
    refine s_nil (n_n (w_ret ?_))
    -- end 0
    refine r_r (ra_cell (by exact (rfl : _ = some (D.agg [_, _, _, _, _, _, _, _, _, _]))) ra_nil) (by first | exact (rfl : _ = D.agg [_, _, _, _, _, _, _, _, _, _]) | exact rfl) (by exact rfl) (Sub.refl _) ?_
    rfl
  · refine s_off rfl rfl ?_
    refine s_off rfl rfl ?_
    refine s_off rfl rfl ?_
    refine s_off rfl rfl ?_
    refine s_off rfl rfl ?_
    refine s_off rfl rfl ?_
    refine s_q rfl rfl (q_pickF rfl rfl (is_sc rfl)) ?_
    refine s_nil (n_n (w_ifF rfl (w_skip (n_n (w_seq (w_reg (s_q rfl rfl (q_mv (.inl rfl) (is_sc rfl)) ?_)))))))
    refine s_q rfl rfl (q_field rfl rfl (by exact rfl)) ?_
    refine s_q rfl rfl (q_load rfl rfl (by exact (rfl : _ = some (D.sc _)))) ?_
    refine s_q rfl rfl (q_cfi rfl rfl (fx_toInt (fx_clean hb) .i64 (by simp only [IntKind.min, IntKind.max, IntKind.signed, IntKind.bits]; omega))) ?_
    refine s_q rfl rfl (q_call rfl rfl rfl rfl (pf_ParseInt s m N hs he hm hD)) ?_
    refine s_q rfl rfl (q_mv (.inl rfl) (by first | exact (rfl : _ = D.tup [_, _]) | exact rfl)) ?_
    refine s_q rfl rfl (q_extract rfl rfl rfl) ?_
    refine s_q rfl rfl (q_extract rfl rfl rfl) ?_
    refine s_q rfl rfl (q_mv (.inr rfl) (is_sc rfl)) ?_
    refine s_q rfl rfl (q_mv (.inr rfl) (by first | exact is_ifc rfl | exact is_sc rfl | exact rfl)) ?_
    refine s_nil (n_n (w_seq (w_seq (w_reg (s_q rfl rfl (q_mv (.inl rfl) (by first | exact is_ifc rfl | exact is_sc rfl | exact rfl)) ?_)))))
    refine s_q rfl rfl (q_ifNeN rfl rfl rfl) ?_
    refine s_nil (n_n (w_ifF rfl (w_skip (n_n (w_seq (w_reg (s_q rfl rfl (q_mv (.inl rfl) (is_sc rfl)) ?_)))))))
    refine s_q rfl rfl (q_cif rfl rfl) ?_
    refine s_q rfl rfl (q_call rfl rfl rfl rfl (pf_newNum _ _ hf)) ?_
    refine s_u rfl rfl (as_st rfl rfl (by first | exact (rfl : _ = D.agg [_, _, _, _, _, _, _, _, _, _]) | exact rfl) rfl (by exact rfl) (by exact rfl) (by exact Nat.le_of_ble_eq_true rfl) (by exact (rfl : _ = [_, _, _, _, _, _, _, _, _, _]))) ?_
    refine s_nil (n_n (w_ret ?_))
    -- end 1
    refine r_r (ra_cell (by exact (rfl : _ = some (D.agg [_, _, _, _, _, _, _, _, _, _]))) ra_nil) (by first | exact (rfl : _ = D.agg [_, _, _, _, _, _, _, _, _, _]) | exact rfl) (by exact rfl) (Sub.refl _) ?_
    rfl


-- pub-tallysheet/pub/excelize.DoorDECIMAL
theorem pf_DoorDECIMAL (s : List UInt8) (b : Nat) (m N : Int) (hs : s.length ≤ 1000) (he : ¬ s = []) (hb : Fx b (m * (unit : Nat))) (hm : 2 ≤ m ∧ m ≤ 36) (hD : decL m s 0 0 = some N) (hN : 0 ≤ N ∧ N ≤ 99999999999) : PF Tryz.prog G 33 [ilst [iStr s, iNum b]] (iNum (clean (FloatKind.f64.nearest N))).d := by
  refine PC.intro rfl Tryz.func33 rfl (Nat.le_of_ble_eq_true rfl) rfl ?_
  refine w_seq (w_reg (s_s rfl rfl (as_alloc0 (id := 0) rfl rfl (by exact (rfl : _ = [_, _, _, _]))) ?_))
  refine s_nil (n_n (w_seq (w_reg (s_o rfl rfl (ao_callH rfl rfl rfl rfl (pf_doorFuncs _) fun v3 Hv3 hv3 => ?_)))))
  obtain ⟨kf, rfl⟩ := hv3
  refine s_q rfl rfl (q_mv (.inl rfl) (by first | exact is_im rfl | exact is_gs rfl | exact is_lit rfl | exact is_ms rfl | exact is_sc rfl | exact rfl)) ?_
  refine s_o rfl rfl (ao_callH rfl rfl rfl rfl (pf_innerList _ [iStr s, iNum b] (by simp only [List.length_cons, List.length_nil]; omega) innF (fun v hv => by
    simp only [List.mem_cons, List.mem_nil_iff, or_false] at hv
    rcases hv with rfl | rfl
    · exact pf_innerS s
    · exact pf_innerN b _ hb)) fun v5 Hv5 hv5 => ?_)
  obtain ⟨kl, es, rfl, hL, hes⟩ := hv5
  refine s_o rfl rfl (ao_callH rfl rfl rfl rfl (pf_DECIMAL _ kf kl es hL hes hs he (fx_clean hb) hm hD hN) fun v6 Hv6 hv6 => ?_)
  obtain rfl := hv6
  refine s_q rfl rfl (q_call rfl rfl rfl rfl (pf_doorN _)) ?_
  refine s_u rfl rfl (as_st rfl rfl (by first | exact (rfl : _ = D.agg [_, _, _, _]) | exact rfl) rfl (by exact rfl) (by exact rfl) (by exact Nat.le_of_ble_eq_true rfl) (by exact (rfl : _ = [_, _, _, _]))) ?_
  refine s_nil (n_n (w_ret ?_))
  -- end 0
  refine r_r (ra_cell (by exact (rfl : _ = some (D.agg [_, _, _, _]))) ra_nil) (by first | exact (rfl : _ = D.agg [_, _, _, _]) | exact rfl) (by exact rfl) sub_no ?_
  rfl


-- pub-tallysheet/impl.DECIMAL
theorem pf_ImplDECIMAL (s : List UInt8) (b : Nat) (m N : Int) (hs : s.length ≤ 1000) (he : ¬ s = []) (hb : Fx b (m * (unit : Nat))) (hm : 2 ≤ m ∧ m ≤ 36) (hD : decL m s 0 0 = some N) (hN : 0 ≤ N ∧ N ≤ 99999999999) : PF Tryz.prog G 18 [ilst [iStr s, iNum b]] (iNum (clean (FloatKind.f64.nearest N))).d := by
  refine PC.intro rfl Tryz.func18 rfl (Nat.le_of_ble_eq_true rfl) rfl ?_
  refine w_seq (w_reg (s_s rfl rfl (as_alloc0 (id := 0) rfl rfl (by exact (rfl : _ = [_, _, _, _]))) ?_))
  refine s_nil (n_n (w_seq (w_reg (s_q rfl rfl (q_mv (.inl rfl) (by first | exact is_im rfl | exact is_gs rfl | exact is_lit rfl | exact is_ms rfl | exact is_sc rfl | exact rfl)) ?_))))
  refine s_q rfl rfl (q_call rfl rfl rfl rfl (pf_in [iStr s, iNum b] (by simp only [List.length_cons, List.length_nil]; omega) (by intro v hv; simp only [List.mem_cons, List.mem_nil_iff, or_false] at hv; rcases hv with rfl | rfl <;> rfl))) ?_
  refine s_q rfl rfl (q_call rfl rfl rfl rfl (pf_DoorDECIMAL s b m N hs he hb hm hD hN)) ?_
  refine s_q rfl rfl (q_call rfl rfl rfl rfl (pf_out _ _ _)) ?_
  refine s_u rfl rfl (as_st rfl rfl (by first | exact (rfl : _ = D.agg [_, _, _, _]) | exact rfl) rfl (by exact rfl) (by exact rfl) (by exact Nat.le_of_ble_eq_true rfl) (by exact (rfl : _ = [_, _, _, _]))) ?_
  refine s_nil (n_n (w_ret ?_))
  -- end 0
  refine r_r (ra_cell (by exact (rfl : _ = some (D.agg [_, _, _, _]))) ra_nil) (by first | exact (rfl : _ = D.agg [_, _, _, _]) | exact rfl) (by exact rfl) sub_no ?_
  rfl

end Go.Proofs.YteghibfaiifdoaaGreatDoor.Zz
