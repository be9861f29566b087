/- Walks of the functions, printed by program, and the logic behind them: each theorem says what one function or one step answers. -/
import Derived.Test.YtpjckdhgefbonaaGreatDoorZPrMUNIT
import Derived.Test.YtpjckdhgefbonaaGreatDoorZWe
namespace Go.Proofs.YtpjckdhgefbonaaGreatDoor.Zz
open Go.Abs
set_option maxRecDepth 100000
set_option linter.unusedVariables false
set_option linter.unusedSimpArgs false
set_option maxHeartbeats 4000000
variable {G : Nat → D}

-- pub-tallysheet/pub/excelize.DoorMUNIT
theorem pf_DoorMUNIT (b k : Nat) (hb : Fx b ((k : Int) * (unit : Nat))) (h1 : 1 ≤ k) (h20 : k ≤ 20) : PF Tryz.prog G 36 [ilst [iNum b]] (tabI ((munFs k k).map (·.map fI))).d := by
  refine PC.intro rfl Tryz.func36 rfl (Nat.le_of_ble_eq_true rfl) rfl ?_
  refine w_seq (w_reg (s_s rfl rfl (as_alloc0 (id := 0) rfl rfl (by exact (rfl : _ = [_, _, _, _]))) ?_))
  refine s_nil (n_n (w_seq (w_reg (s_o rfl rfl (ao_callH rfl rfl rfl rfl (pf_doorFuncs _) fun v3 Hv3 hv3 => ?_)))))
  obtain ⟨kf, rfl⟩ := hv3
  refine s_q rfl rfl (q_mv (.inl rfl) (by first | exact is_im rfl | exact is_gs rfl | exact is_lit rfl | exact is_ms rfl | exact is_sc rfl | exact rfl)) ?_
  refine s_o rfl rfl (ao_callH rfl rfl rfl rfl (pf_innerList _ [iNum b] (by simp) (fun _ => fNum (clean b)) (fun v hv => by rw [List.mem_singleton.1 hv]; exact pf_innerN b _ hb)) fun v5 Hv5 hv5 => ?_)
  obtain ⟨kl, es, rfl, hL5, hes⟩ := hv5
  refine s_o rfl rfl (ao_callH rfl rfl rfl rfl (pf_MUNIT _ kf kl es hL5 (clean b) k hes (fx_clean hb) h1 h20) fun v6 Hv6 hv6 => ?_)
  obtain ⟨id, cap, ids, rfl, HM⟩ := hv6
  refine s_o rfl rfl (ao_callH rfl rfl rfl rfl (pf_doorArgMat _ id k cap ids k k (munFs k k) HM fI (fun r hr f hf => by obtain ⟨x, rfl⟩ := mun_memF hr hf; exact pf_doorN x) (by omega) (by omega)) fun v7 Hv7 hv7 => ?_)
  obtain ⟨rfl, e⟩ := hv7
  rw [e]; clear e
  refine s_u rfl rfl (as_st rfl rfl (by first | exact (rfl : _ = D.agg [_, _, _, _]) | exact rfl) rfl (by exact rfl) (by exact rfl) (by exact Nat.le_of_ble_eq_true rfl) (by exact (rfl : _ = [_, _, _, _]))) ?_
  refine s_nil (n_n (w_ret ?_))
  -- end 0
  refine r_r (ra_cell (by exact (rfl : _ = some (D.agg [_, _, _, _]))) ra_nil) (by first | exact (rfl : _ = D.agg [_, _, _, _]) | exact rfl) (by exact rfl) sub_no ?_
  rfl


-- pub-tallysheet/impl.MUNIT
theorem pf_ImplMUNIT (b k : Nat) (hb : Fx b ((k : Int) * (unit : Nat))) (h1 : 1 ≤ k) (h20 : k ≤ 20) : PF Tryz.prog G 16 [ilst [iNum b]] (tabI ((munFs k k).map (·.map fI))).d := by
  refine PC.intro rfl Tryz.func16 rfl (Nat.le_of_ble_eq_true rfl) rfl ?_
  refine w_seq (w_reg (s_s rfl rfl (as_alloc0 (id := 0) rfl rfl (by exact (rfl : _ = [_, _, _, _]))) ?_))
  refine s_nil (n_n (w_seq (w_reg (s_q rfl rfl (q_mv (.inl rfl) (by first | exact is_im rfl | exact is_gs rfl | exact is_lit rfl | exact is_ms rfl | exact is_sc rfl | exact rfl)) ?_))))
  refine s_q rfl rfl (q_call rfl rfl rfl rfl (pf_in [iNum b] (by simp) (by intro v hv; rw [List.mem_singleton.1 hv]; rfl))) ?_
  refine s_q rfl rfl (q_call rfl rfl rfl rfl (pf_DoorMUNIT b k hb h1 h20)) ?_
  refine s_q rfl rfl (q_call rfl rfl rfl rfl (pf_outTab ((munFs k k).map (·.map fI)) (by rw [mun_same, List.length_map, munR_len]; omega) (by rw [mun_same]; intro r hr; obtain ⟨r0, h0, rfl⟩ := List.mem_map.1 hr; rw [List.length_map, munR_row h0]; omega))) ?_
  refine s_u rfl rfl (as_st rfl rfl (by first | exact (rfl : _ = D.agg [_, _, _, _]) | exact rfl) rfl (by exact rfl) (by exact rfl) (by exact Nat.le_of_ble_eq_true rfl) (by exact (rfl : _ = [_, _, _, _]))) ?_
  refine s_nil (n_n (w_ret ?_))
  -- end 0
  refine r_r (ra_cell (by exact (rfl : _ = some (D.agg [_, _, _, _]))) ra_nil) (by first | exact (rfl : _ = D.agg [_, _, _, _]) | exact rfl) (by exact rfl) sub_no ?_
  rfl

end Go.Proofs.YtpjckdhgefbonaaGreatDoor.Zz
