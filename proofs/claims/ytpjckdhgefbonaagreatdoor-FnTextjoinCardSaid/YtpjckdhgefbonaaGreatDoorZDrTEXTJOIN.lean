/- Walks of the functions, printed by program, and the logic behind them: each theorem says what one function or one step answers. -/
import Derived.Test.YtpjckdhgefbonaaGreatDoorZPrTEXTJOIN
import Derived.Test.YtpjckdhgefbonaaGreatDoorZWe
import Derived.Test.YtpjckdhgefbonaaGreatDoorZM
import Derived.Test.YtpjckdhgefbonaaGreatDoorZTx
namespace Go.Proofs.YtpjckdhgefbonaaGreatDoor.Zz
open Go.Abs
set_option maxRecDepth 100000
set_option linter.unusedVariables false
set_option linter.unusedSimpArgs false
set_option maxHeartbeats 4000000
variable {G : Nat → D}

-- pub-tallysheet/pub/excelize.innerArg
theorem pf_innerB (b : Nat) : PF Tryz.prog G 79 [(iBool b).d] (fBool (fcmp .neq .f64 b 0)).d := by
  refine PC.intro rfl Tryz.func79 rfl (Nat.le_of_ble_eq_true rfl) rfl ?_
  refine w_seq (w_reg (s_s rfl rfl (as_box0 (id := 0) rfl (by first | exact (rfl : _ = D.agg [_, _, _, _]) | exact rfl) (by exact rfl) rfl (by exact (rfl : _ = [_, _, _, _]))) ?_))
  refine s_s rfl rfl (as_alloc0 (id := 1) rfl rfl (by exact (rfl : _ = [_, _, _, _, _, _, _, _, _, _]))) ?_
  refine s_nil (n_n (w_seq (w_seq (w_reg (s_q rfl rfl (q_field rfl rfl (by exact rfl)) ?_)))))
  refine s_q rfl rfl (q_load rfl rfl (by exact (rfl : _ = some (D.sc _)))) ?_
  refine s_nil (n_n (w_block (w_seq (w_reg (s_q rfl rfl (q_eql rfl rfl rfl) ?_)))))
  refine s_q rfl rfl (q_mv (.inr rfl) (is_sc rfl)) ?_
  refine s_nil (n_n (w_ifF rfl (w_seq (w_reg (s_q rfl rfl (q_eql rfl rfl rfl) ?_)))))
  refine s_q rfl rfl (q_mv (.inr rfl) (is_sc rfl)) ?_
  refine s_nil (n_n (w_ifF rfl (w_seq (w_reg (s_q rfl rfl (q_eql rfl rfl rfl) ?_)))))
  refine s_q rfl rfl (q_mv (.inr rfl) (is_sc rfl)) ?_
  refine s_nil (n_n (w_ifT rfl (w_seq (w_reg (s_q rfl rfl (q_field rfl rfl (by exact rfl)) ?_)))))
  refine s_q rfl rfl (q_load rfl rfl (by exact (rfl : _ = some (D.sc _)))) ?_
  refine s_q rfl rfl (q_fcmp rfl rfl rfl rfl) ?_
  refine s_q rfl rfl (q_call rfl rfl rfl rfl (pf_newBool _)) ?_
  refine s_u rfl rfl (as_st rfl rfl (by first | exact (rfl : _ = D.agg [_, _, _, _, _, _, _, _, _, _]) | exact rfl) rfl (by exact rfl) (by exact rfl) (by exact Nat.le_of_ble_eq_true rfl) (by exact (rfl : _ = [_, _, _, _, _, _, _, _, _, _]))) ?_
  refine s_nil (n_n (w_ret (b_r (n_r ?_))))
  -- end 0
  refine r_r (ra_cell (by exact (rfl : _ = some (D.agg [_, _, _, _, _, _, _, _, _, _]))) ra_nil) (by first | exact (rfl : _ = D.agg [_, _, _, _, _, _, _, _, _, _]) | exact rfl) (by exact rfl) sub_no ?_
  rfl


theorem innB (c : Bool) : innF (iBool (FloatKind.f64.nearest (if c then 1 else 0))) = fBool c := by
  cases c
  · rw [innF_bool, show FloatKind.f64.nearest (if false = true then 1 else 0) = 0 from by decide, fcmp_ne, fcmp_eq fx_zero fx_zero]; rfl
  · rw [innF_bool, show FloatKind.f64.nearest (if true = true then 1 else 0) = 4607182418800017408 from by decide, fcmp_ne, fcmp_eq fx_one fx_zero, decide_eq_false (by have := unit_pos; omega)]; rfl


-- pub-tallysheet/pub/excelize.DoorTEXTJOIN
theorem pf_DoorTEXTJOIN (b : List UInt8) (c : Bool) (l : List (List UInt8)) (h20 : l.length ≤ 20) (hne : ¬ l = []) (hj : (joinT b c l).length ≤ 20000) (hp : ∀ x ∈ joinT b c l, x.toNat < 128) : PF Tryz.prog G 34 [ilst (iStr b :: iBool (FloatKind.f64.nearest (if c then 1 else 0)) :: l.map iStr)] (iStr (joinT b c l)).d := by
  refine PC.intro rfl Tryz.func34 rfl (Nat.le_of_ble_eq_true rfl) rfl ?_
  refine w_seq (w_reg (s_s rfl rfl (as_alloc0 (id := 0) rfl rfl (by exact (rfl : _ = [_, _, _, _]))) ?_))
  refine s_nil (n_n (w_seq (w_reg (s_o rfl rfl (ao_callH rfl rfl rfl rfl (pf_doorFuncs _) fun v3 Hv3 hv3 => ?_)))))
  obtain ⟨kf, rfl⟩ := hv3
  refine s_q rfl rfl (q_mv (.inl rfl) (by first | exact is_im rfl | exact is_gs rfl | exact is_lit rfl | exact is_ms rfl | exact is_sc rfl | exact rfl)) ?_
  refine s_o rfl rfl (ao_callH rfl rfl rfl rfl (pf_innerList _ (iStr b :: iBool (FloatKind.f64.nearest (if c then 1 else 0)) :: l.map iStr) (by simp only [List.length_cons, List.length_map]; omega) innF (fun v hv => by
    simp only [List.mem_cons, List.mem_map] at hv
    rcases hv with rfl | rfl | ⟨s, _, rfl⟩
    · exact pf_innerS b
    · exact pf_innerB _
    · exact pf_innerS s)) fun v5 Hv5 hv5 => ?_)
  obtain ⟨kl, es, rfl, hL5, hes⟩ := hv5
  have hes2 : es.map (·.2) = .ifc 79 (fStr b).d :: .ifc 79 (fBool c).d :: l.map fun s => .ifc 79 (fStr s).d := by
    rw [hes, List.map_cons, List.map_cons, innB, List.map_map]; rfl
  refine s_o rfl rfl (ao_callH rfl rfl rfl rfl (pf_TEXTJOIN _ kf kl es hL5 b c l hes2 h20 hne hj hp) fun v6 Hv6 hv6 => ?_)
  obtain rfl := hv6
  refine s_q rfl rfl (q_call rfl rfl rfl rfl (pf_doorS _)) ?_
  refine s_u rfl rfl (as_st rfl rfl (by first | exact (rfl : _ = D.agg [_, _, _, _]) | exact rfl) rfl (by exact rfl) (by exact rfl) (by exact Nat.le_of_ble_eq_true rfl) (by exact (rfl : _ = [_, _, _, _]))) ?_
  refine s_nil (n_n (w_ret ?_))
  -- end 0
  refine r_r (ra_cell (by exact (rfl : _ = some (D.agg [_, _, _, _]))) ra_nil) (by first | exact (rfl : _ = D.agg [_, _, _, _]) | exact rfl) (by exact rfl) sub_no ?_
  rfl


-- pub-tallysheet/impl.TEXTJOIN
theorem pf_ImplTEXTJOIN (b : List UInt8) (c : Bool) (l : List (List UInt8)) (h20 : l.length ≤ 20) (hne : ¬ l = []) (hj : (joinT b c l).length ≤ 20000) (hp : ∀ x ∈ joinT b c l, x.toNat < 128) : PF Tryz.prog G 12 [ilst (iStr b :: iBool (FloatKind.f64.nearest (if c then 1 else 0)) :: l.map iStr)] (iStr (joinT b c l)).d := by
  refine PC.intro rfl Tryz.func12 rfl (Nat.le_of_ble_eq_true rfl) rfl ?_
  refine w_seq (w_reg (s_s rfl rfl (as_alloc0 (id := 0) rfl rfl (by exact (rfl : _ = [_, _, _, _]))) ?_))
  refine s_nil (n_n (w_seq (w_reg (s_q rfl rfl (q_mv (.inl rfl) (by first | exact is_im rfl | exact is_gs rfl | exact is_lit rfl | exact is_ms rfl | exact is_sc rfl | exact rfl)) ?_))))
  refine s_q rfl rfl (q_call rfl rfl rfl rfl (pf_in (iStr b :: iBool (FloatKind.f64.nearest (if c then 1 else 0)) :: l.map iStr) (by simp only [List.length_cons, List.length_map]; omega) (by intro v hv; simp only [List.mem_cons, List.mem_map] at hv; rcases hv with rfl | rfl | ⟨s, _, rfl⟩ <;> rfl))) ?_
  refine s_q rfl rfl (q_call rfl rfl rfl rfl (pf_DoorTEXTJOIN b c l h20 hne hj hp)) ?_
  refine s_q rfl rfl (q_call rfl rfl rfl rfl (pf_out _ _ _)) ?_
  refine s_u rfl rfl (as_st rfl rfl (by first | exact (rfl : _ = D.agg [_, _, _, _]) | exact rfl) rfl (by exact rfl) (by exact rfl) (by exact Nat.le_of_ble_eq_true rfl) (by exact (rfl : _ = [_, _, _, _]))) ?_
  refine s_nil (n_n (w_ret ?_))
  -- end 0
  refine r_r (ra_cell (by exact (rfl : _ = some (D.agg [_, _, _, _]))) ra_nil) (by first | exact (rfl : _ = D.agg [_, _, _, _]) | exact rfl) (by exact rfl) sub_no ?_
  rfl

end Go.Proofs.YtpjckdhgefbonaaGreatDoor.Zz
