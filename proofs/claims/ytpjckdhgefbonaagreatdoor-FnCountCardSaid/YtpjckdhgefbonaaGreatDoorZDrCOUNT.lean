/- Walks of the functions, printed by program, and the logic behind them: each theorem says what one function or one step answers. -/
import Derived.Test.YtpjckdhgefbonaaGreatDoorZPc
import Derived.Test.YtpjckdhgefbonaaGreatDoorZPl
import Derived.Test.YtpjckdhgefbonaaGreatDoorZIn
import Derived.Test.YtpjckdhgefbonaaGreatDoorZWe
namespace Go.Proofs.YtpjckdhgefbonaaGreatDoor.Zz
open Go.Abs
set_option maxRecDepth 100000
set_option linter.unusedVariables false
set_option linter.unusedSimpArgs false
set_option maxHeartbeats 4000000
variable {G : Nat → D}

-- pub-tallysheet/pub/excelize.newBoolFormulaArg
theorem pf_newBool (c : Bool) : PF Tryz.prog G 87 [bl c] (fBool c).d := by
  refine PC.intro rfl Tryz.func87 rfl (Nat.le_of_ble_eq_true rfl) rfl ?_
  refine w_seq (w_reg (s_s rfl rfl (as_alloc0 (id := 0) rfl rfl (by exact (rfl : _ = [_, _, _, _, _, _, _, _, _, _]))) ?_))
  refine s_nil (n_n (w_seq (w_reg (s_q rfl rfl (q_mv (.inr rfl) (is_sc rfl)) ?_))))
  refine s_nil (n_n (w_seq (w_seq (w_reg (s_q rfl rfl (q_mv (.inl rfl) (is_sc rfl)) ?_)))))
  refine s_nil (n_n (w_if (is_scb rfl) (fun h4 => ?_) (fun h4 => ?_)))
  · refine w_reg (s_q rfl rfl (q_mv (.inr rfl) (is_sc rfl)) ?_)
    refine s_nil (n_n (w_seq (w_reg (s_q rfl rfl (q_mv (.inl rfl) (is_sc rfl)) ?_))))
    refine s_q rfl rfl (q_build rfl (pt_cons (is_sc rfl) (pt_cons (is_sc rfl) (pt_cons (is_sc rfl) pt_nil))) (by exact (rfl : _ = some [_, _, _, _, _, _, _, _, _, _]))) ?_
    refine s_u rfl rfl (as_st rfl rfl (by first | exact (rfl : _ = D.agg [_, _, _, _, _, _, _, _, _, _]) | exact rfl) rfl (by exact rfl) (by exact rfl) (by exact Nat.le_of_ble_eq_true rfl) (by exact (rfl : _ = [_, _, _, _, _, _, _, _, _, _]))) ?_
    refine s_nil (n_n (w_ret ?_))
    -- end 0
    refine r_r (ra_cell (by exact (rfl : _ = some (D.agg [_, _, _, _, _, _, _, _, _, _]))) ra_nil) (by first | exact (rfl : _ = D.agg [_, _, _, _, _, _, _, _, _, _]) | exact rfl) (by exact rfl) sub_no ?_
    obtain rfl : c = true := h4
    rfl
  · refine w_skip (n_n (w_seq (w_reg (s_q rfl rfl (q_mv (.inl rfl) (is_sc rfl)) ?_))))
    refine s_q rfl rfl (q_build rfl (pt_cons (is_sc rfl) (pt_cons (is_sc rfl) (pt_cons (is_sc rfl) pt_nil))) (by exact (rfl : _ = some [_, _, _, _, _, _, _, _, _, _]))) ?_
    refine s_u rfl rfl (as_st rfl rfl (by first | exact (rfl : _ = D.agg [_, _, _, _, _, _, _, _, _, _]) | exact rfl) rfl (by exact rfl) (by exact rfl) (by exact Nat.le_of_ble_eq_true rfl) (by exact (rfl : _ = [_, _, _, _, _, _, _, _, _, _]))) ?_
    refine s_nil (n_n (w_ret ?_))
    -- end 1
    refine r_r (ra_cell (by exact (rfl : _ = some (D.agg [_, _, _, _, _, _, _, _, _, _]))) ra_nil) (by first | exact (rfl : _ = D.agg [_, _, _, _, _, _, _, _, _, _]) | exact rfl) (by exact rfl) sub_no ?_
    obtain rfl : c = false := h4
    rfl


-- pub-tallysheet/pub/excelize.newEmptyFormulaArg
theorem pf_newEmpty  : PF Tryz.prog G 166 [] fEmpty.d := by
  refine PC.intro rfl Tryz.func166 rfl (Nat.le_of_ble_eq_true rfl) rfl ?_
  refine w_seq (w_reg (s_s rfl rfl (as_alloc0 (id := 0) rfl rfl (by exact (rfl : _ = [_, _, _, _, _, _, _, _, _, _]))) ?_))
  refine s_nil (n_n (w_seq (w_reg (s_q rfl rfl (q_build rfl (pt_cons (is_sc rfl) pt_nil) (by exact (rfl : _ = some [_, _, _, _, _, _, _, _, _, _]))) ?_))))
  refine s_u rfl rfl (as_st rfl rfl (by first | exact (rfl : _ = D.agg [_, _, _, _, _, _, _, _, _, _]) | exact rfl) rfl (by exact rfl) (by exact rfl) (by exact Nat.le_of_ble_eq_true rfl) (by exact (rfl : _ = [_, _, _, _, _, _, _, _, _, _]))) ?_
  refine s_nil (n_n (w_ret ?_))
  -- end 0
  refine r_r (ra_cell (by exact (rfl : _ = some (D.agg [_, _, _, _, _, _, _, _, _, _]))) ra_nil) (by first | exact (rfl : _ = D.agg [_, _, _, _, _, _, _, _, _, _]) | exact rfl) (by exact rfl) sub_no ?_
  rfl


-- pub-tallysheet/pub/excelize.innerArg
theorem pf_innerB (b : Nat) : PF Tryz.prog G 79 [(iBool b).d] (fBool (fcmp .neq .f64 b 0)).d := by
  refine PC.intro rfl Tryz.func79 rfl (Nat.le_of_ble_eq_true rfl) rfl ?_
  refine w_seq (w_reg (s_s rfl rfl (as_box0 (id := 0) rfl (by first | exact (rfl : _ = D.agg [_, _, _, _]) | exact rfl) (by exact rfl) rfl (by exact (rfl : _ = [_, _, _, _]))) ?_))
  refine s_s rfl rfl (as_alloc0 (id := 1) rfl rfl (by exact (rfl : _ = [_, _, _, _, _, _, _, _, _, _]))) ?_
  refine s_nil (n_n (w_seq (w_seq (w_reg (s_q rfl rfl (q_field rfl rfl (by exact rfl)) ?_)))))
  refine s_q rfl rfl (q_load rfl rfl (by exact (rfl : _ = some (D.sc _)))) ?_
  refine s_nil (n_n (w_block (w_seq (w_reg (s_q rfl rfl (q_eql rfl rfl rfl) ?_)))))
  refine s_q rfl rfl (q_mv (.inr rfl) (is_sc rfl)) ?_
  refine s_nil (n_n (w_ifF rfl (w_seq (w_reg (s_q rfl rfl (q_eql rfl rfl rfl) ?_)))))
  refine s_q rfl rfl (q_mv (.inr rfl) (is_sc rfl)) ?_
  refine s_nil (n_n (w_ifF rfl (w_seq (w_reg (s_q rfl rfl (q_eql rfl rfl rfl) ?_)))))
  refine s_q rfl rfl (q_mv (.inr rfl) (is_sc rfl)) ?_
  refine s_nil (n_n (w_ifT rfl (w_seq (w_reg (s_q rfl rfl (q_field rfl rfl (by exact rfl)) ?_)))))
  refine s_q rfl rfl (q_load rfl rfl (by exact (rfl : _ = some (D.sc _)))) ?_
  refine s_q rfl rfl (q_fcmp rfl rfl rfl rfl) ?_
  refine s_q rfl rfl (q_call rfl rfl rfl rfl (pf_newBool _)) ?_
  refine s_u rfl rfl (as_st rfl rfl (by first | exact (rfl : _ = D.agg [_, _, _, _, _, _, _, _, _, _]) | exact rfl) rfl (by exact rfl) (by exact rfl) (by exact Nat.le_of_ble_eq_true rfl) (by exact (rfl : _ = [_, _, _, _, _, _, _, _, _, _]))) ?_
  refine s_nil (n_n (w_ret (b_r (n_r ?_))))
  -- end 0
  refine r_r (ra_cell (by exact (rfl : _ = some (D.agg [_, _, _, _, _, _, _, _, _, _]))) ra_nil) (by first | exact (rfl : _ = D.agg [_, _, _, _, _, _, _, _, _, _]) | exact rfl) (by exact rfl) sub_no ?_
  rfl


-- pub-tallysheet/pub/excelize.innerArg
theorem pf_inner0  : PF Tryz.prog G 79 [iNone.d] fEmpty.d := by
  refine PC.intro rfl Tryz.func79 rfl (Nat.le_of_ble_eq_true rfl) rfl ?_
  refine w_seq (w_reg (s_s rfl rfl (as_box0 (id := 0) rfl (by first | exact (rfl : _ = D.agg [_, _, _, _]) | exact rfl) (by exact rfl) rfl (by exact (rfl : _ = [_, _, _, _]))) ?_))
  refine s_s rfl rfl (as_alloc0 (id := 1) rfl rfl (by exact (rfl : _ = [_, _, _, _, _, _, _, _, _, _]))) ?_
  refine s_nil (n_n (w_seq (w_seq (w_reg (s_q rfl rfl (q_field rfl rfl (by exact rfl)) ?_)))))
  refine s_q rfl rfl (q_load rfl rfl (by exact (rfl : _ = some (D.sc _)))) ?_
  refine s_nil (n_n (w_block (w_seq (w_reg (s_q rfl rfl (q_eql rfl rfl rfl) ?_)))))
  refine s_q rfl rfl (q_mv (.inr rfl) (is_sc rfl)) ?_
  refine s_nil (n_n (w_ifF rfl (w_seq (w_reg (s_q rfl rfl (q_eql rfl rfl rfl) ?_)))))
  refine s_q rfl rfl (q_mv (.inr rfl) (is_sc rfl)) ?_
  refine s_nil (n_n (w_ifF rfl (w_seq (w_reg (s_q rfl rfl (q_eql rfl rfl rfl) ?_)))))
  refine s_q rfl rfl (q_mv (.inr rfl) (is_sc rfl)) ?_
  refine s_nil (n_n (w_ifF rfl (w_seq (w_reg (s_q rfl rfl (q_eql rfl rfl rfl) ?_)))))
  refine s_q rfl rfl (q_mv (.inr rfl) (is_sc rfl)) ?_
  refine s_nil (n_n (w_ifF rfl (w_seq (w_reg (s_q rfl rfl (q_eql rfl rfl rfl) ?_)))))
  refine s_q rfl rfl (q_mv (.inr rfl) (is_sc rfl)) ?_
  refine s_nil (n_n (w_ifF rfl (w_skip (b_n (n_n (w_seq (w_reg (s_q rfl rfl (q_call rfl rfl rfl rfl pf_newEmpty) ?_))))))))
  refine s_u rfl rfl (as_st rfl rfl (by first | exact (rfl : _ = D.agg [_, _, _, _, _, _, _, _, _, _]) | exact rfl) rfl (by exact rfl) (by exact rfl) (by exact Nat.le_of_ble_eq_true rfl) (by exact (rfl : _ = [_, _, _, _, _, _, _, _, _, _]))) ?_
  refine s_nil (n_n (w_ret ?_))
  -- end 0
  refine r_r (ra_cell (by exact (rfl : _ = some (D.agg [_, _, _, _, _, _, _, _, _, _]))) ra_nil) (by first | exact (rfl : _ = D.agg [_, _, _, _, _, _, _, _, _, _]) | exact rfl) (by exact rfl) sub_no ?_
  rfl


-- pub-tallysheet/laws.of
theorem pf_of0  : PF Tryz.prog G 49 [noV.d] iNone.d := by
  refine PC.intro rfl Tryz.func49 rfl (Nat.le_of_ble_eq_true rfl) rfl ?_
  refine w_seq (w_reg (s_s rfl rfl (as_box0 (id := 0) rfl (by first | exact (rfl : _ = D.agg [_, _, _, _, _]) | exact rfl) (by exact rfl) rfl (by exact (rfl : _ = [_, _, _, _, _]))) ?_))
  refine s_s rfl rfl (as_alloc0 (id := 1) rfl rfl (by exact (rfl : _ = [_, _, _, _]))) ?_
  refine s_nil (n_n (w_seq (w_reg (s_q rfl rfl (q_field rfl rfl (by exact rfl)) ?_))))
  refine s_q rfl rfl (q_load rfl rfl (by exact (rfl : _ = some (D.sc _)))) ?_
  refine s_q rfl rfl (q_field rfl rfl (by exact rfl)) ?_
  refine s_q rfl rfl (q_load rfl rfl (by exact (rfl : _ = some (D.sc _)))) ?_
  refine s_q rfl rfl (q_build rfl (pt_cons (is_sc rfl) (pt_cons (is_sc rfl) pt_nil)) (by exact (rfl : _ = some [_, _, _, _]))) ?_
  refine s_s rfl rfl (as_alloc0 (id := 2) rfl rfl (by exact (rfl : _ = [_, _, _, _]))) ?_
  refine s_u rfl rfl (as_st rfl rfl (by first | exact (rfl : _ = D.agg [_, _, _, _]) | exact rfl) rfl (by exact rfl) (by exact rfl) (by exact Nat.le_of_ble_eq_true rfl) (by exact (rfl : _ = [_, _, _, _]))) ?_
  refine s_nil (n_n (w_seq (w_seq (w_reg (s_q rfl rfl (q_field rfl rfl (by exact rfl)) ?_)))))
  refine s_q rfl rfl (q_load rfl rfl (by exact (rfl : _ = some (D.sc _)))) ?_
  refine s_nil (n_n (w_block (w_seq (w_reg (s_q rfl rfl (q_eql rfl rfl rfl) ?_)))))
  refine s_q rfl rfl (q_mv (.inr rfl) (is_sc rfl)) ?_
  refine s_nil (n_n (w_ifF rfl (w_seq (w_reg (s_q rfl rfl (q_eql rfl rfl rfl) ?_)))))
  refine s_q rfl rfl (q_mv (.inr rfl) (is_sc rfl)) ?_
  refine s_nil (n_n (w_ifF rfl (w_seq (w_reg (s_q rfl rfl (q_eql rfl rfl rfl) ?_)))))
  refine s_q rfl rfl (q_mv (.inr rfl) (is_sc rfl)) ?_
  refine s_nil (n_n (w_ifF rfl (w_skip (b_n (n_n (w_seq (w_reg (s_q rfl rfl (q_load rfl rfl (by exact (rfl : _ = some (D.agg [_, _, _, _])))) ?_))))))))
  refine s_u rfl rfl (as_st rfl rfl (by first | exact (rfl : _ = D.agg [_, _, _, _]) | exact rfl) rfl (by exact rfl) (by exact rfl) (by exact Nat.le_of_ble_eq_true rfl) (by exact (rfl : _ = [_, _, _, _]))) ?_
  refine s_nil (n_n (w_ret ?_))
  -- end 0
  refine r_r (ra_cell (by exact (rfl : _ = some (D.agg [_, _, _, _]))) ra_nil) (by first | exact (rfl : _ = D.agg [_, _, _, _]) | exact rfl) (by exact rfl) sub_no ?_
  rfl


-- pub-tallysheet/laws.of
theorem pf_ofB (b : Bool) : PF Tryz.prog G 49 [(boolV b).d] (iBool (FloatKind.f64.nearest (if b then 1 else 0))).d := by
  refine PC.intro rfl Tryz.func49 rfl (Nat.le_of_ble_eq_true rfl) rfl ?_
  refine w_seq (w_reg (s_s rfl rfl (as_box0 (id := 0) rfl (by first | exact (rfl : _ = D.agg [_, _, _, _, _]) | exact rfl) (by exact rfl) rfl (by exact (rfl : _ = [_, _, _, _, _]))) ?_))
  refine s_s rfl rfl (as_alloc0 (id := 1) rfl rfl (by exact (rfl : _ = [_, _, _, _]))) ?_
  refine s_nil (n_n (w_seq (w_reg (s_q rfl rfl (q_field rfl rfl (by exact rfl)) ?_))))
  refine s_q rfl rfl (q_load rfl rfl (by exact (rfl : _ = some (D.sc _)))) ?_
  refine s_q rfl rfl (q_field rfl rfl (by exact rfl)) ?_
  refine s_q rfl rfl (q_load rfl rfl (by exact (rfl : _ = some (D.sc _)))) ?_
  refine s_q rfl rfl (q_build rfl (pt_cons (is_sc rfl) (pt_cons (is_sc rfl) pt_nil)) (by exact (rfl : _ = some [_, _, _, _]))) ?_
  refine s_s rfl rfl (as_alloc0 (id := 2) rfl rfl (by exact (rfl : _ = [_, _, _, _]))) ?_
  refine s_u rfl rfl (as_st rfl rfl (by first | exact (rfl : _ = D.agg [_, _, _, _]) | exact rfl) rfl (by exact rfl) (by exact rfl) (by exact Nat.le_of_ble_eq_true rfl) (by exact (rfl : _ = [_, _, _, _]))) ?_
  refine s_nil (n_n (w_seq (w_seq (w_reg (s_q rfl rfl (q_field rfl rfl (by exact rfl)) ?_)))))
  refine s_q rfl rfl (q_load rfl rfl (by exact (rfl : _ = some (D.sc _)))) ?_
  refine s_nil (n_n (w_block (w_seq (w_reg (s_q rfl rfl (q_eql rfl rfl rfl) ?_)))))
  refine s_q rfl rfl (q_mv (.inr rfl) (is_sc rfl)) ?_
  refine s_nil (n_n (w_ifF rfl (w_seq (w_reg (s_q rfl rfl (q_eql rfl rfl rfl) ?_)))))
  refine s_q rfl rfl (q_mv (.inr rfl) (is_sc rfl)) ?_
  refine s_nil (n_n (w_ifT rfl (w_reg (s_q rfl rfl (q_field rfl rfl (by exact rfl)) ?_))))
  refine s_q rfl rfl (q_load rfl rfl (by exact (rfl : _ = some (D.sc _)))) ?_
  refine s_q rfl rfl (q_cif rfl rfl) ?_
  refine s_q rfl rfl (q_field rfl rfl (by exact rfl)) ?_
  refine s_u rfl rfl (as_st rfl rfl (is_sc rfl) rfl (by exact rfl) (by exact rfl) (by exact Nat.le_of_ble_eq_true rfl) (by exact (rfl : _ = [_, _, _, _]))) ?_
  refine s_nil (b_n (n_n (w_seq (w_reg (s_q rfl rfl (q_load rfl rfl (by exact (rfl : _ = some (D.agg [_, _, _, _])))) ?_)))))
  refine s_u rfl rfl (as_st rfl rfl (by first | exact (rfl : _ = D.agg [_, _, _, _]) | exact rfl) rfl (by exact rfl) (by exact rfl) (by exact Nat.le_of_ble_eq_true rfl) (by exact (rfl : _ = [_, _, _, _]))) ?_
  refine s_nil (n_n (w_ret ?_))
  -- end 0
  refine r_r (ra_cell (by exact (rfl : _ = some (D.agg [_, _, _, _]))) ra_nil) (by first | exact (rfl : _ = D.agg [_, _, _, _]) | exact rfl) (by exact rfl) sub_no ?_
  rfl


theorem pf_of2 {v : V} (h : Sort2 v) : PF Tryz.prog G 49 [v.d] (ivX v).d := by
  cases h with
  | none => exact pf_of0
  | num n d x hq hx => exact pf_ofN n d _ hq
  | txt s => exact pf_ofS s
  | bool c => exact pf_ofB c
theorem pf_inn2 {v : V} (h : Sort2 v) : PF Tryz.prog G 79 [(ivX v).d] (innX (ivX v)).d := by
  cases h with
  | none => exact pf_inner0
  | num n d x hq hx => exact pf_innerN _ _ hx
  | txt s => exact pf_innerS s
  | bool c => exact pf_innerB _


-- pub-tallysheet/pub/excelize.DoorCOUNT
theorem pf_DoorCOUNT (rows : List (List IU)) (ivs : List IV) (hl : ivs.length < 1000) (hrl : rows.length < 1000000000) (hrne : ¬ rows = []) (hrr : ∀ r ∈ rows, r.length < 1000000000) (hcell : ∀ r ∈ rows, ∀ u ∈ r, PF Tryz.prog G 79 [(IU.v u).d] (innX (IU.v u)).d) (hf : ∀ v ∈ ivs, PF Tryz.prog G 79 [v.d] (innX v).d) (hF : ((rows.map (·.map fun u => innX (IU.v u))).flatten).length < 900000000) (hc : ∀ f ∈ (rows.map (·.map fun u => innX (IU.v u))).flatten, IsCell f) (hs : ∀ v ∈ ivs, (∃ b, innX v = fNum b) ∨ ∃ c, innX v = fBool c) (hv : ∀ v ∈ ivs, v.rows = []) : PF Tryz.prog G 39 [ilst (tabI rows :: ivs)] (iNum (clean (FloatKind.f64.nearest ((cFs (rows.map (·.map fun u => innX (IU.v u))).flatten + ivs.length : Nat) : Int)))).d := by
  refine PC.intro rfl Tryz.func39 rfl (Nat.le_of_ble_eq_true rfl) rfl ?_
  refine w_seq (w_reg (s_s rfl rfl (as_alloc0 (id := 0) rfl rfl (by exact (rfl : _ = [_, _, _, _]))) ?_))
  refine s_nil (n_n (w_seq (w_reg (s_o rfl rfl (ao_callH rfl rfl rfl rfl (pf_doorFuncs _) fun v3 Hv3 hv3 => ?_)))))
  obtain ⟨kf, rfl⟩ := hv3
  refine s_q rfl rfl (q_mv (.inl rfl) (by first | exact is_im rfl | exact is_gs rfl | exact is_lit rfl | exact is_ms rfl | exact is_sc rfl | exact rfl)) ?_
  refine s_o rfl rfl (ao_callH rfl rfl rfl rfl (pf_innerListT _ rows ivs (by omega) hrl hrne hrr hcell hf) fun v5 Hv5 hv5 => ?_)
  obtain ⟨kl, es, kr, kx, rg, rfl, hL5, hes, hT⟩ := hv5
  refine s_o rfl rfl (ao_callH rfl rfl rfl rfl (pf_COUNT _ kf kl es hL5 _ kr kx rg _ hes hT (by rw [List.length_map]; exact hrl) hF hc (by intro f hfm; obtain ⟨v, hvm, rfl⟩ := List.mem_map.1 hfm; exact hs v hvm) (by rw [List.length_map]; exact hl)) fun v6 Hv6 hv6 => ?_)
  rw [List.length_map] at hv6
  obtain rfl := hv6
  refine s_q rfl rfl (q_call rfl rfl rfl rfl (pf_doorN _)) ?_
  refine s_u rfl rfl (as_st rfl rfl (by first | exact (rfl : _ = D.agg [_, _, _, _]) | exact rfl) rfl (by exact rfl) (by exact rfl) (by exact Nat.le_of_ble_eq_true rfl) (by exact (rfl : _ = [_, _, _, _]))) ?_
  refine s_nil (n_n (w_ret ?_))
  -- end 0
  refine r_r (ra_cell (by exact (rfl : _ = some (D.agg [_, _, _, _]))) ra_nil) (by first | exact (rfl : _ = D.agg [_, _, _, _]) | exact rfl) (by exact rfl) sub_no ?_
  rfl


-- pub-tallysheet/impl.COUNT
theorem pf_ImplCOUNT (rows : List (List IU)) (ivs : List IV) (hl : ivs.length < 1000) (hrl : rows.length < 1000000000) (hrne : ¬ rows = []) (hrr : ∀ r ∈ rows, r.length < 1000000000) (hcell : ∀ r ∈ rows, ∀ u ∈ r, PF Tryz.prog G 79 [(IU.v u).d] (innX (IU.v u)).d) (hf : ∀ v ∈ ivs, PF Tryz.prog G 79 [v.d] (innX v).d) (hF : ((rows.map (·.map fun u => innX (IU.v u))).flatten).length < 900000000) (hc : ∀ f ∈ (rows.map (·.map fun u => innX (IU.v u))).flatten, IsCell f) (hs : ∀ v ∈ ivs, (∃ b, innX v = fNum b) ∨ ∃ c, innX v = fBool c) (hv : ∀ v ∈ ivs, v.rows = []) : PF Tryz.prog G 20 [ilst (tabI rows :: ivs)] (iNum (clean (FloatKind.f64.nearest ((cFs (rows.map (·.map fun u => innX (IU.v u))).flatten + ivs.length : Nat) : Int)))).d := by
  refine PC.intro rfl Tryz.func20 rfl (Nat.le_of_ble_eq_true rfl) rfl ?_
  refine w_seq (w_reg (s_s rfl rfl (as_alloc0 (id := 0) rfl rfl (by exact (rfl : _ = [_, _, _, _]))) ?_))
  refine s_nil (n_n (w_seq (w_reg (s_q rfl rfl (q_mv (.inl rfl) (by first | exact is_im rfl | exact is_gs rfl | exact is_lit rfl | exact is_ms rfl | exact is_sc rfl | exact rfl)) ?_))))
  refine s_q rfl rfl (q_call rfl rfl rfl rfl (pf_inG (tabI rows :: ivs) (by simp only [List.length_cons]; omega) (by intro v hvm; rcases List.mem_cons.1 hvm with rfl | hvm; exact ⟨hrl, hrr⟩; rw [hv v hvm]; exact ⟨by simp, by simp⟩))) ?_
  refine s_q rfl rfl (q_call rfl rfl rfl rfl (pf_DoorCOUNT rows ivs hl hrl hrne hrr hcell hf hF hc hs hv)) ?_
  refine s_q rfl rfl (q_call rfl rfl rfl rfl (pf_out _ _ _)) ?_
  refine s_u rfl rfl (as_st rfl rfl (by first | exact (rfl : _ = D.agg [_, _, _, _]) | exact rfl) rfl (by exact rfl) (by exact rfl) (by exact Nat.le_of_ble_eq_true rfl) (by exact (rfl : _ = [_, _, _, _]))) ?_
  refine s_nil (n_n (w_ret ?_))
  -- end 0
  refine r_r (ra_cell (by exact (rfl : _ = some (D.agg [_, _, _, _]))) ra_nil) (by first | exact (rfl : _ = D.agg [_, _, _, _]) | exact rfl) (by exact rfl) sub_no ?_
  rfl

end Go.Proofs.YtpjckdhgefbonaaGreatDoor.Zz
