/- Walks of the functions, printed by program, and the logic behind them: each theorem says what one function or one step answers. -/
import Derived.Test.YteghibfaiifdoaaGreatDoorZSpIF
import Derived.Test.YteghibfaiifdoaaGreatDoorZPrIF
import Derived.Test.YteghibfaiifdoaaGreatDoorZM
import Derived.Test.YteghibfaiifdoaaGreatDoorZTx
namespace Go.Proofs.YteghibfaiifdoaaGreatDoor.Zz
open Go.Abs
set_option maxRecDepth 100000
set_option linter.unusedVariables false
set_option linter.unusedSimpArgs false
set_option maxHeartbeats 4000000
variable {G : Nat → D}

-- pub-tallysheet/laws.argMade
theorem pf_argMade (a n : Int) (s : List UInt8) : PF Tryz.prog G 17 [.sc (.int .u8 a), i64 n, st s] (madeV a n s).d := by
  refine PC.intro rfl Tryz.func17 rfl (Nat.le_of_ble_eq_true rfl) rfl ?_
  refine w_seq (w_reg (s_s rfl rfl (as_alloc0 (id := 0) rfl rfl (by exact (rfl : _ = [_, _, _, _, _]))) ?_))
  refine s_nil (n_n (w_seq (w_reg (s_q rfl rfl (q_bs rfl (pt_cons (is_sc rfl) (pt_cons (is_sc rfl) (pt_cons (is_sc rfl) (pt_cons (is_sc rfl) (pt_cons (is_sc rfl) (pt_cons (is_sc rfl) (pt_cons (is_sc rfl) pt_nil))))))) (by decide) (by decide) (by exact (rfl : _ = some [_, _, _, _, _, _, _])) (by exact (rfl : _ = [_, _, _, _, _, _, _])) (by exact rfl) (by exact rfl)) ?_))))
  refine s_q rfl rfl (q_mv (.inr rfl) (by first | exact is_im rfl | exact is_gs rfl | exact is_lit rfl | exact is_ms rfl | exact is_sc rfl | exact rfl)) ?_
  refine s_nil (n_n (w_seq (w_seq (w_reg (s_q rfl rfl (q_mv (.inl rfl) (is_sc rfl)) ?_)))))
  refine s_q rfl rfl (q_rem rfl rfl rfl (by decide)) ?_
  refine s_nil (n_n (w_block (w_seq (w_reg (s_q rfl rfl (q_eql rfl rfl rfl) ?_)))))
  refine s_q rfl rfl (q_mv (.inr rfl) (is_sc rfl)) ?_
  refine s_nil (n_n (w_if (is_scb rfl) (fun h11 => ?_) (fun h11 => ?_)))
  · have g11 := of_decide_eq_true h11
    refine w_seq (w_reg (s_q rfl rfl (q_build rfl pt_nil (by exact (rfl : _ = some [_, _, _, _, _]))) ?_))
    refine s_u rfl rfl (as_st rfl rfl (by first | exact (rfl : _ = D.agg [_, _, _, _, _]) | exact rfl) rfl (by exact rfl) (by exact rfl) (by exact Nat.le_of_ble_eq_true rfl) (by exact (rfl : _ = [_, _, _, _, _]))) ?_
    refine s_nil (n_n (w_ret (b_r (n_r ?_))))
    -- end 0
    refine r_r (ra_cell (by exact (rfl : _ = some (D.agg [_, _, _, _, _]))) ra_nil) (by first | exact (rfl : _ = D.agg [_, _, _, _, _]) | exact rfl) (by exact rfl) sub_no ?_
    rw [show madeV a n s = noV by unfold madeV; simp_all]; rfl
  · have g11 := of_decide_eq_false h11
    refine w_seq (w_reg (s_q rfl rfl (q_eql rfl rfl rfl) ?_))
    refine s_q rfl rfl (q_mv (.inr rfl) (is_sc rfl)) ?_
    refine s_nil (n_n (w_if (is_scb rfl) (fun h14 => ?_) (fun h14 => ?_)))
    · have g14 := of_decide_eq_true h14
      refine w_seq (w_reg (s_q rfl rfl (q_mv (.inl rfl) (is_sc rfl)) ?_))
      refine s_q rfl rfl (q_call rfl rfl rfl rfl (pf_whole _)) ?_
      refine s_u rfl rfl (as_st rfl rfl (by first | exact (rfl : _ = D.agg [_, _, _, _, _]) | exact rfl) rfl (by exact rfl) (by exact rfl) (by exact Nat.le_of_ble_eq_true rfl) (by exact (rfl : _ = [_, _, _, _, _]))) ?_
      refine s_nil (n_n (w_ret (b_r (n_r ?_))))
      -- end 1
      refine r_r (ra_cell (by exact (rfl : _ = some (D.agg [_, _, _, _, _]))) ra_nil) (by first | exact (rfl : _ = D.agg [_, _, _, _, _]) | exact rfl) (by exact rfl) sub_no ?_
      rw [show madeV a n s = intV n by unfold madeV; simp_all]; rfl
    · have g14 := of_decide_eq_false h14
      refine w_seq (w_reg (s_q rfl rfl (q_eql rfl rfl rfl) ?_))
      refine s_q rfl rfl (q_mv (.inr rfl) (is_sc rfl)) ?_
      refine s_nil (n_n (w_if (is_scb rfl) (fun h18 => ?_) (fun h18 => ?_)))
      · have g18 := of_decide_eq_true h18
        refine w_seq (w_reg (s_q rfl rfl (q_mv (.inl rfl) (is_sc rfl)) ?_))
        refine s_q rfl rfl (q_call rfl rfl rfl rfl (pf_str _)) ?_
        refine s_u rfl rfl (as_st rfl rfl (by first | exact (rfl : _ = D.agg [_, _, _, _, _]) | exact rfl) rfl (by exact rfl) (by exact rfl) (by exact Nat.le_of_ble_eq_true rfl) (by exact (rfl : _ = [_, _, _, _, _]))) ?_
        refine s_nil (n_n (w_ret (b_r (n_r ?_))))
        -- end 2
        refine r_r (ra_cell (by exact (rfl : _ = some (D.agg [_, _, _, _, _]))) ra_nil) (by first | exact (rfl : _ = D.agg [_, _, _, _, _]) | exact rfl) (by exact rfl) sub_no ?_
        rw [show madeV a n s = strV s by unfold madeV; simp_all]; rfl
      · have g18 := of_decide_eq_false h18
        refine w_seq (w_reg (s_q rfl rfl (q_eql rfl rfl rfl) ?_))
        refine s_q rfl rfl (q_mv (.inr rfl) (is_sc rfl)) ?_
        refine s_nil (n_n (w_if (is_scb rfl) (fun h22 => ?_) (fun h22 => ?_)))
        · have g22 := of_decide_eq_true h22
          refine w_seq (w_reg (s_q rfl rfl (q_mv (.inl rfl) (is_sc rfl)) ?_))
          refine s_q rfl rfl (q_rem rfl rfl rfl (by decide)) ?_
          refine s_q rfl rfl (q_neq rfl rfl rfl) ?_
          refine s_q rfl rfl (q_call rfl rfl rfl rfl (pf_bool _)) ?_
          refine s_u rfl rfl (as_st rfl rfl (by first | exact (rfl : _ = D.agg [_, _, _, _, _]) | exact rfl) rfl (by exact rfl) (by exact rfl) (by exact Nat.le_of_ble_eq_true rfl) (by exact (rfl : _ = [_, _, _, _, _]))) ?_
          refine s_nil (n_n (w_ret (b_r (n_r ?_))))
          -- end 3
          refine r_r (ra_cell (by exact (rfl : _ = some (D.agg [_, _, _, _, _]))) ra_nil) (by first | exact (rfl : _ = D.agg [_, _, _, _, _]) | exact rfl) (by exact rfl) sub_no ?_
          rw [show madeV a n s = boolV (decide (¬ n.tmod 2 = 0)) by unfold madeV; simp_all]; rfl
        · have g22 := of_decide_eq_false h22
          refine w_seq (w_reg (s_q rfl rfl (q_eql rfl rfl rfl) ?_))
          refine s_q rfl rfl (q_mv (.inr rfl) (is_sc rfl)) ?_
          refine s_nil (n_n (w_if (is_scb rfl) (fun h28 => ?_) (fun h28 => ?_)))
          · have g28 := of_decide_eq_true h28
            refine w_seq (w_reg (s_q rfl rfl (q_mv (.inl rfl) (by first | exact is_im rfl | exact is_gs rfl | exact is_lit rfl | exact is_ms rfl | exact is_sc rfl | exact rfl)) ?_))
            refine s_q rfl rfl (q_mv (.inl rfl) (is_sc rfl)) ?_
            refine s_q rfl rfl (q_cii rfl rfl) ?_
            refine s_q rfl rfl (q_as (u64_eq (show _ = (((errI n : Nat)) : Int) by unfold errI; rw [Int.toNat_of_nonneg]; rw [Int.tmod_eq_emod_of_nonneg (by simp [IntKind.wrap, IntKind.signed]; omega)]; omega)) (q_rem rfl rfl rfl (by decide))) ?_
            refine s_q rfl rfl (q_index rfl rfl rfl rfl (Int.natCast_nonneg _) (by have := errI_lt n; omega)) ?_
            refine s_q rfl rfl (q_loadPin rfl rfl (by exact take_map (l := errsL) st (errI_lt n))) ?_
            refine s_q rfl rfl (q_call rfl rfl rfl rfl (pf_err _)) ?_
            refine s_u rfl rfl (as_st rfl rfl (by first | exact (rfl : _ = D.agg [_, _, _, _, _]) | exact rfl) rfl (by exact rfl) (by exact rfl) (by exact Nat.le_of_ble_eq_true rfl) (by exact (rfl : _ = [_, _, _, _, _]))) ?_
            refine s_nil (n_n (w_ret (b_r (n_r ?_))))
            -- end 4
            refine r_r (ra_cell (by exact (rfl : _ = some (D.agg [_, _, _, _, _]))) ra_nil) (by first | exact (rfl : _ = D.agg [_, _, _, _, _]) | exact rfl) (by exact rfl) sub_no ?_
            rw [show madeV a n s = errV (errsL[errI n]'(errI_lt n)) by unfold madeV; simp_all]; rfl
          · have g28 := of_decide_eq_false h28
            refine w_skip (b_n (n_n (w_seq (w_reg (s_q rfl rfl (q_mv (.inl rfl) (is_sc rfl)) ?_)))))
            refine s_q rfl rfl (q_call rfl rfl rfl rfl (pf_argPart _)) ?_
            refine s_u rfl rfl (as_st rfl rfl (by first | exact (rfl : _ = D.agg [_, _, _, _, _]) | exact rfl) rfl (by exact rfl) (by exact rfl) (by exact Nat.le_of_ble_eq_true rfl) (by exact (rfl : _ = [_, _, _, _, _]))) ?_
            refine s_nil (n_n (w_ret ?_))
            -- end 5
            refine r_r (ra_cell (by exact (rfl : _ = some (D.agg [_, _, _, _, _]))) ra_nil) (by first | exact (rfl : _ = D.agg [_, _, _, _, _]) | exact rfl) (by exact rfl) sub_no ?_
            rw [show madeV a n s = sixV (clampI n) by unfold madeV; simp_all]; rfl

theorem good_in {v : V} (hs : Sort1 v) (hg : goodV v = true) : PF Tryz.prog G 36 [v.d] (inV v).d ∧ PF Tryz.prog G 64 [(inV v).d] (innF (inV v)).d ∧ (inV v).rows = [] := by
  cases hs with
  | txt s => exact ⟨pf_ofS s, pf_innerS s, rfl⟩
  | num n d x hq hx => exact ⟨pf_ofN n d _ hq, pf_innerN _ _ hx, rfl⟩
  | other _ h => have := good_kind hg; omega
theorem pf_ifGood (c : Bool) (va vb : V) (sa : Sort1 va) (sb : Sort1 vb) (ta : va.text.length ≤ 1000) (tb : vb.text.length ≤ 1000) (ga : goodV va = true) (gb : goodV vb = true) : PF Tryz.prog G 9 [.fn 15 [] [], st [73, 70], lst [boolV c, va, vb]] (bl true) := by
  obtain ⟨a1, a2, a3⟩ := good_in (G := G) sa ga
  obtain ⟨b1, b2, b3⟩ := good_in (G := G) sb gb
  have hal := pf_all (G := G) [boolV c, va, vb] (by simp) inV (fun v hv => by
    simp only [List.mem_cons, List.mem_nil_iff, or_false] at hv
    rcases hv with rfl | rfl | rfl
    · exact pf_ofB c
    · exact a1
    · exact b1)
  have ua := u_v sa.rows
  have ub := u_v sb.rows
  have hL : lst [boolV c, va, vb] = lstU [⟨3, if c then 1 else 0, 0, []⟩, va.u, vb.u] := by
    rw [← lst_U]; simp only [List.map_cons, List.map_nil, ua, ub]; rfl
  have hus : ∀ u ∈ [(⟨3, if c then 1 else 0, 0, []⟩ : U), va.u, vb.u], ¬ u.kind = 5 := fun u hu => by
    simp only [List.mem_cons, List.mem_nil_iff, or_false] at hu
    rcases hu with rfl | rfl | rfl
    · simp
    · exact sa.five
    · exact sb.five
  have hka := good_kind ga
  have hkb := good_kind gb
  have hd : ([(⟨3, if c then 1 else 0, 0, []⟩ : U), va.u, vb.u].map U.v).any (isK 6) = false := by
    simp only [List.map_cons, List.map_nil, List.any_cons, List.any_nil, ua, ub, isK, Bool.or_eq_false_iff, decide_eq_false_iff_not]
    refine ⟨by simp [U.v], ?_, ?_, trivial⟩ <;> omega
  rw [hL] at hal ⊢
  cases c
  · have hcall := pf_Call_IFFA (G := G) va.u vb.u (show va.text.length < _ by omega) (show vb.text.length < _ by omega) (by rw [ua]; exact ga) (by rw [ub]; exact gb)
    rw [ua, ub, hL] at hcall
    cases sb with
    | txt s =>
      have hsm := pf_same (G := G) 2 2 0 0 s s (strV s) (pf_ofS _)
      rw [sameS] at hsm
      exact pf_agreesS 15 [73, 70] _ (by simp) hus (strV s) hcall hd (pf_doubtP (strV s) (by simp [strV])) _ (iStr s) hal (pf_ImplIFFS s (inV va) a3 a2) hsm
    | num n d x hq hx =>
      have hsm := pf_same (G := G) 1 1 (clean (clean (qV (num n d)))) (qV (num n d)) [] [] (num n d) (pf_ofN _ _ _ hq)
      rw [sameN (fx_clean (fx_clean hx)) hx] at hsm
      exact pf_agreesS 15 [73, 70] _ (by simp) hus (num n d) hcall hd (pf_doubtP (num n d) (by simp [num])) _ (iNum (clean (clean (qV (num n d))))) hal (pf_ImplIFFN _ x hx (inV va) a3 a2) hsm
    | other _ h => omega
  · have hcall := pf_Call_IFTA (G := G) va.u vb.u (show va.text.length < _ by omega) (show vb.text.length < _ by omega) (by rw [ua]; exact ga) (by rw [ub]; exact gb)
    rw [ua, ub, hL] at hcall
    cases sa with
    | txt s =>
      have hsm := pf_same (G := G) 2 2 0 0 s s (strV s) (pf_ofS _)
      rw [sameS] at hsm
      exact pf_agreesS 15 [73, 70] _ (by simp) hus (strV s) hcall hd (pf_doubtP (strV s) (by simp [strV])) _ (iStr s) hal (pf_ImplIFTS s (inV vb) b3 b2) hsm
    | num n d x hq hx =>
      have hsm := pf_same (G := G) 1 1 (clean (clean (qV (num n d)))) (qV (num n d)) [] [] (num n d) (pf_ofN _ _ _ hq)
      rw [sameN (fx_clean (fx_clean hx)) hx] at hsm
      exact pf_agreesS 15 [73, 70] _ (by simp) hus (num n d) hcall hd (pf_doubtP (num n d) (by simp [num])) _ (iNum (clean (clean (qV (num n d))))) hal (pf_ImplIFTN _ x hx (inV vb) b3 b2) hsm
    | other _ h => omega
theorem pf_ifAgrees (c : Bool) (va vb : V) (sa : Sort1 va) (sb : Sort1 vb) (ta : va.text.length ≤ 1000) (tb : vb.text.length ≤ 1000) : PF Tryz.prog G 9 [.fn 15 [] [], st [73, 70], lst [boolV c, va, vb]] (bl true) := by
  by_cases hg : goodV va = true ∧ goodV vb = true
  · exact pf_ifGood c va vb sa sb ta tb hg.1 hg.2
  have ua := u_v sa.rows
  have ub := u_v sb.rows
  have hL : lst [boolV c, va, vb] = lstU [⟨3, if c then 1 else 0, 0, []⟩, va.u, vb.u] := by
    rw [← lst_U]; simp only [List.map_cons, List.map_nil, ua, ub]; rfl
  have hus : ∀ u ∈ [(⟨3, if c then 1 else 0, 0, []⟩ : U), va.u, vb.u], ¬ u.kind = 5 := fun u hu => by
    simp only [List.mem_cons, List.mem_nil_iff, or_false] at hu
    rcases hu with rfl | rfl | rfl
    · simp
    · exact sa.five
    · exact sb.five
  have hcall : PF Tryz.prog G 19 [st [73, 70], lst [boolV c, va, vb]] doubt.d := by
    cases c
    · have := pf_Call_IFFB (G := G) va.u vb.u (show va.text.length < _ by omega) (show vb.text.length < _ by omega) (by rw [ua, ub]; exact hg)
      rw [ua, ub] at this; exact this
    · have := pf_Call_IFTB (G := G) va.u vb.u (show va.text.length < _ by omega) (show vb.text.length < _ by omega) (by rw [ua, ub]; exact hg)
      rw [ua, ub] at this; exact this
  rw [hL] at hcall ⊢
  cases hd : ([(⟨3, if c then 1 else 0, 0, []⟩ : U), va.u, vb.u].map U.v).any (isK 6) with
  | true => exact pf_agreesT 15 [73, 70] _ (by simp) hus doubt hcall hd
  | false => exact pf_agreesD 15 [73, 70] _ (by simp) hus doubt hcall hd (pf_doubtP doubt (by simp [doubt]))


-- pub-tallysheet/laws.FnIf
theorem pf_FnIf (c : Bool) (a b n k : Int) (s t : List UInt8) : PF Tryz.prog G 6 [bl c, .sc (.int .u8 a), .sc (.int .u8 b), i64 n, i64 k, st s, st t] (bl true) := by
  
  refine PC.intro rfl Tryz.func6 rfl (Nat.le_of_ble_eq_true rfl) rfl ?_
  refine w_seq (w_reg (s_q rfl rfl (q_mv (.inr rfl) (is_sc rfl)) ?_))
  refine s_nil (n_n (w_seq (w_seq (w_reg (s_q rfl rfl (q_mv (.inl rfl) (is_sc rfl)) ?_)))))
  refine s_q rfl rfl (q_lens rfl rfl) ?_
  refine s_q rfl rfl (q_gtr rfl rfl rfl) ?_
  refine s_q rfl rfl (q_mv (.inl rfl) (is_sc rfl)) ?_
  refine s_split 18 (is_scb rfl) (fun h1 => ?_) (fun h1 => ?_)
  · refine s_off rfl rfl ?_
    refine s_off rfl rfl ?_
    refine s_off rfl rfl ?_
    refine s_q rfl rfl (q_pickT rfl rfl (is_sc rfl)) ?_
    refine s_nil (n_n (w_ifT rfl (w_seq (w_reg (s_q rfl rfl (q_mv (.inr rfl) (is_sc rfl)) ?_)))))
    refine s_nil (n_n (w_ret (n_r ?_)))
    -- end 0
    refine r_r (ra_tmp (is_sc rfl) ra_nil) (by exact (is_sc rfl)) (by exact rfl) sub_no ?_
    rfl
  · refine s_q rfl rfl (q_mv (.inl rfl) (is_sc rfl)) ?_
    refine s_q rfl rfl (q_lens rfl rfl) ?_
    refine s_q rfl rfl (q_gtr rfl rfl rfl) ?_
    refine s_q rfl rfl (q_pickF rfl rfl (is_sc rfl)) ?_
    refine s_nil (n_n (w_if (is_scb rfl) (fun hsh => ?_) (fun hsh => ?_)))
    · refine w_seq (w_reg (s_q rfl rfl (q_mv (.inr rfl) (is_sc rfl)) ?_))
      refine s_nil (n_n (w_ret (n_r ?_)))
      -- end 1
      refine r_r (ra_tmp (is_sc rfl) ra_nil) (by exact (is_sc rfl)) (by exact rfl) sub_no ?_
      rfl
    · refine w_skip (n_n (w_seq (w_reg (s_q rfl rfl (q_mv (.inl rfl) (is_sc rfl)) ?_))))
      refine s_q rfl rfl (q_mv (.inl rfl) (is_sc rfl)) ?_
      refine s_q rfl rfl (q_bs rfl (pt_cons (is_sc rfl) (pt_cons (is_sc rfl) pt_nil)) (by decide) (by decide) (by exact (rfl : _ = some [_, _])) (by exact (rfl : _ = [_, _])) (by exact rfl) (by exact rfl)) ?_
      refine s_q rfl rfl (q_call rfl rfl rfl rfl (pf_shortTexts [s, t] (by simp only [List.length_cons, List.length_nil]; omega))) ?_
      refine s_q rfl rfl (q_not rfl rfl) ?_
      refine s_q rfl rfl (q_mv (.inl rfl) (is_sc rfl)) ?_
      refine s_split 28 (is_scb rfl) (fun hsh => ?_) (fun hsh => ?_)
      · refine s_off rfl rfl ?_
        refine s_off rfl rfl ?_
        refine s_off rfl rfl ?_
        refine s_off rfl rfl ?_
        refine s_off rfl rfl ?_
        refine s_off rfl rfl ?_
        refine s_off rfl rfl ?_
        refine s_off rfl rfl ?_
        refine s_off rfl rfl ?_
        refine s_off rfl rfl ?_
        refine s_off rfl rfl ?_
        refine s_off rfl rfl ?_
        refine s_q rfl rfl (q_pickT rfl rfl (is_sc rfl)) ?_
        refine s_q rfl rfl (q_mv (.inr rfl) (is_sc rfl)) ?_
        refine s_nil (n_n (w_ret ?_))
        -- end 2
        refine r_r (ra_tmp (is_sc rfl) ra_nil) (by exact (is_sc rfl)) (by exact rfl) sub_no ?_
        rfl
      · have hs : s.length ≤ 1000 ∧ t.length ≤ 1000 := by simpa using hsh
        refine s_q rfl rfl (q_mv (.inl rfl) (is_sc rfl)) ?_
        refine s_q rfl rfl (q_call rfl rfl rfl rfl (pf_bool _)) ?_
        refine s_q rfl rfl (q_mv (.inl rfl) (is_sc rfl)) ?_
        refine s_q rfl rfl (q_mv (.inl rfl) (is_sc rfl)) ?_
        refine s_q rfl rfl (q_mv (.inl rfl) (is_sc rfl)) ?_
        refine s_q rfl rfl (q_call rfl rfl rfl rfl (pf_argMade _ _ _)) ?_
        refine s_q rfl rfl (q_mv (.inl rfl) (is_sc rfl)) ?_
        refine s_q rfl rfl (q_mv (.inl rfl) (is_sc rfl)) ?_
        refine s_q rfl rfl (q_mv (.inl rfl) (is_sc rfl)) ?_
        refine s_q rfl rfl (q_call rfl rfl rfl rfl (pf_argMade _ _ _)) ?_
        refine s_q rfl rfl (q_bs rfl (pt_cons (by first | exact (rfl : _ = D.agg [_, _, _, _, _]) | exact rfl) (pt_cons (by first | exact (rfl : _ = D.agg [_, _, _, _, _]) | exact rfl) (pt_cons (by first | exact (rfl : _ = D.agg [_, _, _, _, _]) | exact rfl) pt_nil))) (by decide) (by decide) (by exact (rfl : _ = some [_, _, _, _, _, _, _, _, _, _, _, _, _, _, _])) (by exact (rfl : _ = [_, _, _, _, _, _, _, _, _, _, _, _, _, _, _])) (by exact rfl) (by exact rfl)) ?_
        refine s_q rfl rfl (q_call rfl rfl rfl rfl (pf_ifAgrees c _ _ (sort_made a n s) (sort_made b k t) (made_text a n s hs.1) (made_text b k t hs.2))) ?_
        refine s_q rfl rfl (q_pickF rfl rfl (is_sc rfl)) ?_
        refine s_q rfl rfl (q_mv (.inr rfl) (is_sc rfl)) ?_
        refine s_nil (n_n (w_ret ?_))
        -- end 3
        refine r_r (ra_tmp (is_sc rfl) ra_nil) (by exact (is_sc rfl)) (by exact rfl) sub_no ?_
        rfl

end Go.Proofs.YteghibfaiifdoaaGreatDoor.Zz
