/- Walks of the functions, printed by program, and the logic behind them: each theorem says what one function or one step answers. -/
import Derived.Test.YtopgbalmdocboaaGreatDoorZSpISLOGICAL
import Derived.Test.YtopgbalmdocboaaGreatDoorZPrISLOGICAL
import Derived.Test.YtopgbalmdocboaaGreatDoorZM
import Derived.Test.YtopgbalmdocboaaGreatDoorZWe
import Derived.Test.YtopgbalmdocboaaGreatDoorZTx
import Derived.Test.YtopgbalmdocboaaGreatDoorZSm
namespace Go.Proofs.YtopgbalmdocboaaGreatDoor.Zz
open Go.Abs
set_option maxRecDepth 100000
set_option linter.unusedVariables false
set_option linter.unusedSimpArgs false
set_option maxHeartbeats 4000000
variable {G : Nat → D}

-- pub-tallysheet/laws.argMade
theorem pf_argMade (a n : Int) (s : List UInt8) : PF Tryz.prog G 10 [.sc (.int .u8 a), i64 n, st s] (madeV a n s).d := by
  refine PC.intro rfl Tryz.func10 rfl (Nat.le_of_ble_eq_true rfl) rfl ?_
  refine w_seq (w_reg (s_s rfl rfl (as_alloc0 (id := 0) rfl rfl (by exact (rfl : _ = [_, _, _, _, _]))) ?_))
  refine s_nil (n_n (w_seq (w_reg (s_q rfl rfl (q_bs rfl (pt_cons (is_sc rfl) (pt_cons (is_sc rfl) (pt_cons (is_sc rfl) (pt_cons (is_sc rfl) (pt_cons (is_sc rfl) (pt_cons (is_sc rfl) (pt_cons (is_sc rfl) pt_nil))))))) (by decide) (by decide) (by exact (rfl : _ = some [_, _, _, _, _, _, _])) (by exact (rfl : _ = [_, _, _, _, _, _, _])) (by exact rfl) (by exact rfl)) ?_))))
  refine s_q rfl rfl (q_mv (.inr rfl) (by first | exact is_im rfl | exact is_gs rfl | exact is_lit rfl | exact is_ms rfl | exact is_sc rfl | exact rfl)) ?_
  refine s_nil (n_n (w_seq (w_seq (w_reg (s_q rfl rfl (q_mv (.inl rfl) (is_sc rfl)) ?_)))))
  refine s_q rfl rfl (q_rem rfl rfl rfl (by decide)) ?_
  refine s_nil (n_n (w_block (w_seq (w_reg (s_q rfl rfl (q_eql rfl rfl rfl) ?_)))))
  refine s_q rfl rfl (q_mv (.inr rfl) (is_sc rfl)) ?_
  refine s_nil (n_n (w_if (is_scb rfl) (fun h11 => ?_) (fun h11 => ?_)))
  · have g11 := of_decide_eq_true h11
    refine w_seq (w_reg (s_q rfl rfl (q_build rfl pt_nil (by exact (rfl : _ = some [_, _, _, _, _]))) ?_))
    refine s_u rfl rfl (as_st rfl rfl (by first | exact (rfl : _ = D.agg [_, _, _, _, _]) | exact rfl) rfl (by exact rfl) (by exact rfl) (by exact Nat.le_of_ble_eq_true rfl) (by exact (rfl : _ = [_, _, _, _, _]))) ?_
    refine s_nil (n_n (w_ret (b_r (n_r ?_))))
    -- end 0
    refine r_r (ra_cell (by exact (rfl : _ = some (D.agg [_, _, _, _, _]))) ra_nil) (by first | exact (rfl : _ = D.agg [_, _, _, _, _]) | exact rfl) (by exact rfl) sub_no ?_
    rw [show madeV a n s = noV by unfold madeV; simp_all]; rfl
  · have g11 := of_decide_eq_false h11
    refine w_seq (w_reg (s_q rfl rfl (q_eql rfl rfl rfl) ?_))
    refine s_q rfl rfl (q_mv (.inr rfl) (is_sc rfl)) ?_
    refine s_nil (n_n (w_if (is_scb rfl) (fun h14 => ?_) (fun h14 => ?_)))
    · have g14 := of_decide_eq_true h14
      refine w_seq (w_reg (s_q rfl rfl (q_mv (.inl rfl) (is_sc rfl)) ?_))
      refine s_q rfl rfl (q_call rfl rfl rfl rfl (pf_whole _)) ?_
      refine s_u rfl rfl (as_st rfl rfl (by first | exact (rfl : _ = D.agg [_, _, _, _, _]) | exact rfl) rfl (by exact rfl) (by exact rfl) (by exact Nat.le_of_ble_eq_true rfl) (by exact (rfl : _ = [_, _, _, _, _]))) ?_
      refine s_nil (n_n (w_ret (b_r (n_r ?_))))
      -- end 1
      refine r_r (ra_cell (by exact (rfl : _ = some (D.agg [_, _, _, _, _]))) ra_nil) (by first | exact (rfl : _ = D.agg [_, _, _, _, _]) | exact rfl) (by exact rfl) sub_no ?_
      rw [show madeV a n s = intV n by unfold madeV; simp_all]; rfl
    · have g14 := of_decide_eq_false h14
      refine w_seq (w_reg (s_q rfl rfl (q_eql rfl rfl rfl) ?_))
      refine s_q rfl rfl (q_mv (.inr rfl) (is_sc rfl)) ?_
      refine s_nil (n_n (w_if (is_scb rfl) (fun h18 => ?_) (fun h18 => ?_)))
      · have g18 := of_decide_eq_true h18
        refine w_seq (w_reg (s_q rfl rfl (q_mv (.inl rfl) (is_sc rfl)) ?_))
        refine s_q rfl rfl (q_call rfl rfl rfl rfl (pf_str _)) ?_
        refine s_u rfl rfl (as_st rfl rfl (by first | exact (rfl : _ = D.agg [_, _, _, _, _]) | exact rfl) rfl (by exact rfl) (by exact rfl) (by exact Nat.le_of_ble_eq_true rfl) (by exact (rfl : _ = [_, _, _, _, _]))) ?_
        refine s_nil (n_n (w_ret (b_r (n_r ?_))))
        -- end 2
        refine r_r (ra_cell (by exact (rfl : _ = some (D.agg [_, _, _, _, _]))) ra_nil) (by first | exact (rfl : _ = D.agg [_, _, _, _, _]) | exact rfl) (by exact rfl) sub_no ?_
        rw [show madeV a n s = strV s by unfold madeV; simp_all]; rfl
      · have g18 := of_decide_eq_false h18
        refine w_seq (w_reg (s_q rfl rfl (q_eql rfl rfl rfl) ?_))
        refine s_q rfl rfl (q_mv (.inr rfl) (is_sc rfl)) ?_
        refine s_nil (n_n (w_if (is_scb rfl) (fun h22 => ?_) (fun h22 => ?_)))
        · have g22 := of_decide_eq_true h22
          refine w_seq (w_reg (s_q rfl rfl (q_mv (.inl rfl) (is_sc rfl)) ?_))
          refine s_q rfl rfl (q_rem rfl rfl rfl (by decide)) ?_
          refine s_q rfl rfl (q_neq rfl rfl rfl) ?_
          refine s_q rfl rfl (q_call rfl rfl rfl rfl (pf_bool _)) ?_
          refine s_u rfl rfl (as_st rfl rfl (by first | exact (rfl : _ = D.agg [_, _, _, _, _]) | exact rfl) rfl (by exact rfl) (by exact rfl) (by exact Nat.le_of_ble_eq_true rfl) (by exact (rfl : _ = [_, _, _, _, _]))) ?_
          refine s_nil (n_n (w_ret (b_r (n_r ?_))))
          -- end 3
          refine r_r (ra_cell (by exact (rfl : _ = some (D.agg [_, _, _, _, _]))) ra_nil) (by first | exact (rfl : _ = D.agg [_, _, _, _, _]) | exact rfl) (by exact rfl) sub_no ?_
          rw [show madeV a n s = boolV (decide (¬ n.tmod 2 = 0)) by unfold madeV; simp_all]; rfl
        · have g22 := of_decide_eq_false h22
          refine w_seq (w_reg (s_q rfl rfl (q_eql rfl rfl rfl) ?_))
          refine s_q rfl rfl (q_mv (.inr rfl) (is_sc rfl)) ?_
          refine s_nil (n_n (w_if (is_scb rfl) (fun h28 => ?_) (fun h28 => ?_)))
          · have g28 := of_decide_eq_true h28
            refine w_seq (w_reg (s_q rfl rfl (q_mv (.inl rfl) (by first | exact is_im rfl | exact is_gs rfl | exact is_lit rfl | exact is_ms rfl | exact is_sc rfl | exact rfl)) ?_))
            refine s_q rfl rfl (q_mv (.inl rfl) (is_sc rfl)) ?_
            refine s_q rfl rfl (q_cii rfl rfl) ?_
            refine s_q rfl rfl (q_as (u64_eq (show _ = (((errI n : Nat)) : Int) by unfold errI; rw [Int.toNat_of_nonneg]; rw [Int.tmod_eq_emod_of_nonneg (by simp [IntKind.wrap, IntKind.signed]; omega)]; omega)) (q_rem rfl rfl rfl (by decide))) ?_
            refine s_q rfl rfl (q_index rfl rfl rfl rfl (Int.natCast_nonneg _) (by have := errI_lt n; omega)) ?_
            refine s_q rfl rfl (q_loadPin rfl rfl (by exact take_map (l := errsL) st (errI_lt n))) ?_
            refine s_q rfl rfl (q_call rfl rfl rfl rfl (pf_err _)) ?_
            refine s_u rfl rfl (as_st rfl rfl (by first | exact (rfl : _ = D.agg [_, _, _, _, _]) | exact rfl) rfl (by exact rfl) (by exact rfl) (by exact Nat.le_of_ble_eq_true rfl) (by exact (rfl : _ = [_, _, _, _, _]))) ?_
            refine s_nil (n_n (w_ret (b_r (n_r ?_))))
            -- end 4
            refine r_r (ra_cell (by exact (rfl : _ = some (D.agg [_, _, _, _, _]))) ra_nil) (by first | exact (rfl : _ = D.agg [_, _, _, _, _]) | exact rfl) (by exact rfl) sub_no ?_
            rw [show madeV a n s = errV (errsL[errI n]'(errI_lt n)) by unfold madeV; simp_all]; rfl
          · have g28 := of_decide_eq_false h28
            refine w_skip (b_n (n_n (w_seq (w_reg (s_q rfl rfl (q_mv (.inl rfl) (is_sc rfl)) ?_)))))
            refine s_q rfl rfl (q_call rfl rfl rfl rfl (pf_argPart _)) ?_
            refine s_u rfl rfl (as_st rfl rfl (by first | exact (rfl : _ = D.agg [_, _, _, _, _]) | exact rfl) rfl (by exact rfl) (by exact rfl) (by exact Nat.le_of_ble_eq_true rfl) (by exact (rfl : _ = [_, _, _, _, _]))) ?_
            refine s_nil (n_n (w_ret ?_))
            -- end 5
            refine r_r (ra_cell (by exact (rfl : _ = some (D.agg [_, _, _, _, _]))) ra_nil) (by first | exact (rfl : _ = D.agg [_, _, _, _, _]) | exact rfl) (by exact rfl) sub_no ?_
            rw [show madeV a n s = sixV (clampI n) by unfold madeV; simp_all]; rfl


theorem isl_run (u : U) (iv : IV) (f : F) (tx : List UInt8) (c : Bool) (hus : ¬ u.kind = 5 ∧ ¬ u.kind = 6) (hc : PF Tryz.prog G 20 [st [73, 83, 76, 79, 71, 73, 67, 65, 76], lstU [u]] (boolV c).d) (hof : PF Tryz.prog G 41 [u.v.d] iv.d) (hr : iv.rows = []) (hi : PF Tryz.prog G 66 [iv.d] f.d) (hv : PF Tryz.prog G 61 [f.d] (st tx))
    (htx : ∀ b ∈ tx, b.toNat < 128) (hl : tx.length < 1000000000) (he : (Lib.equalFold wTrue tx || Lib.equalFold wFalse tx) = c) : PF Tryz.prog G 8 [.fn 9 [] [], st [73, 83, 76, 79, 71, 73, 67, 65, 76], lstU [u]] (bl true) := by
  have h1 := pf_EqFold (G := G) wTrue tx (by decide) (by decide) htx
  have h2 := pf_EqFold (G := G) wFalse tx (by decide) (by decide) htx
  have hin := pf_in (G := G) [iv] (by simp) (fun v hv => by rw [List.mem_singleton.1 hv]; exact hr)
  have him : PF Tryz.prog G 9 [ilst [iv]] (iBool (if c then 4607182418800017408 else 0)).d := by
    cases e1 : Lib.equalFold wTrue tx with
    | true =>
      rw [e1] at he h1
      have : c = true := by rw [← he]; rfl
      subst this
      exact pf_ImplISLOGICALA iv f tx hr hi hv h1 hin (pf_out _ _ _)
    | false =>
      rw [e1] at he h1
      cases e2 : Lib.equalFold wFalse tx with
      | true =>
        rw [e2] at he h2
        have : c = true := by rw [← he]; rfl
        subst this
        exact pf_ImplISLOGICALB iv f tx hr hi hv h1 h2 hin (pf_out _ _ _)
      | false =>
        rw [e2] at he h2
        have : c = false := by rw [← he]; rfl
        subst this
        exact pf_ImplISLOGICALN iv f tx hr hi hv h1 h2 hin (pf_out _ _ _)
  have hal : PF Tryz.prog G 24 [lstU [u]] (ilst [iv]) := by
    have := pf_all (G := G) [u.v] (by simp) (fun _ => iv) (fun v hv => by rw [List.mem_singleton.1 hv]; exact hof)
    rw [← lst_U]; exact this
  have hsm := pf_same (G := G) 3 3 (if c then 4607182418800017408 else 0) (FloatKind.f64.nearest (if c then 1 else 0)) [] [] (boolV c) (pf_ofB c)
  have hsb := same_bool c
  unfold iBool at hsb
  rw [hsb] at hsm
  exact pf_agreesS 9 [73, 83, 76, 79, 71, 73, 67, 65, 76] [u] (by simp) (fun x hx => by rw [List.mem_singleton.1 hx]; exact hus.1) (boolV c) hc (by simp [isK, U.v, hus.2]) (pf_doubtP (boolV c) (by simp [boolV])) [iv] _ hal him hsm
theorem isl_doubt (u : U) (hus : ¬ u.kind = 5) (hc : PF Tryz.prog G 20 [st [73, 83, 76, 79, 71, 73, 67, 65, 76], lstU [u]] doubt.d) : PF Tryz.prog G 8 [.fn 9 [] [], st [73, 83, 76, 79, 71, 73, 67, 65, 76], lstU [u]] (bl true) := by
  cases hd : ([u].map U.v).any (isK 6) with
  | true => exact pf_agreesT 9 [73, 83, 76, 79, 71, 73, 67, 65, 76] _ (by simp) (fun x hx => by rw [List.mem_singleton.1 hx]; exact hus) doubt hc hd
  | false => exact pf_agreesD 9 [73, 83, 76, 79, 71, 73, 67, 65, 76] _ (by simp) (fun x hx => by rw [List.mem_singleton.1 hx]; exact hus) doubt hc hd (pf_doubtP doubt (by simp [doubt]))
theorem pf_islAgrees (a n : Int) (s : List UInt8) (hs : s.length ≤ 1000) (T : Tabs G) : PF Tryz.prog G 8 [.fn 9 [] [], st [73, 83, 76, 79, 71, 73, 67, 65, 76], lst [madeV a n s]] (bl true) := by
  rcases made_cases a n s with h | h | ⟨m, d, x, k, h, ok⟩ | h | ⟨c, h⟩ | ⟨k, hk, h⟩ <;> rw [h]
  · exact isl_run ⟨0, 0, 0, []⟩ iNone fEmpty [] false ⟨by simp, by simp⟩ (pf_Call_ISLOGICALA ⟨0, 0, 0, []⟩ (by decide) (by decide) (by decide) (by decide)) pf_of0 rfl pf_inner0 pf_Value0 (by simp) (by decide) rfl
  · exact isl_doubt ⟨6, 0, 0, []⟩ (by decide) (pf_Call_ISLOGICALD ⟨6, 0, 0, []⟩ (by decide) rfl)
  · have hcl := fx_clean ok.fx
    have hcw := clean_lt ok.w
    have hf := txt_fold (decide (¬ ((clean (qV (num m d)) / 2 ^ 63 : Nat) : Int) = 0)) ok.lt
    have hlen := txt_len (decide (¬ ((clean (qV (num m d)) / 2 ^ 63 : Nat) : Int) = 0)) ok.lt
    exact isl_run ⟨1, m, d, []⟩ (iNum (qV (num m d))) (fNum (clean (qV (num m d)))) _ false ⟨by simp, by simp⟩ (pf_Call_ISLOGICALA ⟨1, m, d, []⟩ (by simp) (by simp) (by simp) (by simp)) (pf_ofN m d _ ok.q) rfl (pf_innerN _ _ ok.fx)
      (pf_ValueN _ k x hcw hcl ok.six ok.lt T) (txt_ascii _ ok.lt) (by omega) (by rw [hf.1, hf.2]; rfl)
  · have hl : s.length < 4000000000 := by omega
    cases ha : lettersB s with
    | true =>
      have hf := letters_fold ha
      exact isl_run ⟨2, 0, 0, s⟩ (iStr s) (fStr s) s false ⟨by simp, by simp⟩ (pf_Call_ISLOGICALS s hl ha) (pf_ofS s) rfl (pf_innerS s) (pf_ValueS s) (letters_ascii ha) (by omega) (by rw [hf.1, hf.2]; rfl)
    | false => exact isl_doubt ⟨2, 0, 0, s⟩ (by simp) (pf_Call_ISLOGICALX s hl ha)
  · cases c
    · exact isl_run ⟨3, 0, 0, []⟩ (iBool (FloatKind.f64.nearest 0)) (fBool false) wFalse true ⟨by simp, by simp⟩ (pf_Call_ISLOGICALA ⟨3, 0, 0, []⟩ (by simp) (by simp) (by simp) (by simp)) (pf_ofB false) rfl (pf_innerC false) pf_ValueF (by decide) (by decide) (by decide)
    · exact isl_run ⟨3, 1, 0, []⟩ (iBool (FloatKind.f64.nearest 1)) (fBool true) wTrue true ⟨by simp, by simp⟩ (pf_Call_ISLOGICALA ⟨3, 1, 0, []⟩ (by simp) (by simp) (by simp) (by simp)) (pf_ofB true) rfl (pf_innerC true) pf_ValueT (by decide) (by decide) (by decide)
  · obtain ⟨⟨e1, e2⟩, e3⟩ := errs_fold k hk
    have hel : (errsL[k]'hk).length < 1000000000 := by have : ∀ k (h : k < 7), (errsL[k]'h).length < 1000 := by decide
                                                       have := this k hk; omega
    exact isl_run ⟨4, 0, 0, errsL[k]'hk⟩ (iErr (errsL[k]'hk)) (fErr (errsL[k]'hk) (errsL[k]'hk)) (errsL[k]'hk) false ⟨by simp, by simp⟩ (pf_Call_ISLOGICALA ⟨4, 0, 0, errsL[k]'hk⟩ (show (errsL[k]'hk).length < _ by omega) (by simp) (by simp) (by simp)) (pf_ofE _) rfl (pf_innerE _) (pf_ValueE _ _) e3 hel (by rw [e1, e2]; rfl)


-- pub-tallysheet/laws.FnIslogical
theorem pf_FnIslogical (a n : Int) (s : List UInt8) (T : Tabs G) : PF Tryz.prog G 3 [.sc (.int .u8 a), i64 n, st s] (bl true) := by
  
  refine PC.intro rfl Tryz.func3 rfl (Nat.le_of_ble_eq_true rfl) rfl ?_
  refine w_seq (w_reg (s_q rfl rfl (q_mv (.inr rfl) (is_sc rfl)) ?_))
  refine s_nil (n_n (w_seq (w_seq (w_reg (s_q rfl rfl (q_mv (.inl rfl) (is_sc rfl)) ?_)))))
  refine s_q rfl rfl (q_lens rfl rfl) ?_
  refine s_q rfl rfl (q_gtr rfl rfl rfl) ?_
  refine s_nil (n_n (w_if (is_scb rfl) (fun h1 => ?_) (fun h1 => ?_)))
  · refine w_seq (w_reg (s_q rfl rfl (q_mv (.inr rfl) (is_sc rfl)) ?_))
    refine s_nil (n_n (w_ret (n_r ?_)))
    -- end 0
    refine r_r (ra_tmp (is_sc rfl) ra_nil) (by exact (is_sc rfl)) (by exact rfl) sub_no ?_
    rfl
  · refine w_skip (n_n (w_seq (w_reg (s_q rfl rfl (q_mv (.inl rfl) (is_sc rfl)) ?_))))
    refine s_q rfl rfl (q_bs rfl (pt_cons (is_sc rfl) pt_nil) (by decide) (by decide) (by exact (rfl : _ = some [_])) (by exact (rfl : _ = [_])) (by exact rfl) (by exact rfl)) ?_
    refine s_q rfl rfl (q_call rfl rfl rfl rfl (pf_shortTexts [s] (by simp only [List.length_cons, List.length_nil]; omega))) ?_
    refine s_q rfl rfl (q_not rfl rfl) ?_
    refine s_q rfl rfl (q_mv (.inl rfl) (is_sc rfl)) ?_
    refine s_split 14 (is_scb rfl) (fun hsh => ?_) (fun hsh => ?_)
    · refine s_off rfl rfl ?_
      refine s_off rfl rfl ?_
      refine s_off rfl rfl ?_
      refine s_off rfl rfl ?_
      refine s_off rfl rfl ?_
      refine s_off rfl rfl ?_
      refine s_q rfl rfl (q_pickT rfl rfl (is_sc rfl)) ?_
      refine s_q rfl rfl (q_mv (.inr rfl) (is_sc rfl)) ?_
      refine s_nil (n_n (w_ret ?_))
      -- end 1
      refine r_r (ra_tmp (is_sc rfl) ra_nil) (by exact (is_sc rfl)) (by exact rfl) sub_no ?_
      rfl
    · have hs : s.length ≤ 1000 := by simpa using hsh
      refine s_q rfl rfl (q_mv (.inl rfl) (is_sc rfl)) ?_
      refine s_q rfl rfl (q_mv (.inl rfl) (is_sc rfl)) ?_
      refine s_q rfl rfl (q_mv (.inl rfl) (is_sc rfl)) ?_
      refine s_q rfl rfl (q_call rfl rfl rfl rfl (pf_argMade _ _ _)) ?_
      refine s_q rfl rfl (q_bs rfl (pt_cons (by first | exact (rfl : _ = D.agg [_, _, _, _, _]) | exact rfl) pt_nil) (by decide) (by decide) (by exact (rfl : _ = some [_, _, _, _, _])) (by exact (rfl : _ = [_, _, _, _, _])) (by exact rfl) (by exact rfl)) ?_
      refine s_q rfl rfl (q_call rfl rfl rfl rfl (pf_islAgrees a n s hs T)) ?_
      refine s_q rfl rfl (q_pickF rfl rfl (is_sc rfl)) ?_
      refine s_q rfl rfl (q_mv (.inr rfl) (is_sc rfl)) ?_
      refine s_nil (n_n (w_ret ?_))
      -- end 2
      refine r_r (ra_tmp (is_sc rfl) ra_nil) (by exact (is_sc rfl)) (by exact rfl) sub_no ?_
      rfl

end Go.Proofs.YtopgbalmdocboaaGreatDoor.Zz
