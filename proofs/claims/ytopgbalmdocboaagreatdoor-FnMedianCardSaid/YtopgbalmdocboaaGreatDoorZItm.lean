/- Walks of the functions, printed by program, and the logic behind them: each theorem says what one function or one step answers. -/
import Derived.Test.YtopgbalmdocboaaGreatDoorZN1
import Derived.Test.YtopgbalmdocboaaGreatDoorZSm
import Derived.Test.YtopgbalmdocboaaGreatDoorZTe
import Derived.Test.YtopgbalmdocboaaGreatDoorZIt2
import Derived.Test.YtopgbalmdocboaaGreatDoorZNu
namespace Go.Proofs.YtopgbalmdocboaaGreatDoor.Zz
open Go.Abs
set_option maxRecDepth 100000
set_option linter.unusedVariables false
set_option linter.unusedSimpArgs false
set_option maxHeartbeats 4000000
variable {G : Nat → D}

-- pub-tallysheet/laws.part
theorem pf_part (n m : Int) (hm : 0 < m) (hm2 : m < 1000000) : PF Tryz.prog G 34 [i64 n, i64 m] (i64 (partI n m)) := by
  have hp1 := Int.tmod_lt_of_pos n hm
  have hp2 := part_le (k := n) hm
  refine PC.intro rfl Tryz.func34 rfl (Nat.le_of_ble_eq_true rfl) rfl ?_
  refine w_seq (w_reg (s_q rfl rfl (q_mv (.inr rfl) (is_sc rfl)) ?_))
  refine s_nil (n_n (w_seq (w_reg (s_q rfl rfl (q_mv (.inl rfl) (is_sc rfl)) ?_))))
  refine s_q rfl rfl (q_mv (.inl rfl) (is_sc rfl)) ?_
  refine s_q rfl rfl (q_rem rfl rfl rfl (by omega)) ?_
  refine s_q rfl rfl (q_mv (.inr rfl) (is_sc rfl)) ?_
  refine s_nil (n_n (w_seq (w_seq (w_reg (s_q rfl rfl (q_mv (.inl rfl) (is_sc rfl)) ?_)))))
  refine s_q rfl rfl (q_lss rfl rfl rfl) ?_
  refine s_nil (n_n (w_if (is_scb rfl) (fun h9 => ?_) (fun h9 => ?_)))
  · have h0 : n.tmod m < 0 := of_decide_eq_true h9
    have he : partI n m = n.tmod m + m := if_pos h0
    refine w_reg (s_q rfl rfl (q_mv (.inl rfl) (is_sc rfl)) ?_)
    refine s_q rfl rfl (q_mv (.inl rfl) (is_sc rfl)) ?_
    refine s_q rfl rfl (q_as (i64_eq (show IntKind.i64.wrap (n.tmod m + m) = partI n m by rw [wrap_id (by omega) (by omega)]; exact he.symm)) (q_add rfl rfl rfl)) ?_
    refine s_q rfl rfl (q_mv (.inr rfl) (is_sc rfl)) ?_
    refine s_nil (n_n (w_seq (w_reg (s_q rfl rfl (q_mv (.inl rfl) (is_sc rfl)) ?_))))
    refine s_q rfl rfl (q_mv (.inr rfl) (is_sc rfl)) ?_
    refine s_nil (n_n (w_ret ?_))
    -- end 0
    refine r_r (ra_tmp (is_sc rfl) ra_nil) (by exact (is_sc rfl)) (by exact rfl) sub_no ?_
    rfl
  · have h0 : ¬ n.tmod m < 0 := of_decide_eq_false h9
    have he : partI n m = n.tmod m := if_neg h0
    refine w_skip (n_n (w_seq (w_reg (s_q rfl rfl (q_mv (.inl rfl) (is_sc rfl)) ?_))))
    refine s_q rfl rfl (q_mv (.inr rfl) (is_sc rfl)) ?_
    refine s_nil (n_n (w_ret ?_))
    -- end 1
    refine r_r (ra_tmp (is_sc rfl) ra_nil) (by exact (is_sc rfl)) (by exact rfl) sub_no ?_
    rw [he]


-- (pub-tallysheet/laws.Item).val
theorem pf_val (x : It) : PF Tryz.prog G 13 [.agg (It.c x)] (itU x).v.d := by
  have ht := Int.tmod_lt_of_pos x.num (show (0 : Int) < 1099511627776 by decide)
  have ht2 : -1099511627776 < x.num.tmod 1099511627776 := by
    rcases Int.lt_or_le x.num 0 with hk | hk
    · have h3 : (-x.num).tmod 1099511627776 < 1099511627776 := Int.tmod_lt_of_pos _ (by decide)
      rw [Int.neg_tmod] at h3; omega
    · have := Int.tmod_nonneg 1099511627776 hk; omega
  refine PC.intro rfl Tryz.func13 rfl (Nat.le_of_ble_eq_true rfl) rfl ?_
  refine w_seq (w_reg (s_s rfl rfl (as_box0 (id := 0) rfl (by first | exact (rfl : _ = D.agg [_, _, _]) | exact rfl) (by exact rfl) rfl (by exact (rfl : _ = [_, _, _]))) ?_))
  refine s_s rfl rfl (as_alloc0 (id := 1) rfl rfl (by exact (rfl : _ = [_, _, _, _, _]))) ?_
  refine s_nil (n_n (w_seq (w_seq (w_reg (s_q rfl rfl (q_field rfl rfl (by exact rfl)) ?_)))))
  refine s_q rfl rfl (q_load rfl rfl (by exact (rfl : _ = some (D.sc _)))) ?_
  refine s_q rfl rfl (q_call rfl rfl rfl rfl (pf_part _ 6 (by omega) (by omega))) ?_
  refine s_nil (n_n (w_block (w_seq (w_reg (s_q rfl rfl (q_eql rfl rfl rfl) ?_)))))
  refine s_q rfl rfl (q_mv (.inr rfl) (is_sc rfl)) ?_
  refine s_nil (n_n (w_if (is_scb rfl) (fun h1 => ?_) (fun h1 => ?_)))
  · refine w_seq (w_reg (s_q rfl rfl (q_field rfl rfl (by exact rfl)) ?_))
    refine s_q rfl rfl (q_load rfl rfl (by exact (rfl : _ = some (D.sc _)))) ?_
    refine s_q rfl rfl (q_call rfl rfl rfl rfl (pf_int _)) ?_
    refine s_u rfl rfl (as_st rfl rfl (by first | exact (rfl : _ = D.agg [_, _, _, _, _]) | exact rfl) rfl (by exact rfl) (by exact rfl) (by exact Nat.le_of_ble_eq_true rfl) (by exact (rfl : _ = [_, _, _, _, _]))) ?_
    refine s_nil (n_n (w_ret (b_r (n_r ?_))))
    -- end 0
    refine r_r (ra_cell (by exact (rfl : _ = some (D.agg [_, _, _, _, _]))) ra_nil) (by first | exact (rfl : _ = D.agg [_, _, _, _, _]) | exact rfl) (by exact rfl) sub_no ?_
    rw [itU_v, show itV x = intV x.num by unfold itV; simp_all]; rfl
  · refine w_seq (w_reg (s_q rfl rfl (q_eql rfl rfl rfl) ?_))
    refine s_q rfl rfl (q_mv (.inr rfl) (is_sc rfl)) ?_
    refine s_nil (n_n (w_if (is_scb rfl) (fun h2 => ?_) (fun h2 => ?_)))
    · refine w_seq (w_reg (s_q rfl rfl (q_field rfl rfl (by exact rfl)) ?_))
      refine s_q rfl rfl (q_load rfl rfl (by exact (rfl : _ = some (D.sc _)))) ?_
      refine s_q rfl rfl (q_rem rfl rfl rfl (by decide)) ?_
      refine s_q rfl rfl (q_call rfl rfl rfl rfl (pf_frac _ 4 (x.num.tmod 1099511627776 * 4) (by omega) (by omega) (by omega) (by omega) (by omega) (by omega) (by omega))) ?_
      refine s_u rfl rfl (as_st rfl rfl (by first | exact (rfl : _ = D.agg [_, _, _, _, _]) | exact rfl) rfl (by exact rfl) (by exact rfl) (by exact Nat.le_of_ble_eq_true rfl) (by exact (rfl : _ = [_, _, _, _, _]))) ?_
      refine s_nil (n_n (w_ret (b_r (n_r ?_))))
      -- end 1
      refine r_r (ra_cell (by exact (rfl : _ = some (D.agg [_, _, _, _, _]))) ra_nil) (by first | exact (rfl : _ = D.agg [_, _, _, _, _]) | exact rfl) (by exact rfl) sub_no ?_
      rw [itU_v, show itV x = sixV (x.num.tmod 1099511627776 * 4) by unfold itV; simp_all]; rfl
    · refine w_seq (w_reg (s_q rfl rfl (q_eql rfl rfl rfl) ?_))
      refine s_q rfl rfl (q_mv (.inr rfl) (is_sc rfl)) ?_
      refine s_nil (n_n (w_if (is_scb rfl) (fun h3 => ?_) (fun h3 => ?_)))
      · refine w_seq (w_reg (s_q rfl rfl (q_field rfl rfl (by exact rfl)) ?_))
        refine s_q rfl rfl (q_load rfl rfl (by exact (rfl : _ = some (D.sc _)))) ?_
        refine s_q rfl rfl (q_call rfl rfl rfl rfl (pf_str _)) ?_
        refine s_u rfl rfl (as_st rfl rfl (by first | exact (rfl : _ = D.agg [_, _, _, _, _]) | exact rfl) rfl (by exact rfl) (by exact rfl) (by exact Nat.le_of_ble_eq_true rfl) (by exact (rfl : _ = [_, _, _, _, _]))) ?_
        refine s_nil (n_n (w_ret (b_r (n_r ?_))))
        -- end 2
        refine r_r (ra_cell (by exact (rfl : _ = some (D.agg [_, _, _, _, _]))) ra_nil) (by first | exact (rfl : _ = D.agg [_, _, _, _, _]) | exact rfl) (by exact rfl) sub_no ?_
        rw [itU_v, show itV x = strV x.text by unfold itV; simp_all]; rfl
      · refine w_seq (w_reg (s_q rfl rfl (q_eql rfl rfl rfl) ?_))
        refine s_q rfl rfl (q_mv (.inr rfl) (is_sc rfl)) ?_
        refine s_nil (n_n (w_if (is_scb rfl) (fun h4 => ?_) (fun h4 => ?_)))
        · refine w_seq (w_reg (s_q rfl rfl (q_field rfl rfl (by exact rfl)) ?_))
          refine s_q rfl rfl (q_load rfl rfl (by exact (rfl : _ = some (D.sc _)))) ?_
          refine s_q rfl rfl (q_rem rfl rfl rfl (by decide)) ?_
          refine s_q rfl rfl (q_neq rfl rfl rfl) ?_
          refine s_q rfl rfl (q_call rfl rfl rfl rfl (pf_bool _)) ?_
          refine s_u rfl rfl (as_st rfl rfl (by first | exact (rfl : _ = D.agg [_, _, _, _, _]) | exact rfl) rfl (by exact rfl) (by exact rfl) (by exact Nat.le_of_ble_eq_true rfl) (by exact (rfl : _ = [_, _, _, _, _]))) ?_
          refine s_nil (n_n (w_ret (b_r (n_r ?_))))
          -- end 3
          refine r_r (ra_cell (by exact (rfl : _ = some (D.agg [_, _, _, _, _]))) ra_nil) (by first | exact (rfl : _ = D.agg [_, _, _, _, _]) | exact rfl) (by exact rfl) sub_no ?_
          rw [itU_v, show itV x = boolV (decide (¬ x.num.tmod 2 = 0)) by unfold itV; simp_all]; rfl
        · refine w_seq (w_reg (s_q rfl rfl (q_eql rfl rfl rfl) ?_))
          refine s_q rfl rfl (q_mv (.inr rfl) (is_sc rfl)) ?_
          refine s_nil (n_n (w_if (is_scb rfl) (fun h5 => ?_) (fun h5 => ?_)))
          · refine w_seq (w_reg (s_q rfl rfl (q_bs rfl (pt_cons (is_sc rfl) (pt_cons (is_sc rfl) (pt_cons (is_sc rfl) (pt_cons (is_sc rfl) (pt_cons (is_sc rfl) (pt_cons (is_sc rfl) (pt_cons (is_sc rfl) pt_nil))))))) (by decide) (by decide) (by exact (rfl : _ = some [_, _, _, _, _, _, _])) (by exact (rfl : _ = [_, _, _, _, _, _, _])) (by exact rfl) (by exact rfl)) ?_))
            refine s_q rfl rfl (q_field rfl rfl (by exact rfl)) ?_
            refine s_q rfl rfl (q_load rfl rfl (by exact (rfl : _ = some (D.sc _)))) ?_
            refine s_q rfl rfl (q_call rfl rfl rfl rfl (by have := pf_part (G := G) x.num 7 (by omega) (by omega); rw [show partI x.num 7 = ((errT x.num : Nat) : Int) by unfold errT; rw [Int.toNat_of_nonneg (part_le (by omega)).1]] at this; exact this)) ?_
            refine s_q rfl rfl (q_index rfl rfl rfl rfl (Int.natCast_nonneg _) (by have := errT_lt x.num; show ((errT x.num : Nat) : Int) < 7; omega)) ?_
            refine s_q rfl rfl (q_loadPin rfl rfl (by exact take_map (l := errsT) st (errT_lt x.num))) ?_
            refine s_q rfl rfl (q_call rfl rfl rfl rfl (pf_err _)) ?_
            refine s_u rfl rfl (as_st rfl rfl (by first | exact (rfl : _ = D.agg [_, _, _, _, _]) | exact rfl) rfl (by exact rfl) (by exact rfl) (by exact Nat.le_of_ble_eq_true rfl) (by exact (rfl : _ = [_, _, _, _, _]))) ?_
            refine s_nil (n_n (w_ret (b_r (n_r ?_))))
            -- end 4
            refine r_r (ra_cell (by exact (rfl : _ = some (D.agg [_, _, _, _, _]))) ra_nil) (by first | exact (rfl : _ = D.agg [_, _, _, _, _]) | exact rfl) (by exact rfl) sub_no ?_
            rw [itU_v, show itV x = errV (errsT[errT x.num]'(errT_lt x.num)) by unfold itV; simp_all]; rfl
          · refine w_skip (b_n (n_n (w_seq (w_reg (s_q rfl rfl (q_build rfl pt_nil (by exact (rfl : _ = some [_, _, _, _, _]))) ?_)))))
            refine s_u rfl rfl (as_st rfl rfl (by first | exact (rfl : _ = D.agg [_, _, _, _, _]) | exact rfl) rfl (by exact rfl) (by exact rfl) (by exact Nat.le_of_ble_eq_true rfl) (by exact (rfl : _ = [_, _, _, _, _]))) ?_
            refine s_nil (n_n (w_ret ?_))
            -- end 5
            refine r_r (ra_cell (by exact (rfl : _ = some (D.agg [_, _, _, _, _]))) ra_nil) (by first | exact (rfl : _ = D.agg [_, _, _, _, _]) | exact rfl) (by exact rfl) sub_no ?_
            rw [itU_v, show itV x = noV by unfold itV; simp_all]; rfl


-- pub-tallysheet/laws.table
theorem pf_tableI (l : List It) (cols : Int) (hl : l.length ≤ 2147483647) : PF Tryz.prog G 17 [itL l, i64 cols] (tabV (tabU l cols)).d := by
  obtain ⟨hp1, hp2⟩ := part_le (k := cols) (n := 6) (by omega)
  obtain ⟨c, hc⟩ : ∃ c, colsN cols = c := ⟨_, rfl⟩
  have hcc : 1 + partI cols 6 = ((c : Nat) : Int) := by rw [← hc]; unfold colsN; omega
  obtain ⟨L, hL⟩ : ∃ L, l.take 120 = L := ⟨_, rfl⟩
  have hLl : L.length ≤ 120 := by rw [← hL, List.length_take]; omega
  obtain ⟨m, hm0⟩ : ∃ m, rowsN L.length c = m := ⟨_, rfl⟩
  have hdc : L.length / c ≤ L.length := Nat.div_le_self _ _
  have hd0 : (0 : Int) ≤ ((L.length / c : Nat) : Int) := Int.natCast_nonneg _
  have hml : m ≤ 120 := by rw [← hm0]; unfold rowsN; split <;> omega
  rw [show tabU l cols = rowsU L c m by unfold tabU; rw [hc, hL, hm0]]
  refine PC.intro rfl Tryz.func17 rfl (Nat.le_of_ble_eq_true rfl) rfl ?_
  refine w_seq (w_reg (s_s rfl rfl (as_alloc0 (id := 0) rfl rfl (by exact (rfl : _ = [_, _, _, _, _]))) ?_))
  refine s_nil (n_n (w_seq (w_reg (s_q rfl rfl (q_mv (.inl rfl) (is_sc rfl)) ?_))))
  refine s_q rfl rfl (q_call rfl rfl rfl rfl (pf_part _ 6 (by omega) (by omega))) ?_
  refine s_q rfl rfl (q_as (i64_eq (show IntKind.i64.wrap (1 + partI cols 6) = ((c : Nat) : Int) by rw [wrap_id (by omega) (by omega)]; exact hcc)) (q_add rfl rfl rfl)) ?_
  refine s_q rfl rfl (q_mv (.inr rfl) (is_sc rfl)) ?_
  refine s_nil (n_n (w_seq (w_seq (w_reg (s_q rfl rfl (q_mv (.inl rfl) (by first | exact is_im rfl | exact is_gs rfl | exact is_lit rfl | exact is_ms rfl | exact is_sc rfl | exact rfl)) ?_)))))
  refine s_q rfl rfl (q_len rfl rfl rfl) ?_
  refine s_q rfl rfl (q_gtr rfl rfl rfl) ?_
  refine s_nil (n_n (w_if (is_scb rfl) (fun h17 => ?_) (fun h17 => ?_)))
  · have h120 : 120 < l.length := by have h' : (120 : Int) < ((l.length : Nat) : Int) := of_decide_eq_true h17; omega
    have hk120 : 120 - 0 = L.length := by rw [← hL, List.length_take]; omega
    have hcut : ((l.flatMap It.c).take (120 * 3)).drop (0 * 3) = L.flatMap It.c := by
      rw [← hL, Nat.zero_mul, List.drop_zero]
      conv => lhs; rw [← List.take_append_drop 120 l, List.flatMap_append]
      rw [List.take_left' (by rw [len_itl, List.length_take]; omega)]
    refine w_reg (s_q rfl rfl (q_mv (.inl rfl) (by first | exact is_im rfl | exact is_gs rfl | exact is_lit rfl | exact is_ms rfl | exact is_sc rfl | exact rfl)) ?_)
    refine s_q rfl rfl (q_cutIm (a := 0) (b := 120) (k := L.length) (cs' := L.flatMap It.c) rfl rfl rfl rfl ⟨_, _, rfl, by decide, rfl⟩ (by omega) (by omega) hcut hk120) ?_
    refine s_q rfl rfl (q_mv (.inr rfl) (by first | exact is_im rfl | exact is_gs rfl | exact is_lit rfl | exact is_ms rfl | exact is_sc rfl | exact rfl)) ?_
    refine s_nil (n_n (w_seq (w_reg (s_q rfl rfl (q_mv (.inl rfl) (by first | exact is_im rfl | exact is_gs rfl | exact is_lit rfl | exact is_ms rfl | exact is_sc rfl | exact rfl)) ?_))))
    refine s_q rfl rfl (q_len rfl rfl rfl) ?_
    refine s_q rfl rfl (q_mv (.inl rfl) (is_sc rfl)) ?_
    refine s_q rfl rfl (q_as (i64_eq (show IntKind.i64.wrap (((L.length : Nat) : Int).tdiv ((c : Nat) : Int)) = ((L.length / c : Nat) : Int) by rw [Int.tdiv_eq_ediv_of_nonneg (by omega), ← Int.natCast_ediv]; exact wrap_id (by omega) (by omega))) (q_quo rfl rfl rfl (by omega))) ?_
    refine s_q rfl rfl (q_mv (.inr rfl) (is_sc rfl)) ?_
    refine s_nil (n_n (w_seq (w_seq (w_reg (s_q rfl rfl (q_mv (.inl rfl) (is_sc rfl)) ?_)))))
    refine s_q rfl rfl (q_eql rfl rfl rfl) ?_
    refine s_nil (n_n (w_if (is_scb rfl) (fun h25 => ?_) (fun h25 => ?_)))
    · have hm : m = 1 := by have h' : ((L.length / c : Nat) : Int) = 0 := of_decide_eq_true h25; rw [← hm0]; exact if_pos (by omega)
      refine w_reg (s_q rfl rfl (q_mv (.inr rfl) (is_sc rfl)) ?_)
      refine s_nil (n_n (w_seq (w_reg (s_s rfl rfl (as_nil (e := 29) (.inl rfl) rfl) ?_))))
      refine s_nil (n_n (w_seq (w_seq (w_reg (s_q rfl rfl (q_mv (.inr rfl) (is_sc rfl)) ?_)))))
      refine s_nil (n_n (w_block ?_))
      refine w_loop (fun env A => ∃ (i t : Nat) (o : List LO) (live : Nat → Bool) (ln : Nat), i ≤ m ∧ Binds env [(0, itL L), (1, i64 c), (4, .box 0 0), (5, i64 m), (6, .gs t 29 ((rowsU L c i).map lstU) (rowsU L c i).length), (7, i64 i)] ∧ A = ⟨(.cells [.sc (.int .i64 0), .sc (.int .i64 0), .sc (.int .i64 0), .sc (.string ⟨⟨[]⟩⟩), .sc (.slice none 0 0)] :: o), live, ln, noHeap⟩ ∧ live t = true ∧ t < ln) (fun env _ => m - ctr (env 7)) ?_ ?_
      · exact ⟨0, 0, [], _, _, Nat.zero_le _, ⟨rfl, rfl, rfl, (by first | exact i64_eq (congrArg Nat.cast hm.symm) | exact i64_eq (by rw [hm])), rfl, rfl, trivial⟩, rfl, rfl, Nat.lt_succ_self _⟩
      · rintro env A ⟨i, t, o, live, ln, hi, hB, rfl, hv, htl⟩
        rw [hB.eq]; clear hB
        rw [show (⟨(.cells [.sc (.int .i64 0), .sc (.int .i64 0), .sc (.int .i64 0), .sc (.string ⟨⟨[]⟩⟩), .sc (.slice none 0 0)] :: o), live, ln, noHeap⟩ : AH) = ⟨(.cells [.sc (.int .i64 0), .sc (.int .i64 0), .sc (.int .i64 0), .sc (.string ⟨⟨[]⟩⟩), .sc (.slice none 0 0)] :: o) ++ [], live, ln, noHeap⟩ by rw [List.append_nil]]
        refine w_seq (w_seq (w_reg (s_q rfl rfl (q_mv (.inl rfl) (is_sc rfl)) ?_)))
        refine s_q rfl rfl (q_mv (.inl rfl) (is_sc rfl)) ?_
        refine s_q rfl rfl (q_lss rfl rfl rfl) ?_
        refine s_nil (n_n (w_if (is_scb rfl) (fun h28 => ?_) (fun h28 => ?_)))
        · have hlt : i < m := by have h' : (i : Int) < ((m : Nat) : Int) := of_decide_eq_true h28; omega
          have hic : i * c ≤ 120 * 6 := Nat.mul_le_mul (by omega) (by omega)
          refine w_skip (n_n (w_seq (w_block (w_seq (w_reg (s_s rfl rfl (as_nil (e := 27) (.inl rfl) rfl) ?_))))))
          refine s_nil (n_n (w_seq (w_seq (w_reg (s_q rfl rfl (q_mv (.inr rfl) (is_sc rfl)) ?_)))))
          refine s_nil (n_n (w_block ?_))
          refine w_loop (fun env A => ∃ (k t2 : Nat) (o : List LO) (live2 : Nat → Bool) (ln2 : Nat), k ≤ c ∧ Binds env [(0, itL L), (1, i64 c), (4, .box 0 0), (5, i64 m), (6, .gs t 29 ((rowsU L c i).map lstU) (rowsU L c i).length), (7, i64 i), (8, .gs t2 27 ((rowU L c i k).flatMap U.c) (rowU L c i k).length), (9, i64 k)] ∧ A = ⟨(.cells [.sc (.int .i64 0), .sc (.int .i64 0), .sc (.int .i64 0), .sc (.string ⟨⟨[]⟩⟩), .sc (.slice none 0 0)] :: o), live2, ln2, noHeap⟩ ∧ live2 t = true ∧ live2 t2 = true ∧ t < ln2 ∧ t2 < ln2 ∧ t ≠ t2) (fun env _ => c - ctr (env 9)) ?_ ?_
          · exact ⟨0, _, o, _, _, Nat.zero_le _, ⟨rfl, rfl, rfl, rfl, rfl, rfl, rfl, rfl, trivial⟩, by rw [List.append_nil]; rfl, live_tags_old (A := ⟨_, live, ln, noHeap⟩) hv, live_tags ⟨_, live, ln, noHeap⟩, Nat.lt_succ_of_lt htl, Nat.lt_succ_self _, Nat.ne_of_lt htl⟩
          · clear hv htl
            rintro env A ⟨k, t2, o, live2, ln2, hk, hB, rfl, hv, hv2, htl, htl2, hne⟩
            rw [hB.eq]; clear hB
            rw [show (⟨(.cells [.sc (.int .i64 0), .sc (.int .i64 0), .sc (.int .i64 0), .sc (.string ⟨⟨[]⟩⟩), .sc (.slice none 0 0)] :: o), live2, ln2, noHeap⟩ : AH) = ⟨(.cells [.sc (.int .i64 0), .sc (.int .i64 0), .sc (.int .i64 0), .sc (.string ⟨⟨[]⟩⟩), .sc (.slice none 0 0)] :: o) ++ [], live2, ln2, noHeap⟩ by rw [List.append_nil]]
            refine w_seq (w_seq (w_reg (s_q rfl rfl (q_mv (.inl rfl) (is_sc rfl)) ?_)))
            refine s_q rfl rfl (q_mv (.inl rfl) (is_sc rfl)) ?_
            refine s_q rfl rfl (q_lss rfl rfl rfl) ?_
            refine s_nil (n_n (w_if (is_scb rfl) (fun h33 => ?_) (fun h33 => ?_)))
            · have hklt : k < c := by have h' : (k : Int) < ((c : Nat) : Int) := of_decide_eq_true h33; omega
              refine w_skip (n_n (w_seq (w_block (w_seq (w_reg (s_q rfl rfl (q_build rfl pt_nil (by exact (rfl : _ = some [_, _, _, _, _]))) ?_))))))
              refine s_s rfl rfl (as_allocT (os := (.cells [.sc (.int .i64 0), .sc (.int .i64 0), .sc (.int .i64 0), .sc (.string ⟨⟨[]⟩⟩), .sc (.slice none 0 0)] :: o)) (tail := []) rfl rfl rfl (by exact (rfl : _ = [_, _, _, _, _]))) ?_
              refine s_u rfl rfl (as_stT (os := (.cells [.sc (.int .i64 0), .sc (.int .i64 0), .sc (.int .i64 0), .sc (.string ⟨⟨[]⟩⟩), .sc (.slice none 0 0)] :: o)) (tail := [_]) (j := 0) rfl rfl rfl (by first | exact (rfl : _ = D.agg [_, _, _, _, _]) | exact rfl) (by exact rfl) (by exact rfl) (by exact rfl) (by exact Nat.le_of_ble_eq_true rfl) (by exact (rfl : _ = [_, _, _, _, _])) (by exact (rfl : _ = [_]))) ?_
              refine s_nil (n_n (w_seq (w_seq (w_reg (s_q rfl rfl (q_mv (.inl rfl) (is_sc rfl)) ?_)))))
              refine s_q rfl rfl (q_mv (.inl rfl) (is_sc rfl)) ?_
              refine s_q rfl rfl (q_as (i64_eq (show IntKind.i64.wrap (((i : Nat) : Int) * ((c : Nat) : Int)) = ((i * c : Nat) : Int) by rw [← Int.natCast_mul]; exact wrap_id (by omega) (by omega))) (q_mul rfl rfl rfl)) ?_
              refine s_q rfl rfl (q_mv (.inl rfl) (is_sc rfl)) ?_
              refine s_q rfl rfl (q_as (i64_eq (show IntKind.i64.wrap (((i * c : Nat) : Int) + ((k : Nat) : Int)) = ((i * c + k : Nat) : Int) by rw [wrap_id (by omega) (by omega)]; omega)) (q_add rfl rfl rfl)) ?_
              refine s_q rfl rfl (q_mv (.inr rfl) (is_sc rfl)) ?_
              refine s_nil (n_n (w_seq (w_reg (s_q rfl rfl (q_mv (.inl rfl) (is_sc rfl)) ?_))))
              refine s_q rfl rfl (q_mv (.inl rfl) (by first | exact is_im rfl | exact is_gs rfl | exact is_lit rfl | exact is_ms rfl | exact is_sc rfl | exact rfl)) ?_
              refine s_q rfl rfl (q_len rfl rfl rfl) ?_
              refine s_q rfl rfl (q_lss rfl rfl rfl) ?_
              refine s_nil (n_n (w_if (is_scb rfl) (fun h45 => ?_) (fun h45 => ?_)))
              · have hn : i * c + k < L.length := by have h' : ((i * c + k : Nat) : Int) < ((L.length : Nat) : Int) := of_decide_eq_true h45; omega
                have hcell : cellU L (i * c + k) = itU L[i * c + k] := dif_pos hn
                refine w_reg (s_q rfl rfl (q_mv (.inl rfl) (by first | exact is_im rfl | exact is_gs rfl | exact is_lit rfl | exact is_ms rfl | exact is_sc rfl | exact rfl)) ?_)
                refine s_q rfl rfl (q_mv (.inl rfl) (is_sc rfl)) ?_
                refine s_q rfl rfl (q_index rfl rfl rfl rfl (Int.natCast_nonneg _) (by show ((i * c + k : Nat) : Int) < ((L.length : Nat) : Int); omega)) ?_
                refine s_q rfl rfl (q_loadPin rfl rfl (by exact take_itl hn)) ?_
                refine s_q rfl rfl (q_call rfl rfl rfl rfl (pf_val _)) ?_
                refine s_u rfl rfl (as_stT (os := (.cells [.sc (.int .i64 0), .sc (.int .i64 0), .sc (.int .i64 0), .sc (.string ⟨⟨[]⟩⟩), .sc (.slice none 0 0)] :: o)) (tail := [_]) (j := 0) rfl rfl rfl (by first | exact (rfl : _ = D.agg [_, _, _, _, _]) | exact rfl) (by exact rfl) (by exact rfl) (by exact rfl) (by exact Nat.le_of_ble_eq_true rfl) (by exact (rfl : _ = [_, _, _, _, _])) (by exact (rfl : _ = [_]))) ?_
                refine s_nil (n_n (w_reg (s_q rfl rfl (q_mv (.inl rfl) (by first | exact is_im rfl | exact is_gs rfl | exact is_lit rfl | exact is_ms rfl | exact is_sc rfl | exact rfl)) ?_)))
                refine s_q rfl rfl (q_loadT (os := (.cells [.sc (.int .i64 0), .sc (.int .i64 0), .sc (.int .i64 0), .sc (.string ⟨⟨[]⟩⟩), .sc (.slice none 0 0)] :: o)) (tail := [_]) (j := 0) rfl rfl rfl (by exact rfl) (by exact (rfl : _ = some (D.agg [_, _, _, _, _])))) ?_
                refine s_q rfl rfl (q_bs rfl (pt_cons (by first | exact (rfl : _ = D.agg [_, _, _, _, _]) | exact rfl) pt_nil) (by decide) (by decide) (by exact (rfl : _ = some [_, _, _, _, _])) (by exact (rfl : _ = [_, _, _, _, _])) (by exact rfl) (by exact rfl)) ?_
                refine s_s rfl rfl (as_append rfl rfl hv2 rfl rfl (by decide) (by exact len_lstU _) (by exact rfl) (by show _ * 64 ≤ _; simp only [rowsU, rowU, List.length_map, List.length_range]; omega) (by show _ ≤ 9223372036854775807; simp only [rowsU, rowU, List.length_map, List.length_range]; omega)) ?_
                refine s_q rfl rfl (q_mv (.inr rfl) (by first | exact is_im rfl | exact is_gs rfl | exact is_lit rfl | exact is_ms rfl | exact is_sc rfl | exact rfl)) ?_
                refine s_nil (b_n (n_n (w_reg (s_q rfl rfl (q_mv (.inl rfl) (is_sc rfl)) ?_))))
                refine s_q rfl rfl (q_add rfl rfl rfl) ?_
                refine s_q rfl rfl (q_mv (.inr rfl) (is_sc rfl)) ?_
                refine s_nil (n_n ?_)
                have hw : IntKind.i64.wrap ((k : Int) + 1) = ((k + 1 : Nat) : Int) := wrap_nat (by omega)
                refine ⟨⟨k + 1, ln2, _, _, _, hklt, ⟨rfl, rfl, rfl, rfl, rfl, rfl, ?_, i64_eq hw, trivial⟩, rfl, live_app_old (A := ⟨_, live2, ln2, noHeap⟩) hv hne, live_app ⟨_, live2, ln2, noHeap⟩ t2, Nat.lt_succ_of_lt htl, Nat.lt_succ_self _, Nat.ne_of_lt htl⟩, ?_⟩
                · rw [rowU_succ, hcell, List.flatMap_append, List.length_append]; rfl
                · show c - (IntKind.i64.wrap ((k : Int) + 1)).toNat < c - (k : Int).toNat
                  rw [hw]; omega
              · have hn : ¬ i * c + k < L.length := by have h' : ¬ ((i * c + k : Nat) : Int) < ((L.length : Nat) : Int) := of_decide_eq_false h45; omega
                have hcell : cellU L (i * c + k) = noU := dif_neg hn
                refine w_skip (n_n (w_reg (s_q rfl rfl (q_mv (.inl rfl) (by first | exact is_im rfl | exact is_gs rfl | exact is_lit rfl | exact is_ms rfl | exact is_sc rfl | exact rfl)) ?_)))
                refine s_q rfl rfl (q_loadT (os := (.cells [.sc (.int .i64 0), .sc (.int .i64 0), .sc (.int .i64 0), .sc (.string ⟨⟨[]⟩⟩), .sc (.slice none 0 0)] :: o)) (tail := [_]) (j := 0) rfl rfl rfl (by exact rfl) (by exact (rfl : _ = some (D.agg [_, _, _, _, _])))) ?_
                refine s_q rfl rfl (q_bs rfl (pt_cons (by first | exact (rfl : _ = D.agg [_, _, _, _, _]) | exact rfl) pt_nil) (by decide) (by decide) (by exact (rfl : _ = some [_, _, _, _, _])) (by exact (rfl : _ = [_, _, _, _, _])) (by exact rfl) (by exact rfl)) ?_
                refine s_s rfl rfl (as_append rfl rfl hv2 rfl rfl (by decide) (by exact len_lstU _) (by exact rfl) (by show _ * 64 ≤ _; simp only [rowsU, rowU, List.length_map, List.length_range]; omega) (by show _ ≤ 9223372036854775807; simp only [rowsU, rowU, List.length_map, List.length_range]; omega)) ?_
                refine s_q rfl rfl (q_mv (.inr rfl) (by first | exact is_im rfl | exact is_gs rfl | exact is_lit rfl | exact is_ms rfl | exact is_sc rfl | exact rfl)) ?_
                refine s_nil (b_n (n_n (w_reg (s_q rfl rfl (q_mv (.inl rfl) (is_sc rfl)) ?_))))
                refine s_q rfl rfl (q_add rfl rfl rfl) ?_
                refine s_q rfl rfl (q_mv (.inr rfl) (is_sc rfl)) ?_
                refine s_nil (n_n ?_)
                have hw : IntKind.i64.wrap ((k : Int) + 1) = ((k + 1 : Nat) : Int) := wrap_nat (by omega)
                refine ⟨⟨k + 1, ln2, _, _, _, hklt, ⟨rfl, rfl, rfl, rfl, rfl, rfl, ?_, i64_eq hw, trivial⟩, rfl, live_app_old (A := ⟨_, live2, ln2, noHeap⟩) hv hne, live_app ⟨_, live2, ln2, noHeap⟩ t2, Nat.lt_succ_of_lt htl, Nat.lt_succ_self _, Nat.ne_of_lt htl⟩, ?_⟩
                · rw [rowU_succ, hcell, List.flatMap_append, List.length_append]; rfl
                · show c - (IntKind.i64.wrap ((k : Int) + 1)).toNat < c - (k : Int).toNat
                  rw [hw]; omega
            · have hkge : c ≤ k := by have h' : ¬ (k : Int) < ((c : Nat) : Int) := of_decide_eq_false h33; omega
              have hkc : c = k := by omega
              subst hkc
              refine w_exit (n_e (n_e (b_hit (n_n (w_reg (s_q rfl rfl (q_mv (.inl rfl) (by first | exact is_im rfl | exact is_gs rfl | exact is_lit rfl | exact is_ms rfl | exact is_sc rfl | exact rfl)) ?_))))))
              refine s_q rfl rfl (q_mv (.inl rfl) (by first | exact is_im rfl | exact is_gs rfl | exact is_lit rfl | exact is_ms rfl | exact is_sc rfl | exact rfl)) ?_
              refine s_q rfl rfl (q_bs rfl (pt_cons (by first | exact is_im rfl | exact is_gs rfl | exact is_lit rfl | exact is_ms rfl | exact is_sc rfl | exact rfl) pt_nil) (by decide) (by decide) (by exact (rfl : _ = some [_])) (by exact (rfl : _ = [_])) (by exact rfl) (by exact rfl)) ?_
              refine s_s rfl rfl (as_append rfl rfl hv rfl rfl (by decide) (by simp [List.length_map]) (by exact rfl) (by show _ * 24 ≤ _; simp only [rowsU, rowU, List.length_map, List.length_range]; omega) (by show _ ≤ 9223372036854775807; simp only [rowsU, rowU, List.length_map, List.length_range]; omega)) ?_
              refine s_q rfl rfl (q_mv (.inr rfl) (by first | exact is_im rfl | exact is_gs rfl | exact is_lit rfl | exact is_ms rfl | exact is_sc rfl | exact rfl)) ?_
              refine s_nil (b_n (n_n (w_reg (s_q rfl rfl (q_mv (.inl rfl) (is_sc rfl)) ?_))))
              refine s_q rfl rfl (q_add rfl rfl rfl) ?_
              refine s_q rfl rfl (q_mv (.inr rfl) (is_sc rfl)) ?_
              refine s_nil (n_n ?_)
              have hw : IntKind.i64.wrap ((i : Int) + 1) = ((i + 1 : Nat) : Int) := wrap_nat (by omega)
              refine ⟨⟨i + 1, ln2, o ++ [], _, _, hlt, ⟨rfl, rfl, rfl, rfl, ?_, i64_eq hw, trivial⟩, rfl, live_app ⟨_, live2, ln2, noHeap⟩ t, Nat.lt_succ_self _⟩, ?_⟩
              · rw [rowsU_succ, List.map_append, List.length_append]; rfl
              · show m - (IntKind.i64.wrap ((i : Int) + 1)).toNat < m - (i : Int).toNat
                rw [hw]; omega
        · have hge : m ≤ i := by have h' : ¬ (i : Int) < ((m : Nat) : Int) := of_decide_eq_false h28; omega
          have him : m = i := by omega
          subst him
          refine w_exit (n_e (n_e (b_hit (n_n (w_seq (w_reg (s_q rfl rfl (q_mv (.inl rfl) (by first | exact is_im rfl | exact is_gs rfl | exact is_lit rfl | exact is_ms rfl | exact is_sc rfl | exact rfl)) ?_)))))))
          refine s_q rfl rfl (q_call rfl rfl rfl rfl (pf_table _)) ?_
          refine s_u rfl rfl (as_st rfl rfl (by first | exact (rfl : _ = D.agg [_, _, _, _, _]) | exact rfl) rfl (by exact rfl) (by exact rfl) (by exact Nat.le_of_ble_eq_true rfl) (by exact (rfl : _ = [_, _, _, _, _]))) ?_
          refine s_nil (n_n (w_ret ?_))
          -- end 0
          refine r_r (ra_cell (by exact (rfl : _ = some (D.agg [_, _, _, _, _]))) ra_nil) (by first | exact (rfl : _ = D.agg [_, _, _, _, _]) | exact rfl) (by exact rfl) sub_no ?_
          rfl
    · have hm : m = L.length / c := by have h' : ¬ ((L.length / c : Nat) : Int) = 0 := of_decide_eq_false h25; rw [← hm0]; exact if_neg (by omega)
      refine w_skip (n_n (w_seq (w_reg (s_s rfl rfl (as_nil (e := 29) (.inl rfl) rfl) ?_))))
      refine s_nil (n_n (w_seq (w_seq (w_reg (s_q rfl rfl (q_mv (.inr rfl) (is_sc rfl)) ?_)))))
      refine s_nil (n_n (w_block ?_))
      refine w_loop (fun env A => ∃ (i t : Nat) (o : List LO) (live : Nat → Bool) (ln : Nat), i ≤ m ∧ Binds env [(0, itL L), (1, i64 c), (4, .box 0 0), (5, i64 m), (6, .gs t 29 ((rowsU L c i).map lstU) (rowsU L c i).length), (7, i64 i)] ∧ A = ⟨(.cells [.sc (.int .i64 0), .sc (.int .i64 0), .sc (.int .i64 0), .sc (.string ⟨⟨[]⟩⟩), .sc (.slice none 0 0)] :: o), live, ln, noHeap⟩ ∧ live t = true ∧ t < ln) (fun env _ => m - ctr (env 7)) ?_ ?_
      · exact ⟨0, 0, [], _, _, Nat.zero_le _, ⟨rfl, rfl, rfl, (by first | exact i64_eq (congrArg Nat.cast hm.symm) | exact i64_eq (by rw [hm])), rfl, rfl, trivial⟩, rfl, rfl, Nat.lt_succ_self _⟩
      · rintro env A ⟨i, t, o, live, ln, hi, hB, rfl, hv, htl⟩
        rw [hB.eq]; clear hB
        rw [show (⟨(.cells [.sc (.int .i64 0), .sc (.int .i64 0), .sc (.int .i64 0), .sc (.string ⟨⟨[]⟩⟩), .sc (.slice none 0 0)] :: o), live, ln, noHeap⟩ : AH) = ⟨(.cells [.sc (.int .i64 0), .sc (.int .i64 0), .sc (.int .i64 0), .sc (.string ⟨⟨[]⟩⟩), .sc (.slice none 0 0)] :: o) ++ [], live, ln, noHeap⟩ by rw [List.append_nil]]
        refine w_seq (w_seq (w_reg (s_q rfl rfl (q_mv (.inl rfl) (is_sc rfl)) ?_)))
        refine s_q rfl rfl (q_mv (.inl rfl) (is_sc rfl)) ?_
        refine s_q rfl rfl (q_lss rfl rfl rfl) ?_
        refine s_nil (n_n (w_if (is_scb rfl) (fun h28 => ?_) (fun h28 => ?_)))
        · have hlt : i < m := by have h' : (i : Int) < ((m : Nat) : Int) := of_decide_eq_true h28; omega
          have hic : i * c ≤ 120 * 6 := Nat.mul_le_mul (by omega) (by omega)
          refine w_skip (n_n (w_seq (w_block (w_seq (w_reg (s_s rfl rfl (as_nil (e := 27) (.inl rfl) rfl) ?_))))))
          refine s_nil (n_n (w_seq (w_seq (w_reg (s_q rfl rfl (q_mv (.inr rfl) (is_sc rfl)) ?_)))))
          refine s_nil (n_n (w_block ?_))
          refine w_loop (fun env A => ∃ (k t2 : Nat) (o : List LO) (live2 : Nat → Bool) (ln2 : Nat), k ≤ c ∧ Binds env [(0, itL L), (1, i64 c), (4, .box 0 0), (5, i64 m), (6, .gs t 29 ((rowsU L c i).map lstU) (rowsU L c i).length), (7, i64 i), (8, .gs t2 27 ((rowU L c i k).flatMap U.c) (rowU L c i k).length), (9, i64 k)] ∧ A = ⟨(.cells [.sc (.int .i64 0), .sc (.int .i64 0), .sc (.int .i64 0), .sc (.string ⟨⟨[]⟩⟩), .sc (.slice none 0 0)] :: o), live2, ln2, noHeap⟩ ∧ live2 t = true ∧ live2 t2 = true ∧ t < ln2 ∧ t2 < ln2 ∧ t ≠ t2) (fun env _ => c - ctr (env 9)) ?_ ?_
          · exact ⟨0, _, o, _, _, Nat.zero_le _, ⟨rfl, rfl, rfl, rfl, rfl, rfl, rfl, rfl, trivial⟩, by rw [List.append_nil]; rfl, live_tags_old (A := ⟨_, live, ln, noHeap⟩) hv, live_tags ⟨_, live, ln, noHeap⟩, Nat.lt_succ_of_lt htl, Nat.lt_succ_self _, Nat.ne_of_lt htl⟩
          · clear hv htl
            rintro env A ⟨k, t2, o, live2, ln2, hk, hB, rfl, hv, hv2, htl, htl2, hne⟩
            rw [hB.eq]; clear hB
            rw [show (⟨(.cells [.sc (.int .i64 0), .sc (.int .i64 0), .sc (.int .i64 0), .sc (.string ⟨⟨[]⟩⟩), .sc (.slice none 0 0)] :: o), live2, ln2, noHeap⟩ : AH) = ⟨(.cells [.sc (.int .i64 0), .sc (.int .i64 0), .sc (.int .i64 0), .sc (.string ⟨⟨[]⟩⟩), .sc (.slice none 0 0)] :: o) ++ [], live2, ln2, noHeap⟩ by rw [List.append_nil]]
            refine w_seq (w_seq (w_reg (s_q rfl rfl (q_mv (.inl rfl) (is_sc rfl)) ?_)))
            refine s_q rfl rfl (q_mv (.inl rfl) (is_sc rfl)) ?_
            refine s_q rfl rfl (q_lss rfl rfl rfl) ?_
            refine s_nil (n_n (w_if (is_scb rfl) (fun h33 => ?_) (fun h33 => ?_)))
            · have hklt : k < c := by have h' : (k : Int) < ((c : Nat) : Int) := of_decide_eq_true h33; omega
              refine w_skip (n_n (w_seq (w_block (w_seq (w_reg (s_q rfl rfl (q_build rfl pt_nil (by exact (rfl : _ = some [_, _, _, _, _]))) ?_))))))
              refine s_s rfl rfl (as_allocT (os := (.cells [.sc (.int .i64 0), .sc (.int .i64 0), .sc (.int .i64 0), .sc (.string ⟨⟨[]⟩⟩), .sc (.slice none 0 0)] :: o)) (tail := []) rfl rfl rfl (by exact (rfl : _ = [_, _, _, _, _]))) ?_
              refine s_u rfl rfl (as_stT (os := (.cells [.sc (.int .i64 0), .sc (.int .i64 0), .sc (.int .i64 0), .sc (.string ⟨⟨[]⟩⟩), .sc (.slice none 0 0)] :: o)) (tail := [_]) (j := 0) rfl rfl rfl (by first | exact (rfl : _ = D.agg [_, _, _, _, _]) | exact rfl) (by exact rfl) (by exact rfl) (by exact rfl) (by exact Nat.le_of_ble_eq_true rfl) (by exact (rfl : _ = [_, _, _, _, _])) (by exact (rfl : _ = [_]))) ?_
              refine s_nil (n_n (w_seq (w_seq (w_reg (s_q rfl rfl (q_mv (.inl rfl) (is_sc rfl)) ?_)))))
              refine s_q rfl rfl (q_mv (.inl rfl) (is_sc rfl)) ?_
              refine s_q rfl rfl (q_as (i64_eq (show IntKind.i64.wrap (((i : Nat) : Int) * ((c : Nat) : Int)) = ((i * c : Nat) : Int) by rw [← Int.natCast_mul]; exact wrap_id (by omega) (by omega))) (q_mul rfl rfl rfl)) ?_
              refine s_q rfl rfl (q_mv (.inl rfl) (is_sc rfl)) ?_
              refine s_q rfl rfl (q_as (i64_eq (show IntKind.i64.wrap (((i * c : Nat) : Int) + ((k : Nat) : Int)) = ((i * c + k : Nat) : Int) by rw [wrap_id (by omega) (by omega)]; omega)) (q_add rfl rfl rfl)) ?_
              refine s_q rfl rfl (q_mv (.inr rfl) (is_sc rfl)) ?_
              refine s_nil (n_n (w_seq (w_reg (s_q rfl rfl (q_mv (.inl rfl) (is_sc rfl)) ?_))))
              refine s_q rfl rfl (q_mv (.inl rfl) (by first | exact is_im rfl | exact is_gs rfl | exact is_lit rfl | exact is_ms rfl | exact is_sc rfl | exact rfl)) ?_
              refine s_q rfl rfl (q_len rfl rfl rfl) ?_
              refine s_q rfl rfl (q_lss rfl rfl rfl) ?_
              refine s_nil (n_n (w_if (is_scb rfl) (fun h45 => ?_) (fun h45 => ?_)))
              · have hn : i * c + k < L.length := by have h' : ((i * c + k : Nat) : Int) < ((L.length : Nat) : Int) := of_decide_eq_true h45; omega
                have hcell : cellU L (i * c + k) = itU L[i * c + k] := dif_pos hn
                refine w_reg (s_q rfl rfl (q_mv (.inl rfl) (by first | exact is_im rfl | exact is_gs rfl | exact is_lit rfl | exact is_ms rfl | exact is_sc rfl | exact rfl)) ?_)
                refine s_q rfl rfl (q_mv (.inl rfl) (is_sc rfl)) ?_
                refine s_q rfl rfl (q_index rfl rfl rfl rfl (Int.natCast_nonneg _) (by show ((i * c + k : Nat) : Int) < ((L.length : Nat) : Int); omega)) ?_
                refine s_q rfl rfl (q_loadPin rfl rfl (by exact take_itl hn)) ?_
                refine s_q rfl rfl (q_call rfl rfl rfl rfl (pf_val _)) ?_
                refine s_u rfl rfl (as_stT (os := (.cells [.sc (.int .i64 0), .sc (.int .i64 0), .sc (.int .i64 0), .sc (.string ⟨⟨[]⟩⟩), .sc (.slice none 0 0)] :: o)) (tail := [_]) (j := 0) rfl rfl rfl (by first | exact (rfl : _ = D.agg [_, _, _, _, _]) | exact rfl) (by exact rfl) (by exact rfl) (by exact rfl) (by exact Nat.le_of_ble_eq_true rfl) (by exact (rfl : _ = [_, _, _, _, _])) (by exact (rfl : _ = [_]))) ?_
                refine s_nil (n_n (w_reg (s_q rfl rfl (q_mv (.inl rfl) (by first | exact is_im rfl | exact is_gs rfl | exact is_lit rfl | exact is_ms rfl | exact is_sc rfl | exact rfl)) ?_)))
                refine s_q rfl rfl (q_loadT (os := (.cells [.sc (.int .i64 0), .sc (.int .i64 0), .sc (.int .i64 0), .sc (.string ⟨⟨[]⟩⟩), .sc (.slice none 0 0)] :: o)) (tail := [_]) (j := 0) rfl rfl rfl (by exact rfl) (by exact (rfl : _ = some (D.agg [_, _, _, _, _])))) ?_
                refine s_q rfl rfl (q_bs rfl (pt_cons (by first | exact (rfl : _ = D.agg [_, _, _, _, _]) | exact rfl) pt_nil) (by decide) (by decide) (by exact (rfl : _ = some [_, _, _, _, _])) (by exact (rfl : _ = [_, _, _, _, _])) (by exact rfl) (by exact rfl)) ?_
                refine s_s rfl rfl (as_append rfl rfl hv2 rfl rfl (by decide) (by exact len_lstU _) (by exact rfl) (by show _ * 64 ≤ _; simp only [rowsU, rowU, List.length_map, List.length_range]; omega) (by show _ ≤ 9223372036854775807; simp only [rowsU, rowU, List.length_map, List.length_range]; omega)) ?_
                refine s_q rfl rfl (q_mv (.inr rfl) (by first | exact is_im rfl | exact is_gs rfl | exact is_lit rfl | exact is_ms rfl | exact is_sc rfl | exact rfl)) ?_
                refine s_nil (b_n (n_n (w_reg (s_q rfl rfl (q_mv (.inl rfl) (is_sc rfl)) ?_))))
                refine s_q rfl rfl (q_add rfl rfl rfl) ?_
                refine s_q rfl rfl (q_mv (.inr rfl) (is_sc rfl)) ?_
                refine s_nil (n_n ?_)
                have hw : IntKind.i64.wrap ((k : Int) + 1) = ((k + 1 : Nat) : Int) := wrap_nat (by omega)
                refine ⟨⟨k + 1, ln2, _, _, _, hklt, ⟨rfl, rfl, rfl, rfl, rfl, rfl, ?_, i64_eq hw, trivial⟩, rfl, live_app_old (A := ⟨_, live2, ln2, noHeap⟩) hv hne, live_app ⟨_, live2, ln2, noHeap⟩ t2, Nat.lt_succ_of_lt htl, Nat.lt_succ_self _, Nat.ne_of_lt htl⟩, ?_⟩
                · rw [rowU_succ, hcell, List.flatMap_append, List.length_append]; rfl
                · show c - (IntKind.i64.wrap ((k : Int) + 1)).toNat < c - (k : Int).toNat
                  rw [hw]; omega
              · have hn : ¬ i * c + k < L.length := by have h' : ¬ ((i * c + k : Nat) : Int) < ((L.length : Nat) : Int) := of_decide_eq_false h45; omega
                have hcell : cellU L (i * c + k) = noU := dif_neg hn
                refine w_skip (n_n (w_reg (s_q rfl rfl (q_mv (.inl rfl) (by first | exact is_im rfl | exact is_gs rfl | exact is_lit rfl | exact is_ms rfl | exact is_sc rfl | exact rfl)) ?_)))
                refine s_q rfl rfl (q_loadT (os := (.cells [.sc (.int .i64 0), .sc (.int .i64 0), .sc (.int .i64 0), .sc (.string ⟨⟨[]⟩⟩), .sc (.slice none 0 0)] :: o)) (tail := [_]) (j := 0) rfl rfl rfl (by exact rfl) (by exact (rfl : _ = some (D.agg [_, _, _, _, _])))) ?_
                refine s_q rfl rfl (q_bs rfl (pt_cons (by first | exact (rfl : _ = D.agg [_, _, _, _, _]) | exact rfl) pt_nil) (by decide) (by decide) (by exact (rfl : _ = some [_, _, _, _, _])) (by exact (rfl : _ = [_, _, _, _, _])) (by exact rfl) (by exact rfl)) ?_
                refine s_s rfl rfl (as_append rfl rfl hv2 rfl rfl (by decide) (by exact len_lstU _) (by exact rfl) (by show _ * 64 ≤ _; simp only [rowsU, rowU, List.length_map, List.length_range]; omega) (by show _ ≤ 9223372036854775807; simp only [rowsU, rowU, List.length_map, List.length_range]; omega)) ?_
                refine s_q rfl rfl (q_mv (.inr rfl) (by first | exact is_im rfl | exact is_gs rfl | exact is_lit rfl | exact is_ms rfl | exact is_sc rfl | exact rfl)) ?_
                refine s_nil (b_n (n_n (w_reg (s_q rfl rfl (q_mv (.inl rfl) (is_sc rfl)) ?_))))
                refine s_q rfl rfl (q_add rfl rfl rfl) ?_
                refine s_q rfl rfl (q_mv (.inr rfl) (is_sc rfl)) ?_
                refine s_nil (n_n ?_)
                have hw : IntKind.i64.wrap ((k : Int) + 1) = ((k + 1 : Nat) : Int) := wrap_nat (by omega)
                refine ⟨⟨k + 1, ln2, _, _, _, hklt, ⟨rfl, rfl, rfl, rfl, rfl, rfl, ?_, i64_eq hw, trivial⟩, rfl, live_app_old (A := ⟨_, live2, ln2, noHeap⟩) hv hne, live_app ⟨_, live2, ln2, noHeap⟩ t2, Nat.lt_succ_of_lt htl, Nat.lt_succ_self _, Nat.ne_of_lt htl⟩, ?_⟩
                · rw [rowU_succ, hcell, List.flatMap_append, List.length_append]; rfl
                · show c - (IntKind.i64.wrap ((k : Int) + 1)).toNat < c - (k : Int).toNat
                  rw [hw]; omega
            · have hkge : c ≤ k := by have h' : ¬ (k : Int) < ((c : Nat) : Int) := of_decide_eq_false h33; omega
              have hkc : c = k := by omega
              subst hkc
              refine w_exit (n_e (n_e (b_hit (n_n (w_reg (s_q rfl rfl (q_mv (.inl rfl) (by first | exact is_im rfl | exact is_gs rfl | exact is_lit rfl | exact is_ms rfl | exact is_sc rfl | exact rfl)) ?_))))))
              refine s_q rfl rfl (q_mv (.inl rfl) (by first | exact is_im rfl | exact is_gs rfl | exact is_lit rfl | exact is_ms rfl | exact is_sc rfl | exact rfl)) ?_
              refine s_q rfl rfl (q_bs rfl (pt_cons (by first | exact is_im rfl | exact is_gs rfl | exact is_lit rfl | exact is_ms rfl | exact is_sc rfl | exact rfl) pt_nil) (by decide) (by decide) (by exact (rfl : _ = some [_])) (by exact (rfl : _ = [_])) (by exact rfl) (by exact rfl)) ?_
              refine s_s rfl rfl (as_append rfl rfl hv rfl rfl (by decide) (by simp [List.length_map]) (by exact rfl) (by show _ * 24 ≤ _; simp only [rowsU, rowU, List.length_map, List.length_range]; omega) (by show _ ≤ 9223372036854775807; simp only [rowsU, rowU, List.length_map, List.length_range]; omega)) ?_
              refine s_q rfl rfl (q_mv (.inr rfl) (by first | exact is_im rfl | exact is_gs rfl | exact is_lit rfl | exact is_ms rfl | exact is_sc rfl | exact rfl)) ?_
              refine s_nil (b_n (n_n (w_reg (s_q rfl rfl (q_mv (.inl rfl) (is_sc rfl)) ?_))))
              refine s_q rfl rfl (q_add rfl rfl rfl) ?_
              refine s_q rfl rfl (q_mv (.inr rfl) (is_sc rfl)) ?_
              refine s_nil (n_n ?_)
              have hw : IntKind.i64.wrap ((i : Int) + 1) = ((i + 1 : Nat) : Int) := wrap_nat (by omega)
              refine ⟨⟨i + 1, ln2, o ++ [], _, _, hlt, ⟨rfl, rfl, rfl, rfl, ?_, i64_eq hw, trivial⟩, rfl, live_app ⟨_, live2, ln2, noHeap⟩ t, Nat.lt_succ_self _⟩, ?_⟩
              · rw [rowsU_succ, List.map_append, List.length_append]; rfl
              · show m - (IntKind.i64.wrap ((i : Int) + 1)).toNat < m - (i : Int).toNat
                rw [hw]; omega
        · have hge : m ≤ i := by have h' : ¬ (i : Int) < ((m : Nat) : Int) := of_decide_eq_false h28; omega
          have him : m = i := by omega
          subst him
          refine w_exit (n_e (n_e (b_hit (n_n (w_seq (w_reg (s_q rfl rfl (q_mv (.inl rfl) (by first | exact is_im rfl | exact is_gs rfl | exact is_lit rfl | exact is_ms rfl | exact is_sc rfl | exact rfl)) ?_)))))))
          refine s_q rfl rfl (q_call rfl rfl rfl rfl (pf_table _)) ?_
          refine s_u rfl rfl (as_st rfl rfl (by first | exact (rfl : _ = D.agg [_, _, _, _, _]) | exact rfl) rfl (by exact rfl) (by exact rfl) (by exact Nat.le_of_ble_eq_true rfl) (by exact (rfl : _ = [_, _, _, _, _]))) ?_
          refine s_nil (n_n (w_ret ?_))
          -- end 1
          refine r_r (ra_cell (by exact (rfl : _ = some (D.agg [_, _, _, _, _]))) ra_nil) (by first | exact (rfl : _ = D.agg [_, _, _, _, _]) | exact rfl) (by exact rfl) sub_no ?_
          rfl
  · have h120 : l = L := by have h' : ¬ (120 : Int) < ((l.length : Nat) : Int) := of_decide_eq_false h17; rw [← hL, List.take_of_length_le (by omega)]
    rw [h120]
    refine w_skip (n_n (w_seq (w_reg (s_q rfl rfl (q_mv (.inl rfl) (by first | exact is_im rfl | exact is_gs rfl | exact is_lit rfl | exact is_ms rfl | exact is_sc rfl | exact rfl)) ?_))))
    refine s_q rfl rfl (q_len rfl rfl rfl) ?_
    refine s_q rfl rfl (q_mv (.inl rfl) (is_sc rfl)) ?_
    refine s_q rfl rfl (q_as (i64_eq (show IntKind.i64.wrap (((L.length : Nat) : Int).tdiv ((c : Nat) : Int)) = ((L.length / c : Nat) : Int) by rw [Int.tdiv_eq_ediv_of_nonneg (by omega), ← Int.natCast_ediv]; exact wrap_id (by omega) (by omega))) (q_quo rfl rfl rfl (by omega))) ?_
    refine s_q rfl rfl (q_mv (.inr rfl) (is_sc rfl)) ?_
    refine s_nil (n_n (w_seq (w_seq (w_reg (s_q rfl rfl (q_mv (.inl rfl) (is_sc rfl)) ?_)))))
    refine s_q rfl rfl (q_eql rfl rfl rfl) ?_
    refine s_nil (n_n (w_if (is_scb rfl) (fun h25 => ?_) (fun h25 => ?_)))
    · have hm : m = 1 := by have h' : ((L.length / c : Nat) : Int) = 0 := of_decide_eq_true h25; rw [← hm0]; exact if_pos (by omega)
      refine w_reg (s_q rfl rfl (q_mv (.inr rfl) (is_sc rfl)) ?_)
      refine s_nil (n_n (w_seq (w_reg (s_s rfl rfl (as_nil (e := 29) (.inl rfl) rfl) ?_))))
      refine s_nil (n_n (w_seq (w_seq (w_reg (s_q rfl rfl (q_mv (.inr rfl) (is_sc rfl)) ?_)))))
      refine s_nil (n_n (w_block ?_))
      refine w_loop (fun env A => ∃ (i t : Nat) (o : List LO) (live : Nat → Bool) (ln : Nat), i ≤ m ∧ Binds env [(0, itL L), (1, i64 c), (4, .box 0 0), (5, i64 m), (6, .gs t 29 ((rowsU L c i).map lstU) (rowsU L c i).length), (7, i64 i)] ∧ A = ⟨(.cells [.sc (.int .i64 0), .sc (.int .i64 0), .sc (.int .i64 0), .sc (.string ⟨⟨[]⟩⟩), .sc (.slice none 0 0)] :: o), live, ln, noHeap⟩ ∧ live t = true ∧ t < ln) (fun env _ => m - ctr (env 7)) ?_ ?_
      · exact ⟨0, 0, [], _, _, Nat.zero_le _, ⟨rfl, rfl, rfl, (by first | exact i64_eq (congrArg Nat.cast hm.symm) | exact i64_eq (by rw [hm])), rfl, rfl, trivial⟩, rfl, rfl, Nat.lt_succ_self _⟩
      · rintro env A ⟨i, t, o, live, ln, hi, hB, rfl, hv, htl⟩
        rw [hB.eq]; clear hB
        rw [show (⟨(.cells [.sc (.int .i64 0), .sc (.int .i64 0), .sc (.int .i64 0), .sc (.string ⟨⟨[]⟩⟩), .sc (.slice none 0 0)] :: o), live, ln, noHeap⟩ : AH) = ⟨(.cells [.sc (.int .i64 0), .sc (.int .i64 0), .sc (.int .i64 0), .sc (.string ⟨⟨[]⟩⟩), .sc (.slice none 0 0)] :: o) ++ [], live, ln, noHeap⟩ by rw [List.append_nil]]
        refine w_seq (w_seq (w_reg (s_q rfl rfl (q_mv (.inl rfl) (is_sc rfl)) ?_)))
        refine s_q rfl rfl (q_mv (.inl rfl) (is_sc rfl)) ?_
        refine s_q rfl rfl (q_lss rfl rfl rfl) ?_
        refine s_nil (n_n (w_if (is_scb rfl) (fun h28 => ?_) (fun h28 => ?_)))
        · have hlt : i < m := by have h' : (i : Int) < ((m : Nat) : Int) := of_decide_eq_true h28; omega
          have hic : i * c ≤ 120 * 6 := Nat.mul_le_mul (by omega) (by omega)
          refine w_skip (n_n (w_seq (w_block (w_seq (w_reg (s_s rfl rfl (as_nil (e := 27) (.inl rfl) rfl) ?_))))))
          refine s_nil (n_n (w_seq (w_seq (w_reg (s_q rfl rfl (q_mv (.inr rfl) (is_sc rfl)) ?_)))))
          refine s_nil (n_n (w_block ?_))
          refine w_loop (fun env A => ∃ (k t2 : Nat) (o : List LO) (live2 : Nat → Bool) (ln2 : Nat), k ≤ c ∧ Binds env [(0, itL L), (1, i64 c), (4, .box 0 0), (5, i64 m), (6, .gs t 29 ((rowsU L c i).map lstU) (rowsU L c i).length), (7, i64 i), (8, .gs t2 27 ((rowU L c i k).flatMap U.c) (rowU L c i k).length), (9, i64 k)] ∧ A = ⟨(.cells [.sc (.int .i64 0), .sc (.int .i64 0), .sc (.int .i64 0), .sc (.string ⟨⟨[]⟩⟩), .sc (.slice none 0 0)] :: o), live2, ln2, noHeap⟩ ∧ live2 t = true ∧ live2 t2 = true ∧ t < ln2 ∧ t2 < ln2 ∧ t ≠ t2) (fun env _ => c - ctr (env 9)) ?_ ?_
          · exact ⟨0, _, o, _, _, Nat.zero_le _, ⟨rfl, rfl, rfl, rfl, rfl, rfl, rfl, rfl, trivial⟩, by rw [List.append_nil]; rfl, live_tags_old (A := ⟨_, live, ln, noHeap⟩) hv, live_tags ⟨_, live, ln, noHeap⟩, Nat.lt_succ_of_lt htl, Nat.lt_succ_self _, Nat.ne_of_lt htl⟩
          · clear hv htl
            rintro env A ⟨k, t2, o, live2, ln2, hk, hB, rfl, hv, hv2, htl, htl2, hne⟩
            rw [hB.eq]; clear hB
            rw [show (⟨(.cells [.sc (.int .i64 0), .sc (.int .i64 0), .sc (.int .i64 0), .sc (.string ⟨⟨[]⟩⟩), .sc (.slice none 0 0)] :: o), live2, ln2, noHeap⟩ : AH) = ⟨(.cells [.sc (.int .i64 0), .sc (.int .i64 0), .sc (.int .i64 0), .sc (.string ⟨⟨[]⟩⟩), .sc (.slice none 0 0)] :: o) ++ [], live2, ln2, noHeap⟩ by rw [List.append_nil]]
            refine w_seq (w_seq (w_reg (s_q rfl rfl (q_mv (.inl rfl) (is_sc rfl)) ?_)))
            refine s_q rfl rfl (q_mv (.inl rfl) (is_sc rfl)) ?_
            refine s_q rfl rfl (q_lss rfl rfl rfl) ?_
            refine s_nil (n_n (w_if (is_scb rfl) (fun h33 => ?_) (fun h33 => ?_)))
            · have hklt : k < c := by have h' : (k : Int) < ((c : Nat) : Int) := of_decide_eq_true h33; omega
              refine w_skip (n_n (w_seq (w_block (w_seq (w_reg (s_q rfl rfl (q_build rfl pt_nil (by exact (rfl : _ = some [_, _, _, _, _]))) ?_))))))
              refine s_s rfl rfl (as_allocT (os := (.cells [.sc (.int .i64 0), .sc (.int .i64 0), .sc (.int .i64 0), .sc (.string ⟨⟨[]⟩⟩), .sc (.slice none 0 0)] :: o)) (tail := []) rfl rfl rfl (by exact (rfl : _ = [_, _, _, _, _]))) ?_
              refine s_u rfl rfl (as_stT (os := (.cells [.sc (.int .i64 0), .sc (.int .i64 0), .sc (.int .i64 0), .sc (.string ⟨⟨[]⟩⟩), .sc (.slice none 0 0)] :: o)) (tail := [_]) (j := 0) rfl rfl rfl (by first | exact (rfl : _ = D.agg [_, _, _, _, _]) | exact rfl) (by exact rfl) (by exact rfl) (by exact rfl) (by exact Nat.le_of_ble_eq_true rfl) (by exact (rfl : _ = [_, _, _, _, _])) (by exact (rfl : _ = [_]))) ?_
              refine s_nil (n_n (w_seq (w_seq (w_reg (s_q rfl rfl (q_mv (.inl rfl) (is_sc rfl)) ?_)))))
              refine s_q rfl rfl (q_mv (.inl rfl) (is_sc rfl)) ?_
              refine s_q rfl rfl (q_as (i64_eq (show IntKind.i64.wrap (((i : Nat) : Int) * ((c : Nat) : Int)) = ((i * c : Nat) : Int) by rw [← Int.natCast_mul]; exact wrap_id (by omega) (by omega))) (q_mul rfl rfl rfl)) ?_
              refine s_q rfl rfl (q_mv (.inl rfl) (is_sc rfl)) ?_
              refine s_q rfl rfl (q_as (i64_eq (show IntKind.i64.wrap (((i * c : Nat) : Int) + ((k : Nat) : Int)) = ((i * c + k : Nat) : Int) by rw [wrap_id (by omega) (by omega)]; omega)) (q_add rfl rfl rfl)) ?_
              refine s_q rfl rfl (q_mv (.inr rfl) (is_sc rfl)) ?_
              refine s_nil (n_n (w_seq (w_reg (s_q rfl rfl (q_mv (.inl rfl) (is_sc rfl)) ?_))))
              refine s_q rfl rfl (q_mv (.inl rfl) (by first | exact is_im rfl | exact is_gs rfl | exact is_lit rfl | exact is_ms rfl | exact is_sc rfl | exact rfl)) ?_
              refine s_q rfl rfl (q_len rfl rfl rfl) ?_
              refine s_q rfl rfl (q_lss rfl rfl rfl) ?_
              refine s_nil (n_n (w_if (is_scb rfl) (fun h45 => ?_) (fun h45 => ?_)))
              · have hn : i * c + k < L.length := by have h' : ((i * c + k : Nat) : Int) < ((L.length : Nat) : Int) := of_decide_eq_true h45; omega
                have hcell : cellU L (i * c + k) = itU L[i * c + k] := dif_pos hn
                refine w_reg (s_q rfl rfl (q_mv (.inl rfl) (by first | exact is_im rfl | exact is_gs rfl | exact is_lit rfl | exact is_ms rfl | exact is_sc rfl | exact rfl)) ?_)
                refine s_q rfl rfl (q_mv (.inl rfl) (is_sc rfl)) ?_
                refine s_q rfl rfl (q_index rfl rfl rfl rfl (Int.natCast_nonneg _) (by show ((i * c + k : Nat) : Int) < ((L.length : Nat) : Int); omega)) ?_
                refine s_q rfl rfl (q_loadPin rfl rfl (by exact take_itl hn)) ?_
                refine s_q rfl rfl (q_call rfl rfl rfl rfl (pf_val _)) ?_
                refine s_u rfl rfl (as_stT (os := (.cells [.sc (.int .i64 0), .sc (.int .i64 0), .sc (.int .i64 0), .sc (.string ⟨⟨[]⟩⟩), .sc (.slice none 0 0)] :: o)) (tail := [_]) (j := 0) rfl rfl rfl (by first | exact (rfl : _ = D.agg [_, _, _, _, _]) | exact rfl) (by exact rfl) (by exact rfl) (by exact rfl) (by exact Nat.le_of_ble_eq_true rfl) (by exact (rfl : _ = [_, _, _, _, _])) (by exact (rfl : _ = [_]))) ?_
                refine s_nil (n_n (w_reg (s_q rfl rfl (q_mv (.inl rfl) (by first | exact is_im rfl | exact is_gs rfl | exact is_lit rfl | exact is_ms rfl | exact is_sc rfl | exact rfl)) ?_)))
                refine s_q rfl rfl (q_loadT (os := (.cells [.sc (.int .i64 0), .sc (.int .i64 0), .sc (.int .i64 0), .sc (.string ⟨⟨[]⟩⟩), .sc (.slice none 0 0)] :: o)) (tail := [_]) (j := 0) rfl rfl rfl (by exact rfl) (by exact (rfl : _ = some (D.agg [_, _, _, _, _])))) ?_
                refine s_q rfl rfl (q_bs rfl (pt_cons (by first | exact (rfl : _ = D.agg [_, _, _, _, _]) | exact rfl) pt_nil) (by decide) (by decide) (by exact (rfl : _ = some [_, _, _, _, _])) (by exact (rfl : _ = [_, _, _, _, _])) (by exact rfl) (by exact rfl)) ?_
                refine s_s rfl rfl (as_append rfl rfl hv2 rfl rfl (by decide) (by exact len_lstU _) (by exact rfl) (by show _ * 64 ≤ _; simp only [rowsU, rowU, List.length_map, List.length_range]; omega) (by show _ ≤ 9223372036854775807; simp only [rowsU, rowU, List.length_map, List.length_range]; omega)) ?_
                refine s_q rfl rfl (q_mv (.inr rfl) (by first | exact is_im rfl | exact is_gs rfl | exact is_lit rfl | exact is_ms rfl | exact is_sc rfl | exact rfl)) ?_
                refine s_nil (b_n (n_n (w_reg (s_q rfl rfl (q_mv (.inl rfl) (is_sc rfl)) ?_))))
                refine s_q rfl rfl (q_add rfl rfl rfl) ?_
                refine s_q rfl rfl (q_mv (.inr rfl) (is_sc rfl)) ?_
                refine s_nil (n_n ?_)
                have hw : IntKind.i64.wrap ((k : Int) + 1) = ((k + 1 : Nat) : Int) := wrap_nat (by omega)
                refine ⟨⟨k + 1, ln2, _, _, _, hklt, ⟨rfl, rfl, rfl, rfl, rfl, rfl, ?_, i64_eq hw, trivial⟩, rfl, live_app_old (A := ⟨_, live2, ln2, noHeap⟩) hv hne, live_app ⟨_, live2, ln2, noHeap⟩ t2, Nat.lt_succ_of_lt htl, Nat.lt_succ_self _, Nat.ne_of_lt htl⟩, ?_⟩
                · rw [rowU_succ, hcell, List.flatMap_append, List.length_append]; rfl
                · show c - (IntKind.i64.wrap ((k : Int) + 1)).toNat < c - (k : Int).toNat
                  rw [hw]; omega
              · have hn : ¬ i * c + k < L.length := by have h' : ¬ ((i * c + k : Nat) : Int) < ((L.length : Nat) : Int) := of_decide_eq_false h45; omega
                have hcell : cellU L (i * c + k) = noU := dif_neg hn
                refine w_skip (n_n (w_reg (s_q rfl rfl (q_mv (.inl rfl) (by first | exact is_im rfl | exact is_gs rfl | exact is_lit rfl | exact is_ms rfl | exact is_sc rfl | exact rfl)) ?_)))
                refine s_q rfl rfl (q_loadT (os := (.cells [.sc (.int .i64 0), .sc (.int .i64 0), .sc (.int .i64 0), .sc (.string ⟨⟨[]⟩⟩), .sc (.slice none 0 0)] :: o)) (tail := [_]) (j := 0) rfl rfl rfl (by exact rfl) (by exact (rfl : _ = some (D.agg [_, _, _, _, _])))) ?_
                refine s_q rfl rfl (q_bs rfl (pt_cons (by first | exact (rfl : _ = D.agg [_, _, _, _, _]) | exact rfl) pt_nil) (by decide) (by decide) (by exact (rfl : _ = some [_, _, _, _, _])) (by exact (rfl : _ = [_, _, _, _, _])) (by exact rfl) (by exact rfl)) ?_
                refine s_s rfl rfl (as_append rfl rfl hv2 rfl rfl (by decide) (by exact len_lstU _) (by exact rfl) (by show _ * 64 ≤ _; simp only [rowsU, rowU, List.length_map, List.length_range]; omega) (by show _ ≤ 9223372036854775807; simp only [rowsU, rowU, List.length_map, List.length_range]; omega)) ?_
                refine s_q rfl rfl (q_mv (.inr rfl) (by first | exact is_im rfl | exact is_gs rfl | exact is_lit rfl | exact is_ms rfl | exact is_sc rfl | exact rfl)) ?_
                refine s_nil (b_n (n_n (w_reg (s_q rfl rfl (q_mv (.inl rfl) (is_sc rfl)) ?_))))
                refine s_q rfl rfl (q_add rfl rfl rfl) ?_
                refine s_q rfl rfl (q_mv (.inr rfl) (is_sc rfl)) ?_
                refine s_nil (n_n ?_)
                have hw : IntKind.i64.wrap ((k : Int) + 1) = ((k + 1 : Nat) : Int) := wrap_nat (by omega)
                refine ⟨⟨k + 1, ln2, _, _, _, hklt, ⟨rfl, rfl, rfl, rfl, rfl, rfl, ?_, i64_eq hw, trivial⟩, rfl, live_app_old (A := ⟨_, live2, ln2, noHeap⟩) hv hne, live_app ⟨_, live2, ln2, noHeap⟩ t2, Nat.lt_succ_of_lt htl, Nat.lt_succ_self _, Nat.ne_of_lt htl⟩, ?_⟩
                · rw [rowU_succ, hcell, List.flatMap_append, List.length_append]; rfl
                · show c - (IntKind.i64.wrap ((k : Int) + 1)).toNat < c - (k : Int).toNat
                  rw [hw]; omega
            · have hkge : c ≤ k := by have h' : ¬ (k : Int) < ((c : Nat) : Int) := of_decide_eq_false h33; omega
              have hkc : c = k := by omega
              subst hkc
              refine w_exit (n_e (n_e (b_hit (n_n (w_reg (s_q rfl rfl (q_mv (.inl rfl) (by first | exact is_im rfl | exact is_gs rfl | exact is_lit rfl | exact is_ms rfl | exact is_sc rfl | exact rfl)) ?_))))))
              refine s_q rfl rfl (q_mv (.inl rfl) (by first | exact is_im rfl | exact is_gs rfl | exact is_lit rfl | exact is_ms rfl | exact is_sc rfl | exact rfl)) ?_
              refine s_q rfl rfl (q_bs rfl (pt_cons (by first | exact is_im rfl | exact is_gs rfl | exact is_lit rfl | exact is_ms rfl | exact is_sc rfl | exact rfl) pt_nil) (by decide) (by decide) (by exact (rfl : _ = some [_])) (by exact (rfl : _ = [_])) (by exact rfl) (by exact rfl)) ?_
              refine s_s rfl rfl (as_append rfl rfl hv rfl rfl (by decide) (by simp [List.length_map]) (by exact rfl) (by show _ * 24 ≤ _; simp only [rowsU, rowU, List.length_map, List.length_range]; omega) (by show _ ≤ 9223372036854775807; simp only [rowsU, rowU, List.length_map, List.length_range]; omega)) ?_
              refine s_q rfl rfl (q_mv (.inr rfl) (by first | exact is_im rfl | exact is_gs rfl | exact is_lit rfl | exact is_ms rfl | exact is_sc rfl | exact rfl)) ?_
              refine s_nil (b_n (n_n (w_reg (s_q rfl rfl (q_mv (.inl rfl) (is_sc rfl)) ?_))))
              refine s_q rfl rfl (q_add rfl rfl rfl) ?_
              refine s_q rfl rfl (q_mv (.inr rfl) (is_sc rfl)) ?_
              refine s_nil (n_n ?_)
              have hw : IntKind.i64.wrap ((i : Int) + 1) = ((i + 1 : Nat) : Int) := wrap_nat (by omega)
              refine ⟨⟨i + 1, ln2, o ++ [], _, _, hlt, ⟨rfl, rfl, rfl, rfl, ?_, i64_eq hw, trivial⟩, rfl, live_app ⟨_, live2, ln2, noHeap⟩ t, Nat.lt_succ_self _⟩, ?_⟩
              · rw [rowsU_succ, List.map_append, List.length_append]; rfl
              · show m - (IntKind.i64.wrap ((i : Int) + 1)).toNat < m - (i : Int).toNat
                rw [hw]; omega
        · have hge : m ≤ i := by have h' : ¬ (i : Int) < ((m : Nat) : Int) := of_decide_eq_false h28; omega
          have him : m = i := by omega
          subst him
          refine w_exit (n_e (n_e (b_hit (n_n (w_seq (w_reg (s_q rfl rfl (q_mv (.inl rfl) (by first | exact is_im rfl | exact is_gs rfl | exact is_lit rfl | exact is_ms rfl | exact is_sc rfl | exact rfl)) ?_)))))))
          refine s_q rfl rfl (q_call rfl rfl rfl rfl (pf_table _)) ?_
          refine s_u rfl rfl (as_st rfl rfl (by first | exact (rfl : _ = D.agg [_, _, _, _, _]) | exact rfl) rfl (by exact rfl) (by exact rfl) (by exact Nat.le_of_ble_eq_true rfl) (by exact (rfl : _ = [_, _, _, _, _]))) ?_
          refine s_nil (n_n (w_ret ?_))
          -- end 2
          refine r_r (ra_cell (by exact (rfl : _ = some (D.agg [_, _, _, _, _]))) ra_nil) (by first | exact (rfl : _ = D.agg [_, _, _, _, _]) | exact rfl) (by exact rfl) sub_no ?_
          rfl
    · have hm : m = L.length / c := by have h' : ¬ ((L.length / c : Nat) : Int) = 0 := of_decide_eq_false h25; rw [← hm0]; exact if_neg (by omega)
      refine w_skip (n_n (w_seq (w_reg (s_s rfl rfl (as_nil (e := 29) (.inl rfl) rfl) ?_))))
      refine s_nil (n_n (w_seq (w_seq (w_reg (s_q rfl rfl (q_mv (.inr rfl) (is_sc rfl)) ?_)))))
      refine s_nil (n_n (w_block ?_))
      refine w_loop (fun env A => ∃ (i t : Nat) (o : List LO) (live : Nat → Bool) (ln : Nat), i ≤ m ∧ Binds env [(0, itL L), (1, i64 c), (4, .box 0 0), (5, i64 m), (6, .gs t 29 ((rowsU L c i).map lstU) (rowsU L c i).length), (7, i64 i)] ∧ A = ⟨(.cells [.sc (.int .i64 0), .sc (.int .i64 0), .sc (.int .i64 0), .sc (.string ⟨⟨[]⟩⟩), .sc (.slice none 0 0)] :: o), live, ln, noHeap⟩ ∧ live t = true ∧ t < ln) (fun env _ => m - ctr (env 7)) ?_ ?_
      · exact ⟨0, 0, [], _, _, Nat.zero_le _, ⟨rfl, rfl, rfl, (by first | exact i64_eq (congrArg Nat.cast hm.symm) | exact i64_eq (by rw [hm])), rfl, rfl, trivial⟩, rfl, rfl, Nat.lt_succ_self _⟩
      · rintro env A ⟨i, t, o, live, ln, hi, hB, rfl, hv, htl⟩
        rw [hB.eq]; clear hB
        rw [show (⟨(.cells [.sc (.int .i64 0), .sc (.int .i64 0), .sc (.int .i64 0), .sc (.string ⟨⟨[]⟩⟩), .sc (.slice none 0 0)] :: o), live, ln, noHeap⟩ : AH) = ⟨(.cells [.sc (.int .i64 0), .sc (.int .i64 0), .sc (.int .i64 0), .sc (.string ⟨⟨[]⟩⟩), .sc (.slice none 0 0)] :: o) ++ [], live, ln, noHeap⟩ by rw [List.append_nil]]
        refine w_seq (w_seq (w_reg (s_q rfl rfl (q_mv (.inl rfl) (is_sc rfl)) ?_)))
        refine s_q rfl rfl (q_mv (.inl rfl) (is_sc rfl)) ?_
        refine s_q rfl rfl (q_lss rfl rfl rfl) ?_
        refine s_nil (n_n (w_if (is_scb rfl) (fun h28 => ?_) (fun h28 => ?_)))
        · have hlt : i < m := by have h' : (i : Int) < ((m : Nat) : Int) := of_decide_eq_true h28; omega
          have hic : i * c ≤ 120 * 6 := Nat.mul_le_mul (by omega) (by omega)
          refine w_skip (n_n (w_seq (w_block (w_seq (w_reg (s_s rfl rfl (as_nil (e := 27) (.inl rfl) rfl) ?_))))))
          refine s_nil (n_n (w_seq (w_seq (w_reg (s_q rfl rfl (q_mv (.inr rfl) (is_sc rfl)) ?_)))))
          refine s_nil (n_n (w_block ?_))
          refine w_loop (fun env A => ∃ (k t2 : Nat) (o : List LO) (live2 : Nat → Bool) (ln2 : Nat), k ≤ c ∧ Binds env [(0, itL L), (1, i64 c), (4, .box 0 0), (5, i64 m), (6, .gs t 29 ((rowsU L c i).map lstU) (rowsU L c i).length), (7, i64 i), (8, .gs t2 27 ((rowU L c i k).flatMap U.c) (rowU L c i k).length), (9, i64 k)] ∧ A = ⟨(.cells [.sc (.int .i64 0), .sc (.int .i64 0), .sc (.int .i64 0), .sc (.string ⟨⟨[]⟩⟩), .sc (.slice none 0 0)] :: o), live2, ln2, noHeap⟩ ∧ live2 t = true ∧ live2 t2 = true ∧ t < ln2 ∧ t2 < ln2 ∧ t ≠ t2) (fun env _ => c - ctr (env 9)) ?_ ?_
          · exact ⟨0, _, o, _, _, Nat.zero_le _, ⟨rfl, rfl, rfl, rfl, rfl, rfl, rfl, rfl, trivial⟩, by rw [List.append_nil]; rfl, live_tags_old (A := ⟨_, live, ln, noHeap⟩) hv, live_tags ⟨_, live, ln, noHeap⟩, Nat.lt_succ_of_lt htl, Nat.lt_succ_self _, Nat.ne_of_lt htl⟩
          · clear hv htl
            rintro env A ⟨k, t2, o, live2, ln2, hk, hB, rfl, hv, hv2, htl, htl2, hne⟩
            rw [hB.eq]; clear hB
            rw [show (⟨(.cells [.sc (.int .i64 0), .sc (.int .i64 0), .sc (.int .i64 0), .sc (.string ⟨⟨[]⟩⟩), .sc (.slice none 0 0)] :: o), live2, ln2, noHeap⟩ : AH) = ⟨(.cells [.sc (.int .i64 0), .sc (.int .i64 0), .sc (.int .i64 0), .sc (.string ⟨⟨[]⟩⟩), .sc (.slice none 0 0)] :: o) ++ [], live2, ln2, noHeap⟩ by rw [List.append_nil]]
            refine w_seq (w_seq (w_reg (s_q rfl rfl (q_mv (.inl rfl) (is_sc rfl)) ?_)))
            refine s_q rfl rfl (q_mv (.inl rfl) (is_sc rfl)) ?_
            refine s_q rfl rfl (q_lss rfl rfl rfl) ?_
            refine s_nil (n_n (w_if (is_scb rfl) (fun h33 => ?_) (fun h33 => ?_)))
            · have hklt : k < c := by have h' : (k : Int) < ((c : Nat) : Int) := of_decide_eq_true h33; omega
              refine w_skip (n_n (w_seq (w_block (w_seq (w_reg (s_q rfl rfl (q_build rfl pt_nil (by exact (rfl : _ = some [_, _, _, _, _]))) ?_))))))
              refine s_s rfl rfl (as_allocT (os := (.cells [.sc (.int .i64 0), .sc (.int .i64 0), .sc (.int .i64 0), .sc (.string ⟨⟨[]⟩⟩), .sc (.slice none 0 0)] :: o)) (tail := []) rfl rfl rfl (by exact (rfl : _ = [_, _, _, _, _]))) ?_
              refine s_u rfl rfl (as_stT (os := (.cells [.sc (.int .i64 0), .sc (.int .i64 0), .sc (.int .i64 0), .sc (.string ⟨⟨[]⟩⟩), .sc (.slice none 0 0)] :: o)) (tail := [_]) (j := 0) rfl rfl rfl (by first | exact (rfl : _ = D.agg [_, _, _, _, _]) | exact rfl) (by exact rfl) (by exact rfl) (by exact rfl) (by exact Nat.le_of_ble_eq_true rfl) (by exact (rfl : _ = [_, _, _, _, _])) (by exact (rfl : _ = [_]))) ?_
              refine s_nil (n_n (w_seq (w_seq (w_reg (s_q rfl rfl (q_mv (.inl rfl) (is_sc rfl)) ?_)))))
              refine s_q rfl rfl (q_mv (.inl rfl) (is_sc rfl)) ?_
              refine s_q rfl rfl (q_as (i64_eq (show IntKind.i64.wrap (((i : Nat) : Int) * ((c : Nat) : Int)) = ((i * c : Nat) : Int) by rw [← Int.natCast_mul]; exact wrap_id (by omega) (by omega))) (q_mul rfl rfl rfl)) ?_
              refine s_q rfl rfl (q_mv (.inl rfl) (is_sc rfl)) ?_
              refine s_q rfl rfl (q_as (i64_eq (show IntKind.i64.wrap (((i * c : Nat) : Int) + ((k : Nat) : Int)) = ((i * c + k : Nat) : Int) by rw [wrap_id (by omega) (by omega)]; omega)) (q_add rfl rfl rfl)) ?_
              refine s_q rfl rfl (q_mv (.inr rfl) (is_sc rfl)) ?_
              refine s_nil (n_n (w_seq (w_reg (s_q rfl rfl (q_mv (.inl rfl) (is_sc rfl)) ?_))))
              refine s_q rfl rfl (q_mv (.inl rfl) (by first | exact is_im rfl | exact is_gs rfl | exact is_lit rfl | exact is_ms rfl | exact is_sc rfl | exact rfl)) ?_
              refine s_q rfl rfl (q_len rfl rfl rfl) ?_
              refine s_q rfl rfl (q_lss rfl rfl rfl) ?_
              refine s_nil (n_n (w_if (is_scb rfl) (fun h45 => ?_) (fun h45 => ?_)))
              · have hn : i * c + k < L.length := by have h' : ((i * c + k : Nat) : Int) < ((L.length : Nat) : Int) := of_decide_eq_true h45; omega
                have hcell : cellU L (i * c + k) = itU L[i * c + k] := dif_pos hn
                refine w_reg (s_q rfl rfl (q_mv (.inl rfl) (by first | exact is_im rfl | exact is_gs rfl | exact is_lit rfl | exact is_ms rfl | exact is_sc rfl | exact rfl)) ?_)
                refine s_q rfl rfl (q_mv (.inl rfl) (is_sc rfl)) ?_
                refine s_q rfl rfl (q_index rfl rfl rfl rfl (Int.natCast_nonneg _) (by show ((i * c + k : Nat) : Int) < ((L.length : Nat) : Int); omega)) ?_
                refine s_q rfl rfl (q_loadPin rfl rfl (by exact take_itl hn)) ?_
                refine s_q rfl rfl (q_call rfl rfl rfl rfl (pf_val _)) ?_
                refine s_u rfl rfl (as_stT (os := (.cells [.sc (.int .i64 0), .sc (.int .i64 0), .sc (.int .i64 0), .sc (.string ⟨⟨[]⟩⟩), .sc (.slice none 0 0)] :: o)) (tail := [_]) (j := 0) rfl rfl rfl (by first | exact (rfl : _ = D.agg [_, _, _, _, _]) | exact rfl) (by exact rfl) (by exact rfl) (by exact rfl) (by exact Nat.le_of_ble_eq_true rfl) (by exact (rfl : _ = [_, _, _, _, _])) (by exact (rfl : _ = [_]))) ?_
                refine s_nil (n_n (w_reg (s_q rfl rfl (q_mv (.inl rfl) (by first | exact is_im rfl | exact is_gs rfl | exact is_lit rfl | exact is_ms rfl | exact is_sc rfl | exact rfl)) ?_)))
                refine s_q rfl rfl (q_loadT (os := (.cells [.sc (.int .i64 0), .sc (.int .i64 0), .sc (.int .i64 0), .sc (.string ⟨⟨[]⟩⟩), .sc (.slice none 0 0)] :: o)) (tail := [_]) (j := 0) rfl rfl rfl (by exact rfl) (by exact (rfl : _ = some (D.agg [_, _, _, _, _])))) ?_
                refine s_q rfl rfl (q_bs rfl (pt_cons (by first | exact (rfl : _ = D.agg [_, _, _, _, _]) | exact rfl) pt_nil) (by decide) (by decide) (by exact (rfl : _ = some [_, _, _, _, _])) (by exact (rfl : _ = [_, _, _, _, _])) (by exact rfl) (by exact rfl)) ?_
                refine s_s rfl rfl (as_append rfl rfl hv2 rfl rfl (by decide) (by exact len_lstU _) (by exact rfl) (by show _ * 64 ≤ _; simp only [rowsU, rowU, List.length_map, List.length_range]; omega) (by show _ ≤ 9223372036854775807; simp only [rowsU, rowU, List.length_map, List.length_range]; omega)) ?_
                refine s_q rfl rfl (q_mv (.inr rfl) (by first | exact is_im rfl | exact is_gs rfl | exact is_lit rfl | exact is_ms rfl | exact is_sc rfl | exact rfl)) ?_
                refine s_nil (b_n (n_n (w_reg (s_q rfl rfl (q_mv (.inl rfl) (is_sc rfl)) ?_))))
                refine s_q rfl rfl (q_add rfl rfl rfl) ?_
                refine s_q rfl rfl (q_mv (.inr rfl) (is_sc rfl)) ?_
                refine s_nil (n_n ?_)
                have hw : IntKind.i64.wrap ((k : Int) + 1) = ((k + 1 : Nat) : Int) := wrap_nat (by omega)
                refine ⟨⟨k + 1, ln2, _, _, _, hklt, ⟨rfl, rfl, rfl, rfl, rfl, rfl, ?_, i64_eq hw, trivial⟩, rfl, live_app_old (A := ⟨_, live2, ln2, noHeap⟩) hv hne, live_app ⟨_, live2, ln2, noHeap⟩ t2, Nat.lt_succ_of_lt htl, Nat.lt_succ_self _, Nat.ne_of_lt htl⟩, ?_⟩
                · rw [rowU_succ, hcell, List.flatMap_append, List.length_append]; rfl
                · show c - (IntKind.i64.wrap ((k : Int) + 1)).toNat < c - (k : Int).toNat
                  rw [hw]; omega
              · have hn : ¬ i * c + k < L.length := by have h' : ¬ ((i * c + k : Nat) : Int) < ((L.length : Nat) : Int) := of_decide_eq_false h45; omega
                have hcell : cellU L (i * c + k) = noU := dif_neg hn
                refine w_skip (n_n (w_reg (s_q rfl rfl (q_mv (.inl rfl) (by first | exact is_im rfl | exact is_gs rfl | exact is_lit rfl | exact is_ms rfl | exact is_sc rfl | exact rfl)) ?_)))
                refine s_q rfl rfl (q_loadT (os := (.cells [.sc (.int .i64 0), .sc (.int .i64 0), .sc (.int .i64 0), .sc (.string ⟨⟨[]⟩⟩), .sc (.slice none 0 0)] :: o)) (tail := [_]) (j := 0) rfl rfl rfl (by exact rfl) (by exact (rfl : _ = some (D.agg [_, _, _, _, _])))) ?_
                refine s_q rfl rfl (q_bs rfl (pt_cons (by first | exact (rfl : _ = D.agg [_, _, _, _, _]) | exact rfl) pt_nil) (by decide) (by decide) (by exact (rfl : _ = some [_, _, _, _, _])) (by exact (rfl : _ = [_, _, _, _, _])) (by exact rfl) (by exact rfl)) ?_
                refine s_s rfl rfl (as_append rfl rfl hv2 rfl rfl (by decide) (by exact len_lstU _) (by exact rfl) (by show _ * 64 ≤ _; simp only [rowsU, rowU, List.length_map, List.length_range]; omega) (by show _ ≤ 9223372036854775807; simp only [rowsU, rowU, List.length_map, List.length_range]; omega)) ?_
                refine s_q rfl rfl (q_mv (.inr rfl) (by first | exact is_im rfl | exact is_gs rfl | exact is_lit rfl | exact is_ms rfl | exact is_sc rfl | exact rfl)) ?_
                refine s_nil (b_n (n_n (w_reg (s_q rfl rfl (q_mv (.inl rfl) (is_sc rfl)) ?_))))
                refine s_q rfl rfl (q_add rfl rfl rfl) ?_
                refine s_q rfl rfl (q_mv (.inr rfl) (is_sc rfl)) ?_
                refine s_nil (n_n ?_)
                have hw : IntKind.i64.wrap ((k : Int) + 1) = ((k + 1 : Nat) : Int) := wrap_nat (by omega)
                refine ⟨⟨k + 1, ln2, _, _, _, hklt, ⟨rfl, rfl, rfl, rfl, rfl, rfl, ?_, i64_eq hw, trivial⟩, rfl, live_app_old (A := ⟨_, live2, ln2, noHeap⟩) hv hne, live_app ⟨_, live2, ln2, noHeap⟩ t2, Nat.lt_succ_of_lt htl, Nat.lt_succ_self _, Nat.ne_of_lt htl⟩, ?_⟩
                · rw [rowU_succ, hcell, List.flatMap_append, List.length_append]; rfl
                · show c - (IntKind.i64.wrap ((k : Int) + 1)).toNat < c - (k : Int).toNat
                  rw [hw]; omega
            · have hkge : c ≤ k := by have h' : ¬ (k : Int) < ((c : Nat) : Int) := of_decide_eq_false h33; omega
              have hkc : c = k := by omega
              subst hkc
              refine w_exit (n_e (n_e (b_hit (n_n (w_reg (s_q rfl rfl (q_mv (.inl rfl) (by first | exact is_im rfl | exact is_gs rfl | exact is_lit rfl | exact is_ms rfl | exact is_sc rfl | exact rfl)) ?_))))))
              refine s_q rfl rfl (q_mv (.inl rfl) (by first | exact is_im rfl | exact is_gs rfl | exact is_lit rfl | exact is_ms rfl | exact is_sc rfl | exact rfl)) ?_
              refine s_q rfl rfl (q_bs rfl (pt_cons (by first | exact is_im rfl | exact is_gs rfl | exact is_lit rfl | exact is_ms rfl | exact is_sc rfl | exact rfl) pt_nil) (by decide) (by decide) (by exact (rfl : _ = some [_])) (by exact (rfl : _ = [_])) (by exact rfl) (by exact rfl)) ?_
              refine s_s rfl rfl (as_append rfl rfl hv rfl rfl (by decide) (by simp [List.length_map]) (by exact rfl) (by show _ * 24 ≤ _; simp only [rowsU, rowU, List.length_map, List.length_range]; omega) (by show _ ≤ 9223372036854775807; simp only [rowsU, rowU, List.length_map, List.length_range]; omega)) ?_
              refine s_q rfl rfl (q_mv (.inr rfl) (by first | exact is_im rfl | exact is_gs rfl | exact is_lit rfl | exact is_ms rfl | exact is_sc rfl | exact rfl)) ?_
              refine s_nil (b_n (n_n (w_reg (s_q rfl rfl (q_mv (.inl rfl) (is_sc rfl)) ?_))))
              refine s_q rfl rfl (q_add rfl rfl rfl) ?_
              refine s_q rfl rfl (q_mv (.inr rfl) (is_sc rfl)) ?_
              refine s_nil (n_n ?_)
              have hw : IntKind.i64.wrap ((i : Int) + 1) = ((i + 1 : Nat) : Int) := wrap_nat (by omega)
              refine ⟨⟨i + 1, ln2, o ++ [], _, _, hlt, ⟨rfl, rfl, rfl, rfl, ?_, i64_eq hw, trivial⟩, rfl, live_app ⟨_, live2, ln2, noHeap⟩ t, Nat.lt_succ_self _⟩, ?_⟩
              · rw [rowsU_succ, List.map_append, List.length_append]; rfl
              · show m - (IntKind.i64.wrap ((i : Int) + 1)).toNat < m - (i : Int).toNat
                rw [hw]; omega
        · have hge : m ≤ i := by have h' : ¬ (i : Int) < ((m : Nat) : Int) := of_decide_eq_false h28; omega
          have him : m = i := by omega
          subst him
          refine w_exit (n_e (n_e (b_hit (n_n (w_seq (w_reg (s_q rfl rfl (q_mv (.inl rfl) (by first | exact is_im rfl | exact is_gs rfl | exact is_lit rfl | exact is_ms rfl | exact is_sc rfl | exact rfl)) ?_)))))))
          refine s_q rfl rfl (q_call rfl rfl rfl rfl (pf_table _)) ?_
          refine s_u rfl rfl (as_st rfl rfl (by first | exact (rfl : _ = D.agg [_, _, _, _, _]) | exact rfl) rfl (by exact rfl) (by exact rfl) (by exact Nat.le_of_ble_eq_true rfl) (by exact (rfl : _ = [_, _, _, _, _]))) ?_
          refine s_nil (n_n (w_ret ?_))
          -- end 3
          refine r_r (ra_cell (by exact (rfl : _ = some (D.agg [_, _, _, _, _]))) ra_nil) (by first | exact (rfl : _ = D.agg [_, _, _, _, _]) | exact rfl) (by exact rfl) sub_no ?_
          rfl


def cntA (l : List It) (cols : Int) (more : List It) : List V := tabV (tabU l cols) :: (more.take 10).map fun x => (itU x).v
def fits1 (l : List It) : Bool := decide (l.length ≤ 2147483647) && l.all fun x => decide (x.text.length ≤ 2147483647)


-- pub-tallysheet/laws.with
theorem pf_with (l : List It) (cols : Int) (more : List It) (h1 : l.length ≤ 2147483647) (h2 : more.length ≤ 2147483647) : PF Tryz.prog G 16 [itL l, i64 cols, itL more] (lst (cntA l cols more)) := by
  refine PC.intro rfl Tryz.func16 rfl (Nat.le_of_ble_eq_true rfl) rfl ?_
  refine w_seq (w_reg (s_q rfl rfl (q_mv (.inr rfl) (by first | exact is_im rfl | exact is_gs rfl | exact is_lit rfl | exact is_ms rfl | exact is_sc rfl | exact rfl)) ?_))
  refine s_nil (n_n (w_seq (w_reg (s_q rfl rfl (q_mv (.inl rfl) (by first | exact is_im rfl | exact is_gs rfl | exact is_lit rfl | exact is_ms rfl | exact is_sc rfl | exact rfl)) ?_))))
  refine s_q rfl rfl (q_mv (.inl rfl) (is_sc rfl)) ?_
  refine s_q rfl rfl (q_call rfl rfl rfl rfl (pf_tableI l cols h1)) ?_
  refine s_q rfl rfl (q_bs rfl (pt_cons (by first | exact (rfl : _ = D.agg [_, _, _, _, _]) | exact rfl) pt_nil) (by decide) (by decide) (by exact (rfl : _ = some [_, _, _, _, _])) (by exact (rfl : _ = [_, _, _, _, _])) (by exact rfl) (by exact rfl)) ?_
  refine s_q rfl rfl (q_mv (.inr rfl) (by first | exact is_im rfl | exact is_gs rfl | exact is_lit rfl | exact is_ms rfl | exact is_sc rfl | exact rfl)) ?_
  refine s_nil (n_n (w_seq (w_seq (w_reg (s_q rfl rfl (q_mv (.inr rfl) (is_sc rfl)) ?_)))))
  refine s_nil (n_n (w_block ?_))
  refine w_loop (fun env A => ∃ (i : Nat) (dd : D) (live : Nat → Bool) (ln : Nat), i ≤ more.length ∧ i ≤ 10 ∧ Binds env [(2, itL more), (7, dd), (8, i64 i)] ∧ IsOwn2 A 27 dd (i + 1) ((tabV (tabU l cols) :: (more.take i).map fun x => (itU x).v).flatMap V.c) ∧ A = ⟨[], live, ln, noHeap⟩) (fun env _ => more.length - ctr (env 8)) ?_ ?_
  · exact ⟨0, _, _, _, Nat.zero_le _, Nat.zero_le _, ⟨rfl, rfl, rfl, trivial⟩, .inl rfl, rfl⟩
  · rintro env A ⟨i, dd, live, ln, hi, hi10, hB, hown, rfl⟩
    rw [hB.eq]; clear hB
    refine w_seq (w_seq (w_reg (s_q rfl rfl (q_mv (.inl rfl) (is_sc rfl)) ?_)))
    refine s_q rfl rfl (q_mv (.inl rfl) (by first | exact is_im rfl | exact is_gs rfl | exact is_lit rfl | exact is_ms rfl | exact is_sc rfl | exact rfl)) ?_
    refine s_q rfl rfl (q_len rfl rfl rfl) ?_
    refine s_q rfl rfl (q_lss rfl rfl rfl) ?_
    refine s_q rfl rfl (q_mv (.inl rfl) (is_sc rfl)) ?_
    refine s_split 17 (is_scb rfl) (fun h17 => ?_) (fun h17 => ?_)
    · have hlt : i < more.length := by have h' : (i : Int) < ((more.length : Nat) : Int) := of_decide_eq_true h17; omega
      refine s_q rfl rfl (q_mv (.inl rfl) (is_sc rfl)) ?_
      refine s_q rfl rfl (q_lss rfl rfl rfl) ?_
      refine s_q rfl rfl (q_pickT rfl rfl (is_sc rfl)) ?_
      refine s_nil (n_n (w_if (is_scb rfl) (fun h20 => ?_) (fun h20 => ?_)))
      · have hlt10 : i < 10 := by have h' : (i : Int) < 10 := of_decide_eq_true h20; omega
        refine w_skip (n_n (w_seq (w_block (w_reg (s_q rfl rfl (q_mv (.inl rfl) (by first | exact is_im rfl | exact is_gs rfl | exact is_lit rfl | exact is_ms rfl | exact is_sc rfl | exact rfl)) ?_)))))
        refine s_q rfl rfl (q_mv (.inl rfl) (by first | exact is_im rfl | exact is_gs rfl | exact is_lit rfl | exact is_ms rfl | exact is_sc rfl | exact rfl)) ?_
        refine s_q rfl rfl (q_mv (.inl rfl) (is_sc rfl)) ?_
        refine s_q rfl rfl (q_index rfl rfl rfl rfl (Int.natCast_nonneg _) (by omega)) ?_
        refine s_q rfl rfl (q_loadPin rfl rfl (by exact take_itl hlt)) ?_
        refine s_q rfl rfl (q_call rfl rfl rfl rfl (pf_val _)) ?_
        refine s_q rfl rfl (q_bs rfl (pt_cons (by first | exact (rfl : _ = D.agg [_, _, _, _, _]) | exact rfl) pt_nil) (by decide) (by decide) (by exact (rfl : _ = some [_, _, _, _, _])) (by exact (rfl : _ = [_, _, _, _, _])) (by exact rfl) (by exact rfl)) ?_
        refine s_o rfl rfl (ao_appendOwn2 (n := i + 1) (m := 1) (xs := ((tabV (tabU l cols) :: (more.take i).map fun x => (itU x).v).flatMap V.c)) rfl rfl hown rfl rfl (by decide) (by decide) (by rw [len_lst]; simp; omega) rfl (by show (i + 1 + 1) * 64 ≤ _; omega) (by show i + 1 + 1 ≤ 9223372036854775807; omega) fun A' e1 e2 e3 => ?_)
        obtain ⟨o2, live2, ln2, h2⟩ := A'
        replace e1 : o2 = [] := e1
        replace e2 : noHeap = h2 := e2.symm
        subst e1; subst e2
        refine s_q rfl rfl (q_mv (.inr rfl) (by first | exact is_im rfl | exact is_gs rfl | exact is_lit rfl | exact is_ms rfl | exact is_sc rfl | exact rfl)) ?_
        refine s_nil (b_n (n_n (w_reg (s_q rfl rfl (q_mv (.inl rfl) (is_sc rfl)) ?_))))
        refine s_q rfl rfl (q_add rfl rfl rfl) ?_
        refine s_q rfl rfl (q_mv (.inr rfl) (is_sc rfl)) ?_
        refine s_nil (n_n ?_)
        have hw : IntKind.i64.wrap ((i : Int) + 1) = ((i + 1 : Nat) : Int) := wrap_nat (by omega)
        refine ⟨⟨i + 1, _, live2, ln2, hlt, hlt10, ⟨rfl, rfl, i64_eq hw, trivial⟩, .inr ⟨ln, ?_, e3⟩, rfl⟩, ?_⟩
        · refine gs_eq ?_ rfl
          rw [List.take_succ_eq_append_getElem hlt, List.map_append, ← List.cons_append, List.flatMap_append]; rfl
        · show more.length - (IntKind.i64.wrap ((i : Int) + 1)).toNat < more.length - (i : Int).toNat
          rw [hw]; omega
      · have hi2 : i = 10 := by have h' : ¬ (i : Int) < 10 := of_decide_eq_false h20; omega
        have htk : more.take i = more.take 10 := by rw [hi2]
        refine w_exit (n_e (n_e (b_hit (n_n (w_seq (w_reg (s_q rfl rfl (q_mv (.inl rfl) (by first | exact is_im rfl | exact is_gs rfl | exact is_lit rfl | exact is_ms rfl | exact is_sc rfl | exact rfl)) ?_)))))))
        refine s_q rfl rfl (q_mv (.inr rfl) (by first | exact is_im rfl | exact is_gs rfl | exact is_lit rfl | exact is_ms rfl | exact is_sc rfl | exact rfl)) ?_
        refine s_nil (n_n (w_ret ?_))
        -- end 0
        refine r_r (ra_tmp (by first | exact is_im rfl | exact is_gs rfl | exact is_lit rfl | exact is_ms rfl | exact is_sc rfl | exact rfl) ra_nil) (by first | exact is_im rfl | exact is_gs rfl | exact is_lit rfl | exact is_ms rfl | exact is_sc rfl | exact rfl) (show ext (fz dd) = true by rw [own2_fz hown]; rfl) sub_no ?_
        show fz dd = _
        rw [own2_fz hown, htk]
        have hln : i + 1 = (cntA l cols more).length := by unfold cntA; rw [← htk]; simp [List.length_take]; omega
        rw [hln]; rfl
    · have hge : more.length ≤ i := by have h' : ¬ (i : Int) < ((more.length : Nat) : Int) := of_decide_eq_false h17; omega
      have htk : more.take i = more.take 10 := by rw [List.take_of_length_le hge, List.take_of_length_le (by omega)]
      refine s_off rfl rfl ?_
      refine s_off rfl rfl ?_
      refine s_q rfl rfl (q_pickF rfl rfl (is_sc rfl)) ?_
      refine s_nil (n_n (w_ifF rfl (w_exit (n_e (n_e (b_hit (n_n (w_seq (w_reg (s_q rfl rfl (q_mv (.inl rfl) (by first | exact is_im rfl | exact is_gs rfl | exact is_lit rfl | exact is_ms rfl | exact is_sc rfl | exact rfl)) ?_))))))))))
      refine s_q rfl rfl (q_mv (.inr rfl) (by first | exact is_im rfl | exact is_gs rfl | exact is_lit rfl | exact is_ms rfl | exact is_sc rfl | exact rfl)) ?_
      refine s_nil (n_n (w_ret ?_))
      -- end 1
      refine r_r (ra_tmp (by first | exact is_im rfl | exact is_gs rfl | exact is_lit rfl | exact is_ms rfl | exact is_sc rfl | exact rfl) ra_nil) (by first | exact is_im rfl | exact is_gs rfl | exact is_lit rfl | exact is_ms rfl | exact is_sc rfl | exact rfl) (show ext (fz dd) = true by rw [own2_fz hown]; rfl) sub_no ?_
      show fz dd = _
      rw [own2_fz hown, htk]
      have hln : i + 1 = (cntA l cols more).length := by unfold cntA; rw [← htk]; simp [List.length_take]; omega
      rw [hln]; rfl


-- pub-tallysheet/laws.zzFits2
theorem pf_zzFits2 (x : It) : PF Tryz.prog G 32 [.agg (It.c x)] (bl (decide (x.text.length ≤ 2147483647))) := by
  refine PC.intro rfl Tryz.func32 rfl (Nat.le_of_ble_eq_true rfl) rfl ?_
  refine w_seq (w_reg (s_s rfl rfl (as_box0 (id := 0) rfl (by first | exact (rfl : _ = D.agg [_, _, _]) | exact rfl) (by exact rfl) rfl (by exact (rfl : _ = [_, _, _]))) ?_))
  refine s_q rfl rfl (q_mv (.inr rfl) (is_sc rfl)) ?_
  refine s_nil (n_n (w_seq (w_seq (w_reg (s_q rfl rfl (q_field rfl rfl (by exact rfl)) ?_)))))
  refine s_q rfl rfl (q_load rfl rfl (by exact (rfl : _ = some (D.sc _)))) ?_
  refine s_q rfl rfl (q_lens rfl rfl) ?_
  refine s_q rfl rfl (q_gtr rfl rfl rfl) ?_
  refine s_nil (n_n (w_if (is_scb rfl) (fun h6 => ?_) (fun h6 => ?_)))
  · have h' : (2147483647 : Int) < ((x.text.length : Nat) : Int) := of_decide_eq_true h6
    refine w_seq (w_reg (s_q rfl rfl (q_mv (.inr rfl) (is_sc rfl)) ?_))
    refine s_nil (n_n (w_ret (n_r ?_)))
    -- end 0
    refine r_r (ra_tmp (is_sc rfl) ra_nil) (by exact (is_sc rfl)) (by exact rfl) sub_no ?_
    rw [decide_eq_false (by omega)]
  · have h' : ¬ (2147483647 : Int) < ((x.text.length : Nat) : Int) := of_decide_eq_false h6
    refine w_skip (n_n (w_seq (w_reg (s_q rfl rfl (q_mv (.inr rfl) (is_sc rfl)) ?_))))
    refine s_nil (n_n (w_ret ?_))
    -- end 1
    refine r_r (ra_tmp (is_sc rfl) ra_nil) (by exact (is_sc rfl)) (by exact rfl) sub_no ?_
    rw [decide_eq_true (by omega)]


-- pub-tallysheet/laws.zzFits1
theorem pf_zzFits1 (l : List It) : PF Tryz.prog G 11 [itL l] (bl (fits1 l)) := by
  refine PC.intro rfl Tryz.func11 rfl (Nat.le_of_ble_eq_true rfl) rfl ?_
  refine w_seq (w_reg (s_q rfl rfl (q_mv (.inr rfl) (is_sc rfl)) ?_))
  refine s_nil (n_n (w_seq (w_seq (w_reg (s_q rfl rfl (q_mv (.inl rfl) (by first | exact is_im rfl | exact is_gs rfl | exact is_lit rfl | exact is_ms rfl | exact is_sc rfl | exact rfl)) ?_)))))
  refine s_q rfl rfl (q_len rfl rfl rfl) ?_
  refine s_q rfl rfl (q_gtr rfl rfl rfl) ?_
  refine s_nil (n_n (w_if (is_scb rfl) (fun h7 => ?_) (fun h7 => ?_)))
  · have h2 : ¬ l.length ≤ 2147483647 := by have h' : (2147483647 : Int) < ((l.length : Nat) : Int) := of_decide_eq_true h7; omega
    refine w_seq (w_reg (s_q rfl rfl (q_mv (.inr rfl) (is_sc rfl)) ?_))
    refine s_nil (n_n (w_ret (n_r ?_)))
    -- end 0
    refine r_r (ra_tmp (is_sc rfl) ra_nil) (by exact (is_sc rfl)) (by exact rfl) sub_no ?_
    rw [show fits1 l = false by unfold fits1; rw [decide_eq_false h2]; rfl] <;> rfl
  · have h2 : l.length ≤ 2147483647 := by have h' : ¬ (2147483647 : Int) < ((l.length : Nat) : Int) := of_decide_eq_false h7; omega
    refine w_skip (n_n (w_seq (w_seq (w_reg (s_q rfl rfl (q_mv (.inl rfl) (by first | exact is_im rfl | exact is_gs rfl | exact is_lit rfl | exact is_ms rfl | exact is_sc rfl | exact rfl)) ?_)))))
    refine s_q rfl rfl (q_len rfl rfl rfl) ?_
    refine s_q rfl rfl (q_mv (.inl rfl) (is_sc rfl)) ?_
    refine s_nil (n_n (w_block ?_))
    refine w_loop (fun env A => ∃ (i : Nat) (o : List LO), i ≤ l.length ∧ (∀ x ∈ l.take i, x.text.length ≤ 2147483647) ∧ Binds env [(8, itL l), (9, i64 l.length), (10, i64 i)] ∧ A = ⟨o, fun _ => false, 0, noHeap⟩) (fun env _ => l.length - ctr (env 10)) ?_ ?_
    · exact ⟨0, [], Nat.zero_le _, by simp, ⟨rfl, rfl, rfl, trivial⟩, rfl⟩
    · rintro env A ⟨i, o, hi, hp, hB, rfl⟩
      rw [hB.eq]; clear hB
      rw [show (⟨o, fun _ => false, 0, noHeap⟩ : AH) = ⟨o ++ [], fun _ => false, 0, noHeap⟩ by rw [List.append_nil]]
      refine w_seq (w_reg (s_q rfl rfl (q_lss rfl rfl rfl) ?_))
      refine s_nil (n_n (w_seq (w_if (is_scb rfl) (fun h11 => ?_) (fun h11 => ?_))))
      · have hlt : i < l.length := by have h' : (i : Int) < ((l.length : Nat) : Int) := of_decide_eq_true h11; omega
        refine w_skip (n_n (w_seq (w_block (w_seq (w_reg (s_q rfl rfl (q_index rfl rfl rfl rfl (Int.natCast_nonneg _) (by omega)) ?_))))))
        refine s_q rfl rfl (q_loadPin rfl rfl (by exact take_itl hlt)) ?_
        refine s_s rfl rfl (as_allocT (os := o) (tail := []) rfl rfl rfl (by exact (rfl : _ = [_, _, _]))) ?_
        refine s_u rfl rfl (as_stT (os := o) (tail := [_]) (j := 0) rfl rfl rfl (by first | exact (rfl : _ = D.agg [_, _, _]) | exact rfl) (by exact rfl) (by exact rfl) (by exact rfl) (by exact Nat.le_of_ble_eq_true rfl) (by exact (rfl : _ = [_, _, _])) (by exact (rfl : _ = [_]))) ?_
        refine s_nil (n_n (w_seq (w_reg (s_q rfl rfl (q_loadT (os := o) (tail := [_]) (j := 0) rfl rfl rfl (by exact rfl) (by exact (rfl : _ = some (D.agg [_, _, _])))) ?_))))
        refine s_q rfl rfl (q_call rfl rfl rfl rfl (pf_zzFits2 _)) ?_
        refine s_q rfl rfl (q_not rfl rfl) ?_
        refine s_nil (n_n (w_if (is_scb rfl) (fun h16 => ?_) (fun h16 => ?_)))
        · have hs : ¬ l[i].text.length ≤ 2147483647 := by simpa using h16
          refine w_seq (w_reg (s_q rfl rfl (q_mv (.inr rfl) (is_sc rfl)) ?_))
          refine s_nil (n_n (w_ret (b_r (n_r (n_r (b_r (n_r ?_)))))))
          -- end 1
          refine r_r (ra_tmp (is_sc rfl) ra_nil) (by exact (is_sc rfl)) (by exact rfl) sub_no ?_
          rw [show fits1 l = false by unfold fits1; rw [List.all_eq_false.2 ⟨_, List.getElem_mem hlt, by simpa using hs⟩, Bool.and_false]] <;> rfl
        · have hs : l[i].text.length ≤ 2147483647 := by simpa using h16
          refine w_skip (b_n (n_n (w_reg (s_q rfl rfl (q_add rfl rfl rfl) ?_))))
          refine s_q rfl rfl (q_mv (.inl rfl) (is_sc rfl)) ?_
          refine s_nil (n_n ?_)
          have hw : IntKind.i64.wrap ((i : Int) + 1) = ((i + 1 : Nat) : Int) := by rw [wrap_id (by omega) (by omega)]; omega
          refine ⟨⟨i + 1, _, hlt, take_more' hlt hp hs, ⟨rfl, rfl, i64_eq hw, trivial⟩, rfl⟩, ?_⟩
          show l.length - (IntKind.i64.wrap ((i : Int) + 1)).toNat < l.length - (i : Int).toNat
          rw [hw]; omega
      · have hge : l.length ≤ i := by have h' : ¬ (i : Int) < ((l.length : Nat) : Int) := of_decide_eq_false h11; omega
        refine w_exit (n_e (n_e (b_hit (n_n (w_seq (w_reg (s_q rfl rfl (q_mv (.inr rfl) (is_sc rfl)) ?_)))))))
        refine s_nil (n_n (w_ret ?_))
        -- end 2
        refine r_r (ra_tmp (is_sc rfl) ra_nil) (by exact (is_sc rfl)) (by exact rfl) sub_no ?_
        rw [show fits1 l = true by unfold fits1; rw [decide_eq_true h2, List.all_eq_true.2 fun s hs => decide_eq_true (take_all' hge hp s hs)]; rfl] <;> rfl

end Go.Proofs.YtopgbalmdocboaaGreatDoor.Zz
