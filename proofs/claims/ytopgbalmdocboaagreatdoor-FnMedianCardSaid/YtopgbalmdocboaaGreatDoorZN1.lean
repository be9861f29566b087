/- Walks of the functions, printed by program, and the logic behind them: each theorem says what one function or one step answers. -/
import Derived.Test.YtopgbalmdocboaaGreatDoorZWe
import Derived.Test.YtopgbalmdocboaaGreatDoorZQ
namespace Go.Proofs.YtopgbalmdocboaaGreatDoor.Zz
open Go.Abs
set_option maxRecDepth 100000
set_option linter.unusedVariables false
set_option linter.unusedSimpArgs false
set_option maxHeartbeats 4000000
variable {G : Nat → D}

-- pub-tallysheet/spec.Frac
theorem pf_frac (n d v : Int) (hd : 0 < d) (hd2 : d ≤ 16) (hv : n * 16 = v * d) (hn : -1125899906842624 ≤ n) (hn2 : n ≤ 1125899906842624) (hl : -1125899906842624 ≤ v) (hl2 : v ≤ 1125899906842624) : PF Tryz.prog G 35 [i64 n, i64 d] (sixV v).d := by
  have hw : IntKind.i64.wrap (n * 16) = v * d := by rw [wrap_id (by omega) (by omega), hv]
  have hm : (v * d).tmod d = 0 := tmod_mul
  have hq : IntKind.i64.wrap ((v * d).tdiv d) = v := by rw [tdiv_mul hd, wrap_id (by omega) (by omega)]
  refine PC.intro rfl Tryz.func35 rfl (Nat.le_of_ble_eq_true rfl) rfl ?_
  refine w_seq (w_reg (s_s rfl rfl (as_alloc0 (id := 0) rfl rfl (by exact (rfl : _ = [_, _, _, _, _]))) ?_))
  refine s_nil (n_n (w_seq (w_seq (w_reg (s_q rfl rfl (q_mv (.inl rfl) (is_sc rfl)) ?_)))))
  refine s_q rfl rfl (q_as (bl_no (show ¬ d < 0 by omega)) (q_lss rfl rfl rfl)) ?_
  refine s_nil (n_n (w_ifF rfl (w_skip (n_n (w_seq (w_seq (w_reg (s_q rfl rfl (q_mv (.inl rfl) (is_sc rfl)) ?_))))))))
  refine s_q rfl rfl (q_as (bl_no (show ¬ d = 0 by omega)) (q_eql rfl rfl rfl)) ?_
  refine s_q rfl rfl (q_mv (.inl rfl) (is_sc rfl)) ?_
  refine s_q rfl rfl (q_mv (.inl rfl) (is_sc rfl)) ?_
  refine s_q rfl rfl (q_as (bl_no (show ¬ 1048576 < d by omega)) (q_gtr rfl rfl rfl)) ?_
  refine s_q rfl rfl (q_pickF rfl rfl (is_sc rfl)) ?_
  refine s_q rfl rfl (q_mv (.inl rfl) (is_sc rfl)) ?_
  refine s_q rfl rfl (q_mv (.inl rfl) (is_sc rfl)) ?_
  refine s_q rfl rfl (q_as (bl_no (show ¬ 1125899906842624 < n by omega)) (q_gtr rfl rfl rfl)) ?_
  refine s_q rfl rfl (q_pickF rfl rfl (is_sc rfl)) ?_
  refine s_q rfl rfl (q_mv (.inl rfl) (is_sc rfl)) ?_
  refine s_q rfl rfl (q_mv (.inl rfl) (is_sc rfl)) ?_
  refine s_q rfl rfl (q_as (bl_no (show ¬ n < -1125899906842624 by omega)) (q_lss rfl rfl rfl)) ?_
  refine s_q rfl rfl (q_pickF rfl rfl (is_sc rfl)) ?_
  refine s_q rfl rfl (q_mv (.inl rfl) (is_sc rfl)) ?_
  refine s_q rfl rfl (q_mv (.inl rfl) (is_sc rfl)) ?_
  refine s_q rfl rfl (q_as (i64_eq hw) (q_mul rfl rfl rfl)) ?_
  refine s_q rfl rfl (q_mv (.inl rfl) (is_sc rfl)) ?_
  refine s_q rfl rfl (q_rem rfl rfl rfl (by omega)) ?_
  refine s_q rfl rfl (q_as (bl_no (fun h => h hm)) (q_neq rfl rfl rfl)) ?_
  refine s_q rfl rfl (q_pickF rfl rfl (is_sc rfl)) ?_
  refine s_nil (n_n (w_ifF rfl (w_skip (n_n (w_seq (w_reg (s_q rfl rfl (q_mv (.inl rfl) (is_sc rfl)) ?_)))))))
  refine s_q rfl rfl (q_as (i64_eq hw) (q_mul rfl rfl rfl)) ?_
  refine s_q rfl rfl (q_mv (.inl rfl) (is_sc rfl)) ?_
  refine s_q rfl rfl (q_as (i64_eq hq) (q_quo rfl rfl rfl (by omega))) ?_
  refine s_q rfl rfl (q_mv (.inr rfl) (is_sc rfl)) ?_
  refine s_q rfl rfl (q_mv (.inr rfl) (is_sc rfl)) ?_
  refine s_nil (n_n (w_seq (w_block (w_unroll 4 (u_s ?_)))))
  refine w_seq (w_seq (w_reg (s_q rfl rfl (q_mv (.inl rfl) (is_sc rfl)) ?_)))
  refine s_q rfl rfl (q_gtr rfl rfl rfl) ?_
  refine s_q rfl rfl (q_mv (.inl rfl) (is_sc rfl)) ?_
  refine s_q rfl rfl (q_mv (.inl rfl) (is_sc rfl)) ?_
  refine s_q rfl rfl (q_rem rfl rfl rfl (by decide)) ?_
  refine s_q rfl rfl (q_eql rfl rfl rfl) ?_
  refine s_q rfl rfl (q_pickT rfl rfl (is_sc rfl)) ?_
  refine s_nil (n_n (w_if (is_scb rfl) (fun h43 => ?_) (fun h43 => ?_)))
  · have e43 := ev_of h43; clear h43
    refine w_skip (n_n (w_block (w_reg (s_q rfl rfl (q_mv (.inl rfl) (is_sc rfl)) ?_))))
    refine s_q rfl rfl (q_as (i64_eq (half e43 (by omega) (by omega))) (q_quo rfl rfl rfl (by decide))) ?_
    refine s_q rfl rfl (q_mv (.inl rfl) (is_sc rfl)) ?_
    refine s_q rfl rfl (q_quo rfl rfl rfl (by decide)) ?_
    refine s_q rfl rfl (q_mv (.inr rfl) (is_sc rfl)) ?_
    refine s_q rfl rfl (q_mv (.inr rfl) (is_sc rfl)) ?_
    refine s_nil (b_n (n_n (u_s (w_seq (w_seq (w_reg (s_q rfl rfl (q_mv (.inl rfl) (is_sc rfl)) ?_)))))))
    refine s_q rfl rfl (q_gtr rfl rfl rfl) ?_
    refine s_q rfl rfl (q_mv (.inl rfl) (is_sc rfl)) ?_
    refine s_q rfl rfl (q_mv (.inl rfl) (is_sc rfl)) ?_
    refine s_q rfl rfl (q_rem rfl rfl rfl (by decide)) ?_
    refine s_q rfl rfl (q_eql rfl rfl rfl) ?_
    refine s_q rfl rfl (q_pickT rfl rfl (is_sc rfl)) ?_
    refine s_nil (n_n (w_if (is_scb rfl) (fun h43 => ?_) (fun h43 => ?_)))
    · have e43 := ev_of h43; clear h43
      refine w_skip (n_n (w_block (w_reg (s_q rfl rfl (q_mv (.inl rfl) (is_sc rfl)) ?_))))
      refine s_q rfl rfl (q_as (i64_eq (half e43 (by omega) (by omega))) (q_quo rfl rfl rfl (by decide))) ?_
      refine s_q rfl rfl (q_mv (.inl rfl) (is_sc rfl)) ?_
      refine s_q rfl rfl (q_quo rfl rfl rfl (by decide)) ?_
      refine s_q rfl rfl (q_mv (.inr rfl) (is_sc rfl)) ?_
      refine s_q rfl rfl (q_mv (.inr rfl) (is_sc rfl)) ?_
      refine s_nil (b_n (n_n (u_s (w_seq (w_seq (w_reg (s_q rfl rfl (q_mv (.inl rfl) (is_sc rfl)) ?_)))))))
      refine s_q rfl rfl (q_gtr rfl rfl rfl) ?_
      refine s_q rfl rfl (q_mv (.inl rfl) (is_sc rfl)) ?_
      refine s_q rfl rfl (q_mv (.inl rfl) (is_sc rfl)) ?_
      refine s_q rfl rfl (q_rem rfl rfl rfl (by decide)) ?_
      refine s_q rfl rfl (q_eql rfl rfl rfl) ?_
      refine s_q rfl rfl (q_pickT rfl rfl (is_sc rfl)) ?_
      refine s_nil (n_n (w_if (is_scb rfl) (fun h43 => ?_) (fun h43 => ?_)))
      · have e43 := ev_of h43; clear h43
        refine w_skip (n_n (w_block (w_reg (s_q rfl rfl (q_mv (.inl rfl) (is_sc rfl)) ?_))))
        refine s_q rfl rfl (q_as (i64_eq (half e43 (by omega) (by omega))) (q_quo rfl rfl rfl (by decide))) ?_
        refine s_q rfl rfl (q_mv (.inl rfl) (is_sc rfl)) ?_
        refine s_q rfl rfl (q_quo rfl rfl rfl (by decide)) ?_
        refine s_q rfl rfl (q_mv (.inr rfl) (is_sc rfl)) ?_
        refine s_q rfl rfl (q_mv (.inr rfl) (is_sc rfl)) ?_
        refine s_nil (b_n (n_n (u_s (w_seq (w_seq (w_reg (s_q rfl rfl (q_mv (.inl rfl) (is_sc rfl)) ?_)))))))
        refine s_q rfl rfl (q_gtr rfl rfl rfl) ?_
        refine s_q rfl rfl (q_mv (.inl rfl) (is_sc rfl)) ?_
        refine s_q rfl rfl (q_mv (.inl rfl) (is_sc rfl)) ?_
        refine s_q rfl rfl (q_rem rfl rfl rfl (by decide)) ?_
        refine s_q rfl rfl (q_eql rfl rfl rfl) ?_
        refine s_q rfl rfl (q_pickT rfl rfl (is_sc rfl)) ?_
        refine s_nil (n_n (w_if (is_scb rfl) (fun h43 => ?_) (fun h43 => ?_)))
        · have e43 := ev_of h43; clear h43
          refine w_skip (n_n (w_block (w_reg (s_q rfl rfl (q_mv (.inl rfl) (is_sc rfl)) ?_))))
          refine s_q rfl rfl (q_as (i64_eq (half e43 (by omega) (by omega))) (q_quo rfl rfl rfl (by decide))) ?_
          refine s_q rfl rfl (q_mv (.inl rfl) (is_sc rfl)) ?_
          refine s_q rfl rfl (q_quo rfl rfl rfl (by decide)) ?_
          refine s_q rfl rfl (q_mv (.inr rfl) (is_sc rfl)) ?_
          refine s_q rfl rfl (q_mv (.inr rfl) (is_sc rfl)) ?_
          refine s_nil (b_n (n_n (u_0 (w_seq (w_seq (w_reg (s_q rfl rfl (q_mv (.inl rfl) (is_sc rfl)) ?_)))))))
          refine s_q rfl rfl (q_gtr rfl rfl rfl) ?_
          refine s_q rfl rfl (q_mv (.inl rfl) (is_sc rfl)) ?_
          refine s_off rfl rfl ?_
          refine s_off rfl rfl ?_
          refine s_off rfl rfl ?_
          refine s_q rfl rfl (q_pickF rfl rfl (is_sc rfl)) ?_
          refine s_nil (n_n (w_ifF rfl (w_exit (n_e (n_e (b_hit (n_n (w_seq (w_seq (w_reg (s_q rfl rfl (q_mv (.inl rfl) (is_sc rfl)) ?_)))))))))))
          refine s_q rfl rfl (q_gtr rfl rfl rfl) ?_
          refine s_q rfl rfl (q_mv (.inl rfl) (is_sc rfl)) ?_
          refine s_split 50 (is_scb rfl) (fun h1 => ?_) (fun h1 => ?_)
          · refine s_off rfl rfl ?_
            refine s_off rfl rfl ?_
            refine s_q rfl rfl (q_pickT rfl rfl (is_sc rfl)) ?_
            refine s_nil (n_n (w_ifT rfl (w_seq (w_reg (s_q rfl rfl (q_call rfl rfl rfl rfl pf_doubt) ?_)))))
            refine s_u rfl rfl (as_st rfl rfl (by first | exact (rfl : _ = D.agg [_, _, _, _, _]) | exact rfl) rfl (by exact rfl) (by exact rfl) (by exact Nat.le_of_ble_eq_true rfl) (by exact (rfl : _ = [_, _, _, _, _]))) ?_
            refine s_nil (n_n (w_ret (n_r ?_)))
            -- end 0
            refine r_r (ra_cell (by exact (rfl : _ = some (D.agg [_, _, _, _, _]))) ra_nil) (by first | exact (rfl : _ = D.agg [_, _, _, _, _]) | exact rfl) (by exact rfl) sub_no ?_
            have e : sixV v = doubt := by
              simp only [decide_eq_true_eq, decide_eq_false_iff_not] at *
              unfold sixV finV
              (repeat' split) <;> first | rfl | (exfalso; omega)
            rw [e]; rfl
          · refine s_q rfl rfl (q_mv (.inl rfl) (is_sc rfl)) ?_
            refine s_q rfl rfl (q_lss rfl rfl rfl) ?_
            refine s_q rfl rfl (q_pickF rfl rfl (is_sc rfl)) ?_
            refine s_nil (n_n (w_if (is_scb rfl) (fun h2 => ?_) (fun h2 => ?_)))
            · refine w_seq (w_reg (s_q rfl rfl (q_call rfl rfl rfl rfl pf_doubt) ?_))
              refine s_u rfl rfl (as_st rfl rfl (by first | exact (rfl : _ = D.agg [_, _, _, _, _]) | exact rfl) rfl (by exact rfl) (by exact rfl) (by exact Nat.le_of_ble_eq_true rfl) (by exact (rfl : _ = [_, _, _, _, _]))) ?_
              refine s_nil (n_n (w_ret (n_r ?_)))
              -- end 1
              refine r_r (ra_cell (by exact (rfl : _ = some (D.agg [_, _, _, _, _]))) ra_nil) (by first | exact (rfl : _ = D.agg [_, _, _, _, _]) | exact rfl) (by exact rfl) sub_no ?_
              have e : sixV v = doubt := by
                simp only [decide_eq_true_eq, decide_eq_false_iff_not] at *
                unfold sixV finV
                (repeat' split) <;> first | rfl | (exfalso; omega)
              rw [e]; rfl
            · refine w_skip (n_n (w_seq (w_reg (s_q rfl rfl (q_mv (.inl rfl) (is_sc rfl)) ?_))))
              refine s_q rfl rfl (q_mv (.inl rfl) (is_sc rfl)) ?_
              refine s_q rfl rfl (q_build rfl (pt_cons (is_sc rfl) (pt_cons (is_sc rfl) (pt_cons (is_sc rfl) pt_nil))) (by exact (rfl : _ = some [_, _, _, _, _]))) ?_
              refine s_u rfl rfl (as_st rfl rfl (by first | exact (rfl : _ = D.agg [_, _, _, _, _]) | exact rfl) rfl (by exact rfl) (by exact rfl) (by exact Nat.le_of_ble_eq_true rfl) (by exact (rfl : _ = [_, _, _, _, _]))) ?_
              refine s_nil (n_n (w_ret ?_))
              -- end 2
              refine r_r (ra_cell (by exact (rfl : _ = some (D.agg [_, _, _, _, _]))) ra_nil) (by first | exact (rfl : _ = D.agg [_, _, _, _, _]) | exact rfl) (by exact rfl) sub_no ?_
              have e : sixV v = num (v / 2 / 2 / 2 / 2) 1 := by
                simp only [decide_eq_true_eq, decide_eq_false_iff_not] at *
                unfold sixV finV
                (repeat' split) <;> first | rfl | (exfalso; omega)
              rw [e]; rfl
        · have e43 := od_of h43; clear h43
          refine w_exit (n_e (n_e (b_hit (n_n (w_seq (w_seq (w_reg (s_q rfl rfl (q_mv (.inl rfl) (is_sc rfl)) ?_))))))))
          refine s_q rfl rfl (q_gtr rfl rfl rfl) ?_
          refine s_q rfl rfl (q_mv (.inl rfl) (is_sc rfl)) ?_
          refine s_split 50 (is_scb rfl) (fun h3 => ?_) (fun h3 => ?_)
          · refine s_off rfl rfl ?_
            refine s_off rfl rfl ?_
            refine s_q rfl rfl (q_pickT rfl rfl (is_sc rfl)) ?_
            refine s_nil (n_n (w_ifT rfl (w_seq (w_reg (s_q rfl rfl (q_call rfl rfl rfl rfl pf_doubt) ?_)))))
            refine s_u rfl rfl (as_st rfl rfl (by first | exact (rfl : _ = D.agg [_, _, _, _, _]) | exact rfl) rfl (by exact rfl) (by exact rfl) (by exact Nat.le_of_ble_eq_true rfl) (by exact (rfl : _ = [_, _, _, _, _]))) ?_
            refine s_nil (n_n (w_ret (n_r ?_)))
            -- end 3
            refine r_r (ra_cell (by exact (rfl : _ = some (D.agg [_, _, _, _, _]))) ra_nil) (by first | exact (rfl : _ = D.agg [_, _, _, _, _]) | exact rfl) (by exact rfl) sub_no ?_
            have e : sixV v = doubt := by
              simp only [decide_eq_true_eq, decide_eq_false_iff_not] at *
              unfold sixV finV
              (repeat' split) <;> first | rfl | (exfalso; omega)
            rw [e]; rfl
          · refine s_q rfl rfl (q_mv (.inl rfl) (is_sc rfl)) ?_
            refine s_q rfl rfl (q_lss rfl rfl rfl) ?_
            refine s_q rfl rfl (q_pickF rfl rfl (is_sc rfl)) ?_
            refine s_nil (n_n (w_if (is_scb rfl) (fun h4 => ?_) (fun h4 => ?_)))
            · refine w_seq (w_reg (s_q rfl rfl (q_call rfl rfl rfl rfl pf_doubt) ?_))
              refine s_u rfl rfl (as_st rfl rfl (by first | exact (rfl : _ = D.agg [_, _, _, _, _]) | exact rfl) rfl (by exact rfl) (by exact rfl) (by exact Nat.le_of_ble_eq_true rfl) (by exact (rfl : _ = [_, _, _, _, _]))) ?_
              refine s_nil (n_n (w_ret (n_r ?_)))
              -- end 4
              refine r_r (ra_cell (by exact (rfl : _ = some (D.agg [_, _, _, _, _]))) ra_nil) (by first | exact (rfl : _ = D.agg [_, _, _, _, _]) | exact rfl) (by exact rfl) sub_no ?_
              have e : sixV v = doubt := by
                simp only [decide_eq_true_eq, decide_eq_false_iff_not] at *
                unfold sixV finV
                (repeat' split) <;> first | rfl | (exfalso; omega)
              rw [e]; rfl
            · refine w_skip (n_n (w_seq (w_reg (s_q rfl rfl (q_mv (.inl rfl) (is_sc rfl)) ?_))))
              refine s_q rfl rfl (q_mv (.inl rfl) (is_sc rfl)) ?_
              refine s_q rfl rfl (q_build rfl (pt_cons (is_sc rfl) (pt_cons (is_sc rfl) (pt_cons (is_sc rfl) pt_nil))) (by exact (rfl : _ = some [_, _, _, _, _]))) ?_
              refine s_u rfl rfl (as_st rfl rfl (by first | exact (rfl : _ = D.agg [_, _, _, _, _]) | exact rfl) rfl (by exact rfl) (by exact rfl) (by exact Nat.le_of_ble_eq_true rfl) (by exact (rfl : _ = [_, _, _, _, _]))) ?_
              refine s_nil (n_n (w_ret ?_))
              -- end 5
              refine r_r (ra_cell (by exact (rfl : _ = some (D.agg [_, _, _, _, _]))) ra_nil) (by first | exact (rfl : _ = D.agg [_, _, _, _, _]) | exact rfl) (by exact rfl) sub_no ?_
              have e : sixV v = num (v / 2 / 2 / 2) 2 := by
                simp only [decide_eq_true_eq, decide_eq_false_iff_not] at *
                unfold sixV finV
                (repeat' split) <;> first | rfl | (exfalso; omega)
              rw [e]; rfl
      · have e43 := od_of h43; clear h43
        refine w_exit (n_e (n_e (b_hit (n_n (w_seq (w_seq (w_reg (s_q rfl rfl (q_mv (.inl rfl) (is_sc rfl)) ?_))))))))
        refine s_q rfl rfl (q_gtr rfl rfl rfl) ?_
        refine s_q rfl rfl (q_mv (.inl rfl) (is_sc rfl)) ?_
        refine s_split 50 (is_scb rfl) (fun h5 => ?_) (fun h5 => ?_)
        · refine s_off rfl rfl ?_
          refine s_off rfl rfl ?_
          refine s_q rfl rfl (q_pickT rfl rfl (is_sc rfl)) ?_
          refine s_nil (n_n (w_ifT rfl (w_seq (w_reg (s_q rfl rfl (q_call rfl rfl rfl rfl pf_doubt) ?_)))))
          refine s_u rfl rfl (as_st rfl rfl (by first | exact (rfl : _ = D.agg [_, _, _, _, _]) | exact rfl) rfl (by exact rfl) (by exact rfl) (by exact Nat.le_of_ble_eq_true rfl) (by exact (rfl : _ = [_, _, _, _, _]))) ?_
          refine s_nil (n_n (w_ret (n_r ?_)))
          -- end 6
          refine r_r (ra_cell (by exact (rfl : _ = some (D.agg [_, _, _, _, _]))) ra_nil) (by first | exact (rfl : _ = D.agg [_, _, _, _, _]) | exact rfl) (by exact rfl) sub_no ?_
          have e : sixV v = doubt := by
            simp only [decide_eq_true_eq, decide_eq_false_iff_not] at *
            unfold sixV finV
            (repeat' split) <;> first | rfl | (exfalso; omega)
          rw [e]; rfl
        · refine s_q rfl rfl (q_mv (.inl rfl) (is_sc rfl)) ?_
          refine s_q rfl rfl (q_lss rfl rfl rfl) ?_
          refine s_q rfl rfl (q_pickF rfl rfl (is_sc rfl)) ?_
          refine s_nil (n_n (w_if (is_scb rfl) (fun h6 => ?_) (fun h6 => ?_)))
          · refine w_seq (w_reg (s_q rfl rfl (q_call rfl rfl rfl rfl pf_doubt) ?_))
            refine s_u rfl rfl (as_st rfl rfl (by first | exact (rfl : _ = D.agg [_, _, _, _, _]) | exact rfl) rfl (by exact rfl) (by exact rfl) (by exact Nat.le_of_ble_eq_true rfl) (by exact (rfl : _ = [_, _, _, _, _]))) ?_
            refine s_nil (n_n (w_ret (n_r ?_)))
            -- end 7
            refine r_r (ra_cell (by exact (rfl : _ = some (D.agg [_, _, _, _, _]))) ra_nil) (by first | exact (rfl : _ = D.agg [_, _, _, _, _]) | exact rfl) (by exact rfl) sub_no ?_
            have e : sixV v = doubt := by
              simp only [decide_eq_true_eq, decide_eq_false_iff_not] at *
              unfold sixV finV
              (repeat' split) <;> first | rfl | (exfalso; omega)
            rw [e]; rfl
          · refine w_skip (n_n (w_seq (w_reg (s_q rfl rfl (q_mv (.inl rfl) (is_sc rfl)) ?_))))
            refine s_q rfl rfl (q_mv (.inl rfl) (is_sc rfl)) ?_
            refine s_q rfl rfl (q_build rfl (pt_cons (is_sc rfl) (pt_cons (is_sc rfl) (pt_cons (is_sc rfl) pt_nil))) (by exact (rfl : _ = some [_, _, _, _, _]))) ?_
            refine s_u rfl rfl (as_st rfl rfl (by first | exact (rfl : _ = D.agg [_, _, _, _, _]) | exact rfl) rfl (by exact rfl) (by exact rfl) (by exact Nat.le_of_ble_eq_true rfl) (by exact (rfl : _ = [_, _, _, _, _]))) ?_
            refine s_nil (n_n (w_ret ?_))
            -- end 8
            refine r_r (ra_cell (by exact (rfl : _ = some (D.agg [_, _, _, _, _]))) ra_nil) (by first | exact (rfl : _ = D.agg [_, _, _, _, _]) | exact rfl) (by exact rfl) sub_no ?_
            have e : sixV v = num (v / 2 / 2) 4 := by
              simp only [decide_eq_true_eq, decide_eq_false_iff_not] at *
              unfold sixV finV
              (repeat' split) <;> first | rfl | (exfalso; omega)
            rw [e]; rfl
    · have e43 := od_of h43; clear h43
      refine w_exit (n_e (n_e (b_hit (n_n (w_seq (w_seq (w_reg (s_q rfl rfl (q_mv (.inl rfl) (is_sc rfl)) ?_))))))))
      refine s_q rfl rfl (q_gtr rfl rfl rfl) ?_
      refine s_q rfl rfl (q_mv (.inl rfl) (is_sc rfl)) ?_
      refine s_split 50 (is_scb rfl) (fun h7 => ?_) (fun h7 => ?_)
      · refine s_off rfl rfl ?_
        refine s_off rfl rfl ?_
        refine s_q rfl rfl (q_pickT rfl rfl (is_sc rfl)) ?_
        refine s_nil (n_n (w_ifT rfl (w_seq (w_reg (s_q rfl rfl (q_call rfl rfl rfl rfl pf_doubt) ?_)))))
        refine s_u rfl rfl (as_st rfl rfl (by first | exact (rfl : _ = D.agg [_, _, _, _, _]) | exact rfl) rfl (by exact rfl) (by exact rfl) (by exact Nat.le_of_ble_eq_true rfl) (by exact (rfl : _ = [_, _, _, _, _]))) ?_
        refine s_nil (n_n (w_ret (n_r ?_)))
        -- end 9
        refine r_r (ra_cell (by exact (rfl : _ = some (D.agg [_, _, _, _, _]))) ra_nil) (by first | exact (rfl : _ = D.agg [_, _, _, _, _]) | exact rfl) (by exact rfl) sub_no ?_
        have e : sixV v = doubt := by
          simp only [decide_eq_true_eq, decide_eq_false_iff_not] at *
          unfold sixV finV
          (repeat' split) <;> first | rfl | (exfalso; omega)
        rw [e]; rfl
      · refine s_q rfl rfl (q_mv (.inl rfl) (is_sc rfl)) ?_
        refine s_q rfl rfl (q_lss rfl rfl rfl) ?_
        refine s_q rfl rfl (q_pickF rfl rfl (is_sc rfl)) ?_
        refine s_nil (n_n (w_if (is_scb rfl) (fun h8 => ?_) (fun h8 => ?_)))
        · refine w_seq (w_reg (s_q rfl rfl (q_call rfl rfl rfl rfl pf_doubt) ?_))
          refine s_u rfl rfl (as_st rfl rfl (by first | exact (rfl : _ = D.agg [_, _, _, _, _]) | exact rfl) rfl (by exact rfl) (by exact rfl) (by exact Nat.le_of_ble_eq_true rfl) (by exact (rfl : _ = [_, _, _, _, _]))) ?_
          refine s_nil (n_n (w_ret (n_r ?_)))
          -- end 10
          refine r_r (ra_cell (by exact (rfl : _ = some (D.agg [_, _, _, _, _]))) ra_nil) (by first | exact (rfl : _ = D.agg [_, _, _, _, _]) | exact rfl) (by exact rfl) sub_no ?_
          have e : sixV v = doubt := by
            simp only [decide_eq_true_eq, decide_eq_false_iff_not] at *
            unfold sixV finV
            (repeat' split) <;> first | rfl | (exfalso; omega)
          rw [e]; rfl
        · refine w_skip (n_n (w_seq (w_reg (s_q rfl rfl (q_mv (.inl rfl) (is_sc rfl)) ?_))))
          refine s_q rfl rfl (q_mv (.inl rfl) (is_sc rfl)) ?_
          refine s_q rfl rfl (q_build rfl (pt_cons (is_sc rfl) (pt_cons (is_sc rfl) (pt_cons (is_sc rfl) pt_nil))) (by exact (rfl : _ = some [_, _, _, _, _]))) ?_
          refine s_u rfl rfl (as_st rfl rfl (by first | exact (rfl : _ = D.agg [_, _, _, _, _]) | exact rfl) rfl (by exact rfl) (by exact rfl) (by exact Nat.le_of_ble_eq_true rfl) (by exact (rfl : _ = [_, _, _, _, _]))) ?_
          refine s_nil (n_n (w_ret ?_))
          -- end 11
          refine r_r (ra_cell (by exact (rfl : _ = some (D.agg [_, _, _, _, _]))) ra_nil) (by first | exact (rfl : _ = D.agg [_, _, _, _, _]) | exact rfl) (by exact rfl) sub_no ?_
          have e : sixV v = num (v / 2) 8 := by
            simp only [decide_eq_true_eq, decide_eq_false_iff_not] at *
            unfold sixV finV
            (repeat' split) <;> first | rfl | (exfalso; omega)
          rw [e]; rfl
  · have e43 := od_of h43; clear h43
    refine w_exit (n_e (n_e (b_hit (n_n (w_seq (w_seq (w_reg (s_q rfl rfl (q_mv (.inl rfl) (is_sc rfl)) ?_))))))))
    refine s_q rfl rfl (q_gtr rfl rfl rfl) ?_
    refine s_q rfl rfl (q_mv (.inl rfl) (is_sc rfl)) ?_
    refine s_split 50 (is_scb rfl) (fun h9 => ?_) (fun h9 => ?_)
    · refine s_off rfl rfl ?_
      refine s_off rfl rfl ?_
      refine s_q rfl rfl (q_pickT rfl rfl (is_sc rfl)) ?_
      refine s_nil (n_n (w_ifT rfl (w_seq (w_reg (s_q rfl rfl (q_call rfl rfl rfl rfl pf_doubt) ?_)))))
      refine s_u rfl rfl (as_st rfl rfl (by first | exact (rfl : _ = D.agg [_, _, _, _, _]) | exact rfl) rfl (by exact rfl) (by exact rfl) (by exact Nat.le_of_ble_eq_true rfl) (by exact (rfl : _ = [_, _, _, _, _]))) ?_
      refine s_nil (n_n (w_ret (n_r ?_)))
      -- end 12
      refine r_r (ra_cell (by exact (rfl : _ = some (D.agg [_, _, _, _, _]))) ra_nil) (by first | exact (rfl : _ = D.agg [_, _, _, _, _]) | exact rfl) (by exact rfl) sub_no ?_
      have e : sixV v = doubt := by
        simp only [decide_eq_true_eq, decide_eq_false_iff_not] at *
        unfold sixV finV
        (repeat' split) <;> first | rfl | (exfalso; omega)
      rw [e]; rfl
    · refine s_q rfl rfl (q_mv (.inl rfl) (is_sc rfl)) ?_
      refine s_q rfl rfl (q_lss rfl rfl rfl) ?_
      refine s_q rfl rfl (q_pickF rfl rfl (is_sc rfl)) ?_
      refine s_nil (n_n (w_if (is_scb rfl) (fun h10 => ?_) (fun h10 => ?_)))
      · refine w_seq (w_reg (s_q rfl rfl (q_call rfl rfl rfl rfl pf_doubt) ?_))
        refine s_u rfl rfl (as_st rfl rfl (by first | exact (rfl : _ = D.agg [_, _, _, _, _]) | exact rfl) rfl (by exact rfl) (by exact rfl) (by exact Nat.le_of_ble_eq_true rfl) (by exact (rfl : _ = [_, _, _, _, _]))) ?_
        refine s_nil (n_n (w_ret (n_r ?_)))
        -- end 13
        refine r_r (ra_cell (by exact (rfl : _ = some (D.agg [_, _, _, _, _]))) ra_nil) (by first | exact (rfl : _ = D.agg [_, _, _, _, _]) | exact rfl) (by exact rfl) sub_no ?_
        have e : sixV v = doubt := by
          simp only [decide_eq_true_eq, decide_eq_false_iff_not] at *
          unfold sixV finV
          (repeat' split) <;> first | rfl | (exfalso; omega)
        rw [e]; rfl
      · refine w_skip (n_n (w_seq (w_reg (s_q rfl rfl (q_mv (.inl rfl) (is_sc rfl)) ?_))))
        refine s_q rfl rfl (q_mv (.inl rfl) (is_sc rfl)) ?_
        refine s_q rfl rfl (q_build rfl (pt_cons (is_sc rfl) (pt_cons (is_sc rfl) (pt_cons (is_sc rfl) pt_nil))) (by exact (rfl : _ = some [_, _, _, _, _]))) ?_
        refine s_u rfl rfl (as_st rfl rfl (by first | exact (rfl : _ = D.agg [_, _, _, _, _]) | exact rfl) rfl (by exact rfl) (by exact rfl) (by exact Nat.le_of_ble_eq_true rfl) (by exact (rfl : _ = [_, _, _, _, _]))) ?_
        refine s_nil (n_n (w_ret ?_))
        -- end 14
        refine r_r (ra_cell (by exact (rfl : _ = some (D.agg [_, _, _, _, _]))) ra_nil) (by first | exact (rfl : _ = D.agg [_, _, _, _, _]) | exact rfl) (by exact rfl) sub_no ?_
        have e : sixV v = num (v) 16 := by
          simp only [decide_eq_true_eq, decide_eq_false_iff_not] at *
          unfold sixV finV
          (repeat' split) <;> first | rfl | (exfalso; omega)
        rw [e]; rfl


-- pub-tallysheet/laws.argPart
-- pub-tallysheet/spec.Floor
-- pub-tallysheet/spec.away
end Go.Proofs.YtopgbalmdocboaaGreatDoor.Zz
