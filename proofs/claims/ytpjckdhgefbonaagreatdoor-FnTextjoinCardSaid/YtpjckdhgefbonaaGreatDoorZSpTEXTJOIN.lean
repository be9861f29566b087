/- Walks of the functions, printed by program, and the logic behind them: each theorem says what one function or one step answers. -/
import Derived.Test.YtpjckdhgefbonaaGreatDoorZWa
import Derived.Test.YtpjckdhgefbonaaGreatDoorZTt
import Derived.Test.YtpjckdhgefbonaaGreatDoorZT3
import Derived.Test.YtpjckdhgefbonaaGreatDoorZT4
import Derived.Test.YtpjckdhgefbonaaGreatDoorZSlice
import Derived.Test.YtpjckdhgefbonaaGreatDoorZTj
namespace Go.Proofs.YtpjckdhgefbonaaGreatDoor.Zz
open Go.Abs
set_option maxRecDepth 100000
set_option linter.unusedVariables false
set_option linter.unusedSimpArgs false
set_option maxHeartbeats 4000000
variable {G : Nat → D}

-- pub-tallysheet/spec.numeric
theorem pf_numericU (u : U) (hl : u.text.length < 1000000000) : PF Tryz.prog G 176 [u.v.d] (bl (numW u.v)) := by
  refine PC.intro rfl Tryz.func176 rfl (Nat.le_of_ble_eq_true rfl) rfl ?_
  refine w_seq (w_reg (s_s rfl rfl (as_box0 (id := 0) rfl (by first | exact (rfl : _ = D.agg [_, _, _, _, _]) | exact rfl) (by exact rfl) rfl (by exact (rfl : _ = [_, _, _, _, _]))) ?_))
  refine s_q rfl rfl (q_mv (.inr rfl) (is_sc rfl)) ?_
  refine s_nil (n_n (w_seq (w_seq (w_reg (s_q rfl rfl (q_field rfl rfl (by exact rfl)) ?_)))))
  refine s_q rfl rfl (q_load rfl rfl (by exact (rfl : _ = some (D.sc _)))) ?_
  refine s_nil (n_n (w_block (w_seq (w_seq (w_reg (s_q rfl rfl (q_eql rfl rfl rfl) ?_))))))
  refine s_q rfl rfl (q_mv (.inr rfl) (is_sc rfl)) ?_
  refine s_nil (n_n (w_if (is_scb rfl) (fun m => ?_) (fun m => ?_)))
  · rw [m]
    refine w_skip (n_n (w_ifT rfl (w_seq (w_reg (s_q rfl rfl (q_mv (.inr rfl) (is_sc rfl)) ?_)))))
    refine s_nil (n_n (w_ret (b_r (n_r ?_))))
    -- end 0
    refine r_r (ra_tmp (is_sc rfl) ra_nil) (by exact (is_sc rfl)) (by exact rfl) sub_no ?_
    show bl _ = bl (numW (⟨u.kind, u.num, u.den, u.text, []⟩ : V))
    simp only [show u.v.kind = u.kind from rfl, show u.v.text = u.text from rfl] at *
    unfold numW numericT; simp_all
  · rw [m]
    refine w_reg (s_q rfl rfl (q_eql rfl rfl rfl) ?_)
    refine s_q rfl rfl (q_mv (.inr rfl) (is_sc rfl)) ?_
    refine s_nil (n_n (w_if (is_scb rfl) (fun m => ?_) (fun m => ?_)))
    · rw [m]
      refine w_seq (w_reg (s_q rfl rfl (q_mv (.inr rfl) (is_sc rfl)) ?_))
      refine s_nil (n_n (w_ret (b_r (n_r ?_))))
      -- end 1
      refine r_r (ra_tmp (is_sc rfl) ra_nil) (by exact (is_sc rfl)) (by exact rfl) sub_no ?_
      show bl _ = bl (numW (⟨u.kind, u.num, u.den, u.text, []⟩ : V))
      simp only [show u.v.kind = u.kind from rfl, show u.v.text = u.text from rfl] at *
      unfold numW numericT; simp_all
    · rw [m]
      refine w_seq (w_reg (s_q rfl rfl (q_eql rfl rfl rfl) ?_))
      refine s_q rfl rfl (q_mv (.inr rfl) (is_sc rfl)) ?_
      refine s_nil (n_n (w_if (is_scb rfl) (fun h1 => ?_) (fun h1 => ?_)))
      · refine w_seq (w_reg (s_q rfl rfl (q_field rfl rfl (by exact rfl)) ?_))
        refine s_q rfl rfl (q_load rfl rfl (by exact (rfl : _ = some (D.sc _)))) ?_
        refine s_q rfl rfl (q_call rfl rfl rfl rfl (pf_Read _ hl)) ?_
        refine s_s rfl rfl (as_alloc0 (id := 1) rfl rfl (by exact (rfl : _ = [_, _, _, _, _]))) ?_
        refine s_u rfl rfl (as_st rfl rfl (by first | exact (rfl : _ = D.agg [_, _, _, _, _]) | exact rfl) rfl (by exact rfl) (by exact rfl) (by exact Nat.le_of_ble_eq_true rfl) (by exact (rfl : _ = [_, _, _, _, _]))) ?_
        refine s_nil (n_n (w_seq (w_draw [0, 1, 3, 7, 15, 31, 63, 127, 255, 127, 639, 2047, 4095, 8191, 16383, 32767, 65535, 131071, 262143, 524287, 1048575] [0, 1, 0, 0, 1, 0, 0, 1, 0, 0, 1, 0, 0, 0, 0, 1, 0, 0, 0, 0, 0] rfl ?_)))
        refine d_q0 rfl rfl (q_field rfl rfl (by exact rfl)) ?_
        refine d_q1 rfl rfl (q_load rfl rfl (by exact (rfl : _ = some (D.sc _)))) ?_
        refine d_q0 rfl rfl (q_call rfl rfl rfl rfl (pf_letters _ hl)) ?_
        refine d_q0 rfl rfl (q_mv (.inl rfl) (is_sc rfl)) ?_
        refine d_split 17 (is_scb rfl) (fun h17 => ?_) (fun h17 => ?_)
        · refine d_off rfl rfl ?_
          refine d_off rfl rfl ?_
          refine d_off rfl rfl ?_
          refine d_off rfl rfl ?_
          refine d_off rfl rfl ?_
          refine d_off rfl rfl ?_
          refine d_off rfl rfl ?_
          refine d_off rfl rfl ?_
          refine d_off rfl rfl ?_
          refine d_off rfl rfl ?_
          refine d_off rfl rfl ?_
          refine d_off rfl rfl ?_
          refine d_off rfl rfl ?_
          refine d_off rfl rfl ?_
          refine d_off rfl rfl ?_
          refine d_q0 rfl rfl (q_pickT rfl rfl (is_sc rfl)) ?_
          refine d_q0 rfl rfl (q_mv (.inr rfl) (is_sc rfl)) ?_
          refine d_nil (n_n (w_ret (b_r (n_r ?_))))
          -- end 2
          refine r_r (ra_tmp (is_sc rfl) ra_nil) (by exact (is_sc rfl)) (by exact rfl) sub_no ?_
          show bl _ = bl (numW (⟨u.kind, u.num, u.den, u.text, []⟩ : V))
          simp only [show u.v.kind = u.kind from rfl, show u.v.text = u.text from rfl] at *
          unfold numW numericT; simp_all
        · refine d_q1 rfl rfl (q_load rfl rfl (by exact (rfl : _ = some (D.agg [_, _, _, _, _])))) ?_
          refine d_q0 rfl rfl (q_call rfl rfl rfl rfl (pf_isWholeV _)) ?_
          refine d_q0 rfl rfl (q_mv (.inl rfl) (is_sc rfl)) ?_
          refine d_split 20 (is_scb rfl) (fun h20 => ?_) (fun h20 => ?_)
          · refine d_q1 rfl rfl (q_load rfl rfl (by exact (rfl : _ = some (D.agg [_, _, _, _, _])))) ?_
            refine d_q0 rfl rfl (q_call rfl rfl rfl rfl (pf_plainRead _ h20)) ?_
            refine d_q0 rfl rfl (q_field rfl rfl (by exact rfl)) ?_
            refine d_q1 rfl rfl (q_load rfl rfl (by exact (rfl : _ = some (D.sc _)))) ?_
            refine d_q0 rfl rfl (q_eqs rfl rfl rfl) ?_
            refine d_q0 rfl rfl (q_pickT rfl rfl (is_sc rfl)) ?_
            refine d_q0 rfl rfl (q_mv (.inl rfl) (is_sc rfl)) ?_
            refine d_split 27 (is_scb rfl) (fun h27 => ?_) (fun h27 => ?_)
            · refine d_q0 rfl rfl (q_field rfl rfl (by exact rfl)) ?_
              refine d_q1 rfl rfl (q_load rfl rfl (by exact (rfl : _ = some (D.sc _)))) ?_
              refine d_q0 rfl rfl (q_call rfl rfl rfl rfl (pf_abs _ (readV_num u.text).1 (readV_num u.text).2)) ?_
              refine d_q0 rfl rfl (q_lss rfl rfl rfl) ?_
              refine d_q0 rfl rfl (q_pickT rfl rfl (is_sc rfl)) ?_
              refine d_q0 rfl rfl (q_pickF rfl rfl (is_sc rfl)) ?_
              refine d_q0 rfl rfl (q_mv (.inr rfl) (is_sc rfl)) ?_
              refine d_nil (n_n (w_ret (b_r (n_r ?_))))
              -- end 3
              refine r_r (ra_tmp (is_sc rfl) ra_nil) (by exact (is_sc rfl)) (by exact rfl) sub_no ?_
              show bl _ = bl (numW (⟨u.kind, u.num, u.den, u.text, []⟩ : V))
              simp only [show u.v.kind = u.kind from rfl, show u.v.text = u.text from rfl] at *
              unfold numW numericT; simp_all
            · refine d_off rfl rfl ?_
              refine d_off rfl rfl ?_
              refine d_off rfl rfl ?_
              refine d_off rfl rfl ?_
              refine d_q0 rfl rfl (q_pickF rfl rfl (is_sc rfl)) ?_
              refine d_q0 rfl rfl (q_pickF rfl rfl (is_sc rfl)) ?_
              refine d_q0 rfl rfl (q_mv (.inr rfl) (is_sc rfl)) ?_
              refine d_nil (n_n (w_ret (b_r (n_r ?_))))
              -- end 4
              refine r_r (ra_tmp (is_sc rfl) ra_nil) (by exact (is_sc rfl)) (by exact rfl) sub_no ?_
              show bl _ = bl (numW (⟨u.kind, u.num, u.den, u.text, []⟩ : V))
              simp only [show u.v.kind = u.kind from rfl, show u.v.text = u.text from rfl] at *
              unfold numW numericT; simp_all
          · refine d_off rfl rfl ?_
            refine d_off rfl rfl ?_
            refine d_off rfl rfl ?_
            refine d_off rfl rfl ?_
            refine d_off rfl rfl ?_
            refine d_q0 rfl rfl (q_pickF rfl rfl (is_sc rfl)) ?_
            refine d_q0 rfl rfl (q_mv (.inl rfl) (is_sc rfl)) ?_
            refine d_off rfl rfl ?_
            refine d_off rfl rfl ?_
            refine d_off rfl rfl ?_
            refine d_off rfl rfl ?_
            refine d_q0 rfl rfl (q_pickF rfl rfl (is_sc rfl)) ?_
            refine d_q0 rfl rfl (q_pickF rfl rfl (is_sc rfl)) ?_
            refine d_q0 rfl rfl (q_mv (.inr rfl) (is_sc rfl)) ?_
            refine d_nil (n_n (w_ret (b_r (n_r ?_))))
            -- end 5
            refine r_r (ra_tmp (is_sc rfl) ra_nil) (by exact (is_sc rfl)) (by exact rfl) sub_no ?_
            show bl _ = bl (numW (⟨u.kind, u.num, u.den, u.text, []⟩ : V))
            simp only [show u.v.kind = u.kind from rfl, show u.v.text = u.text from rfl] at *
            unfold numW numericT; simp_all
      · refine w_skip (b_n (n_n (w_seq (w_reg (s_q rfl rfl (q_mv (.inr rfl) (is_sc rfl)) ?_)))))
        refine s_nil (n_n (w_ret ?_))
        -- end 6
        refine r_r (ra_tmp (is_sc rfl) ra_nil) (by exact (is_sc rfl)) (by exact rfl) sub_no ?_
        show bl _ = bl (numW (⟨u.kind, u.num, u.den, u.text, []⟩ : V))
        simp only [show u.v.kind = u.kind from rfl, show u.v.text = u.text from rfl] at *
        unfold numW numericT; simp_all


-- pub-tallysheet/spec.Stat
theorem no_Stat_TEXTJOIN (a : D) : PF Tryz.prog G 60 [st [84, 69, 88, 84, 74, 79, 73, 78], a] (.tup [noV.d, bl false]) := by
  refine PC.intro rfl Tryz.func60 rfl (Nat.le_of_ble_eq_true rfl) rfl ?_
  refine w_seq (w_reg (s_s rfl rfl (as_alloc0 (id := 0) rfl rfl (by exact (rfl : _ = [_, _, _, _, _]))) ?_))
  refine s_q rfl rfl (q_mv (.inr rfl) (is_sc rfl)) ?_
  refine s_nil (n_n (w_seq (w_seq (w_reg (s_q rfl rfl (q_mv (.inl rfl) (is_sc rfl)) ?_)))))
  refine s_nil (n_n (w_block (w_seq (w_reg (s_q rfl rfl (q_eqs rfl rfl rfl) ?_)))))
  refine s_q rfl rfl (q_mv (.inr rfl) (is_sc rfl)) ?_
  refine s_nil (n_n (w_ifF rfl (w_seq (w_reg (s_q rfl rfl (q_eqs rfl rfl rfl) ?_)))))
  refine s_q rfl rfl (q_mv (.inr rfl) (is_sc rfl)) ?_
  refine s_nil (n_n (w_ifF rfl (w_seq (w_reg (s_q rfl rfl (q_eqs rfl rfl rfl) ?_)))))
  refine s_q rfl rfl (q_mv (.inr rfl) (is_sc rfl)) ?_
  refine s_nil (n_n (w_ifF rfl (w_seq (w_reg (s_q rfl rfl (q_eqs rfl rfl rfl) ?_)))))
  refine s_q rfl rfl (q_mv (.inr rfl) (is_sc rfl)) ?_
  refine s_nil (n_n (w_ifF rfl (w_seq (w_reg (s_q rfl rfl (q_eqs rfl rfl rfl) ?_)))))
  refine s_q rfl rfl (q_mv (.inr rfl) (is_sc rfl)) ?_
  refine s_nil (n_n (w_ifF rfl (w_seq (w_reg (s_q rfl rfl (q_eqs rfl rfl rfl) ?_)))))
  refine s_q rfl rfl (q_mv (.inr rfl) (is_sc rfl)) ?_
  refine s_nil (n_n (w_ifF rfl (w_seq (w_reg (s_q rfl rfl (q_eqs rfl rfl rfl) ?_)))))
  refine s_q rfl rfl (q_mv (.inr rfl) (is_sc rfl)) ?_
  refine s_nil (n_n (w_ifF rfl (w_seq (w_seq (w_reg (s_q rfl rfl (q_eqs rfl rfl rfl) ?_))))))
  refine s_q rfl rfl (q_mv (.inr rfl) (is_sc rfl)) ?_
  refine s_nil (n_n (w_ifF rfl (w_reg (s_q rfl rfl (q_eqs rfl rfl rfl) ?_))))
  refine s_q rfl rfl (q_mv (.inr rfl) (is_sc rfl)) ?_
  refine s_nil (n_n (w_ifF rfl (w_seq (w_reg (s_q rfl rfl (q_eqs rfl rfl rfl) ?_)))))
  refine s_q rfl rfl (q_mv (.inr rfl) (is_sc rfl)) ?_
  refine s_nil (n_n (w_ifF rfl (w_seq (w_reg (s_q rfl rfl (q_eqs rfl rfl rfl) ?_)))))
  refine s_q rfl rfl (q_mv (.inr rfl) (is_sc rfl)) ?_
  refine s_nil (n_n (w_ifF rfl (w_seq (w_seq (w_reg (s_q rfl rfl (q_eqs rfl rfl rfl) ?_))))))
  refine s_q rfl rfl (q_mv (.inr rfl) (is_sc rfl)) ?_
  refine s_nil (n_n (w_ifF rfl (w_reg (s_q rfl rfl (q_eqs rfl rfl rfl) ?_))))
  refine s_q rfl rfl (q_mv (.inr rfl) (is_sc rfl)) ?_
  refine s_nil (n_n (w_ifF rfl (w_seq (w_reg (s_q rfl rfl (q_eqs rfl rfl rfl) ?_)))))
  refine s_q rfl rfl (q_mv (.inr rfl) (is_sc rfl)) ?_
  refine s_nil (n_n (w_ifF rfl (w_seq (w_reg (s_q rfl rfl (q_eqs rfl rfl rfl) ?_)))))
  refine s_q rfl rfl (q_mv (.inr rfl) (is_sc rfl)) ?_
  refine s_nil (n_n (w_ifF rfl (w_seq (w_reg (s_q rfl rfl (q_eqs rfl rfl rfl) ?_)))))
  refine s_q rfl rfl (q_mv (.inr rfl) (is_sc rfl)) ?_
  refine s_nil (n_n (w_ifF rfl (w_seq (w_reg (s_q rfl rfl (q_eqs rfl rfl rfl) ?_)))))
  refine s_q rfl rfl (q_mv (.inr rfl) (is_sc rfl)) ?_
  refine s_nil (n_n (w_ifF rfl (w_seq (w_reg (s_q rfl rfl (q_eqs rfl rfl rfl) ?_)))))
  refine s_q rfl rfl (q_mv (.inr rfl) (is_sc rfl)) ?_
  refine s_nil (n_n (w_ifF rfl (w_seq (w_reg (s_q rfl rfl (q_eqs rfl rfl rfl) ?_)))))
  refine s_q rfl rfl (q_mv (.inr rfl) (is_sc rfl)) ?_
  refine s_nil (n_n (w_ifF rfl (w_seq (w_reg (s_q rfl rfl (q_eqs rfl rfl rfl) ?_)))))
  refine s_q rfl rfl (q_mv (.inr rfl) (is_sc rfl)) ?_
  refine s_nil (n_n (w_ifF rfl (w_seq (w_reg (s_q rfl rfl (q_eqs rfl rfl rfl) ?_)))))
  refine s_q rfl rfl (q_mv (.inr rfl) (is_sc rfl)) ?_
  refine s_nil (n_n (w_ifF rfl (w_skip (b_n (n_n (w_seq (w_reg (s_q rfl rfl (q_build rfl pt_nil (by exact (rfl : _ = some [_, _, _, _, _]))) ?_))))))))
  refine s_u rfl rfl (as_st rfl rfl (by first | exact (rfl : _ = D.agg [_, _, _, _, _]) | exact rfl) rfl (by exact rfl) (by exact rfl) (by exact Nat.le_of_ble_eq_true rfl) (by exact (rfl : _ = [_, _, _, _, _]))) ?_
  refine s_q rfl rfl (q_mv (.inr rfl) (is_sc rfl)) ?_
  refine s_nil (n_n (w_ret ?_))
  -- end 0
  refine r_r (ra_cell (by exact (rfl : _ = some (D.agg [_, _, _, _, _]))) (ra_tmp (is_sc rfl) ra_nil)) (by exact (rfl : _ = D.tup [_, _])) (by exact rfl) sub_no ?_
  rfl


-- pub-tallysheet/spec.Criteria
theorem no_Criteria_TEXTJOIN (a : D) : PF Tryz.prog G 61 [st [84, 69, 88, 84, 74, 79, 73, 78], a] (.tup [noV.d, bl false]) := by
  refine PC.intro rfl Tryz.func61 rfl (Nat.le_of_ble_eq_true rfl) rfl ?_
  refine w_seq (w_reg (s_s rfl rfl (as_alloc0 (id := 0) rfl rfl (by exact (rfl : _ = [_, _, _, _, _]))) ?_))
  refine s_q rfl rfl (q_mv (.inr rfl) (is_sc rfl)) ?_
  refine s_nil (n_n (w_seq (w_seq (w_reg (s_q rfl rfl (q_mv (.inl rfl) (is_sc rfl)) ?_)))))
  refine s_nil (n_n (w_block (w_seq (w_reg (s_q rfl rfl (q_eqs rfl rfl rfl) ?_)))))
  refine s_q rfl rfl (q_mv (.inr rfl) (is_sc rfl)) ?_
  refine s_nil (n_n (w_ifF rfl (w_seq (w_reg (s_q rfl rfl (q_eqs rfl rfl rfl) ?_)))))
  refine s_q rfl rfl (q_mv (.inr rfl) (is_sc rfl)) ?_
  refine s_nil (n_n (w_ifF rfl (w_seq (w_seq (w_reg (s_q rfl rfl (q_eqs rfl rfl rfl) ?_))))))
  refine s_q rfl rfl (q_mv (.inr rfl) (is_sc rfl)) ?_
  refine s_nil (n_n (w_ifF rfl (w_reg (s_q rfl rfl (q_eqs rfl rfl rfl) ?_))))
  refine s_q rfl rfl (q_mv (.inr rfl) (is_sc rfl)) ?_
  refine s_nil (n_n (w_ifF rfl (w_seq (w_seq (w_reg (s_q rfl rfl (q_eqs rfl rfl rfl) ?_))))))
  refine s_q rfl rfl (q_mv (.inr rfl) (is_sc rfl)) ?_
  refine s_nil (n_n (w_ifF rfl (w_seq (w_reg (s_q rfl rfl (q_eqs rfl rfl rfl) ?_)))))
  refine s_q rfl rfl (q_mv (.inr rfl) (is_sc rfl)) ?_
  refine s_nil (n_n (w_ifF rfl (w_seq (w_reg (s_q rfl rfl (q_eqs rfl rfl rfl) ?_)))))
  refine s_q rfl rfl (q_mv (.inr rfl) (is_sc rfl)) ?_
  refine s_nil (n_n (w_ifF rfl (w_reg (s_q rfl rfl (q_eqs rfl rfl rfl) ?_))))
  refine s_q rfl rfl (q_mv (.inr rfl) (is_sc rfl)) ?_
  refine s_nil (n_n (w_ifF rfl (w_skip (b_n (n_n (w_seq (w_reg (s_q rfl rfl (q_build rfl pt_nil (by exact (rfl : _ = some [_, _, _, _, _]))) ?_))))))))
  refine s_u rfl rfl (as_st rfl rfl (by first | exact (rfl : _ = D.agg [_, _, _, _, _]) | exact rfl) rfl (by exact rfl) (by exact rfl) (by exact Nat.le_of_ble_eq_true rfl) (by exact (rfl : _ = [_, _, _, _, _]))) ?_
  refine s_q rfl rfl (q_mv (.inr rfl) (is_sc rfl)) ?_
  refine s_nil (n_n (w_ret ?_))
  -- end 0
  refine r_r (ra_cell (by exact (rfl : _ = some (D.agg [_, _, _, _, _]))) (ra_tmp (is_sc rfl) ra_nil)) (by exact (rfl : _ = D.tup [_, _])) (by exact rfl) sub_no ?_
  rfl


-- pub-tallysheet/spec.Lookup
theorem no_Lookup_TEXTJOIN (a : D) : PF Tryz.prog G 62 [st [84, 69, 88, 84, 74, 79, 73, 78], a] (.tup [noV.d, bl false]) := by
  refine PC.intro rfl Tryz.func62 rfl (Nat.le_of_ble_eq_true rfl) rfl ?_
  refine w_seq (w_reg (s_s rfl rfl (as_alloc0 (id := 0) rfl rfl (by exact (rfl : _ = [_, _, _, _, _]))) ?_))
  refine s_q rfl rfl (q_mv (.inr rfl) (is_sc rfl)) ?_
  refine s_nil (n_n (w_seq (w_seq (w_reg (s_q rfl rfl (q_mv (.inl rfl) (is_sc rfl)) ?_)))))
  refine s_nil (n_n (w_block (w_seq (w_reg (s_q rfl rfl (q_eqs rfl rfl rfl) ?_)))))
  refine s_q rfl rfl (q_mv (.inr rfl) (is_sc rfl)) ?_
  refine s_nil (n_n (w_ifF rfl (w_seq (w_reg (s_q rfl rfl (q_eqs rfl rfl rfl) ?_)))))
  refine s_q rfl rfl (q_mv (.inr rfl) (is_sc rfl)) ?_
  refine s_nil (n_n (w_ifF rfl (w_seq (w_reg (s_q rfl rfl (q_eqs rfl rfl rfl) ?_)))))
  refine s_q rfl rfl (q_mv (.inr rfl) (is_sc rfl)) ?_
  refine s_nil (n_n (w_ifF rfl (w_seq (w_reg (s_q rfl rfl (q_eqs rfl rfl rfl) ?_)))))
  refine s_q rfl rfl (q_mv (.inr rfl) (is_sc rfl)) ?_
  refine s_nil (n_n (w_ifF rfl (w_seq (w_reg (s_q rfl rfl (q_eqs rfl rfl rfl) ?_)))))
  refine s_q rfl rfl (q_mv (.inr rfl) (is_sc rfl)) ?_
  refine s_nil (n_n (w_ifF rfl (w_seq (w_reg (s_q rfl rfl (q_eqs rfl rfl rfl) ?_)))))
  refine s_q rfl rfl (q_mv (.inr rfl) (is_sc rfl)) ?_
  refine s_nil (n_n (w_ifF rfl (w_seq (w_reg (s_q rfl rfl (q_eqs rfl rfl rfl) ?_)))))
  refine s_q rfl rfl (q_mv (.inr rfl) (is_sc rfl)) ?_
  refine s_nil (n_n (w_ifF rfl (w_seq (w_reg (s_q rfl rfl (q_eqs rfl rfl rfl) ?_)))))
  refine s_q rfl rfl (q_mv (.inr rfl) (is_sc rfl)) ?_
  refine s_nil (n_n (w_ifF rfl (w_seq (w_reg (s_q rfl rfl (q_eqs rfl rfl rfl) ?_)))))
  refine s_q rfl rfl (q_mv (.inr rfl) (is_sc rfl)) ?_
  refine s_nil (n_n (w_ifF rfl (w_seq (w_seq (w_reg (s_q rfl rfl (q_eqs rfl rfl rfl) ?_))))))
  refine s_q rfl rfl (q_mv (.inr rfl) (is_sc rfl)) ?_
  refine s_nil (n_n (w_ifF rfl (w_reg (s_q rfl rfl (q_eqs rfl rfl rfl) ?_))))
  refine s_q rfl rfl (q_mv (.inr rfl) (is_sc rfl)) ?_
  refine s_nil (n_n (w_ifF rfl (w_skip (b_n (n_n (w_seq (w_reg (s_q rfl rfl (q_build rfl pt_nil (by exact (rfl : _ = some [_, _, _, _, _]))) ?_))))))))
  refine s_u rfl rfl (as_st rfl rfl (by first | exact (rfl : _ = D.agg [_, _, _, _, _]) | exact rfl) rfl (by exact rfl) (by exact rfl) (by exact Nat.le_of_ble_eq_true rfl) (by exact (rfl : _ = [_, _, _, _, _]))) ?_
  refine s_q rfl rfl (q_mv (.inr rfl) (is_sc rfl)) ?_
  refine s_nil (n_n (w_ret ?_))
  -- end 0
  refine r_r (ra_cell (by exact (rfl : _ = some (D.agg [_, _, _, _, _]))) (ra_tmp (is_sc rfl) ra_nil)) (by exact (rfl : _ = D.tup [_, _])) (by exact rfl) sub_no ?_
  rfl


-- pub-tallysheet/spec.CallMath
theorem no_CallMath_TEXTJOIN (a : D) : PF Tryz.prog G 63 [st [84, 69, 88, 84, 74, 79, 73, 78], a] (.tup [noV.d, bl false]) := by
  refine PC.intro rfl Tryz.func63 rfl (Nat.le_of_ble_eq_true rfl) rfl ?_
  refine w_seq (w_reg (s_s rfl rfl (as_alloc0 (id := 0) rfl rfl (by exact (rfl : _ = [_, _, _, _, _]))) ?_))
  refine s_q rfl rfl (q_mv (.inr rfl) (is_sc rfl)) ?_
  refine s_nil (n_n (w_seq (w_seq (w_reg (s_q rfl rfl (q_mv (.inl rfl) (is_sc rfl)) ?_)))))
  refine s_nil (n_n (w_block (w_seq (w_seq (w_reg (s_q rfl rfl (q_eqs rfl rfl rfl) ?_))))))
  refine s_q rfl rfl (q_mv (.inr rfl) (is_sc rfl)) ?_
  refine s_nil (n_n (w_ifF rfl (w_seq (w_reg (s_q rfl rfl (q_eqs rfl rfl rfl) ?_)))))
  refine s_q rfl rfl (q_mv (.inr rfl) (is_sc rfl)) ?_
  refine s_nil (n_n (w_ifF rfl (w_seq (w_reg (s_q rfl rfl (q_eqs rfl rfl rfl) ?_)))))
  refine s_q rfl rfl (q_mv (.inr rfl) (is_sc rfl)) ?_
  refine s_nil (n_n (w_ifF rfl (w_seq (w_reg (s_q rfl rfl (q_eqs rfl rfl rfl) ?_)))))
  refine s_q rfl rfl (q_mv (.inr rfl) (is_sc rfl)) ?_
  refine s_nil (n_n (w_ifF rfl (w_seq (w_reg (s_q rfl rfl (q_eqs rfl rfl rfl) ?_)))))
  refine s_q rfl rfl (q_mv (.inr rfl) (is_sc rfl)) ?_
  refine s_nil (n_n (w_ifF rfl (w_seq (w_reg (s_q rfl rfl (q_eqs rfl rfl rfl) ?_)))))
  refine s_q rfl rfl (q_mv (.inr rfl) (is_sc rfl)) ?_
  refine s_nil (n_n (w_ifF rfl (w_seq (w_reg (s_q rfl rfl (q_eqs rfl rfl rfl) ?_)))))
  refine s_q rfl rfl (q_mv (.inr rfl) (is_sc rfl)) ?_
  refine s_nil (n_n (w_ifF rfl (w_seq (w_reg (s_q rfl rfl (q_eqs rfl rfl rfl) ?_)))))
  refine s_q rfl rfl (q_mv (.inr rfl) (is_sc rfl)) ?_
  refine s_nil (n_n (w_ifF rfl (w_seq (w_reg (s_q rfl rfl (q_eqs rfl rfl rfl) ?_)))))
  refine s_q rfl rfl (q_mv (.inr rfl) (is_sc rfl)) ?_
  refine s_nil (n_n (w_ifF rfl (w_seq (w_reg (s_q rfl rfl (q_eqs rfl rfl rfl) ?_)))))
  refine s_q rfl rfl (q_mv (.inr rfl) (is_sc rfl)) ?_
  refine s_nil (n_n (w_ifF rfl (w_seq (w_reg (s_q rfl rfl (q_eqs rfl rfl rfl) ?_)))))
  refine s_q rfl rfl (q_mv (.inr rfl) (is_sc rfl)) ?_
  refine s_nil (n_n (w_ifF rfl (w_reg (s_q rfl rfl (q_eqs rfl rfl rfl) ?_))))
  refine s_q rfl rfl (q_mv (.inr rfl) (is_sc rfl)) ?_
  refine s_nil (n_n (w_ifF rfl (w_seq (w_seq (w_reg (s_q rfl rfl (q_eqs rfl rfl rfl) ?_))))))
  refine s_q rfl rfl (q_mv (.inr rfl) (is_sc rfl)) ?_
  refine s_nil (n_n (w_ifF rfl (w_seq (w_reg (s_q rfl rfl (q_eqs rfl rfl rfl) ?_)))))
  refine s_q rfl rfl (q_mv (.inr rfl) (is_sc rfl)) ?_
  refine s_nil (n_n (w_ifF rfl (w_seq (w_reg (s_q rfl rfl (q_eqs rfl rfl rfl) ?_)))))
  refine s_q rfl rfl (q_mv (.inr rfl) (is_sc rfl)) ?_
  refine s_nil (n_n (w_ifF rfl (w_seq (w_reg (s_q rfl rfl (q_eqs rfl rfl rfl) ?_)))))
  refine s_q rfl rfl (q_mv (.inr rfl) (is_sc rfl)) ?_
  refine s_nil (n_n (w_ifF rfl (w_seq (w_reg (s_q rfl rfl (q_eqs rfl rfl rfl) ?_)))))
  refine s_q rfl rfl (q_mv (.inr rfl) (is_sc rfl)) ?_
  refine s_nil (n_n (w_ifF rfl (w_seq (w_reg (s_q rfl rfl (q_eqs rfl rfl rfl) ?_)))))
  refine s_q rfl rfl (q_mv (.inr rfl) (is_sc rfl)) ?_
  refine s_nil (n_n (w_ifF rfl (w_seq (w_reg (s_q rfl rfl (q_eqs rfl rfl rfl) ?_)))))
  refine s_q rfl rfl (q_mv (.inr rfl) (is_sc rfl)) ?_
  refine s_nil (n_n (w_ifF rfl (w_seq (w_reg (s_q rfl rfl (q_eqs rfl rfl rfl) ?_)))))
  refine s_q rfl rfl (q_mv (.inr rfl) (is_sc rfl)) ?_
  refine s_nil (n_n (w_ifF rfl (w_seq (w_reg (s_q rfl rfl (q_eqs rfl rfl rfl) ?_)))))
  refine s_q rfl rfl (q_mv (.inr rfl) (is_sc rfl)) ?_
  refine s_nil (n_n (w_ifF rfl (w_seq (w_reg (s_q rfl rfl (q_eqs rfl rfl rfl) ?_)))))
  refine s_q rfl rfl (q_mv (.inr rfl) (is_sc rfl)) ?_
  refine s_nil (n_n (w_ifF rfl (w_seq (w_reg (s_q rfl rfl (q_eqs rfl rfl rfl) ?_)))))
  refine s_q rfl rfl (q_mv (.inr rfl) (is_sc rfl)) ?_
  refine s_nil (n_n (w_ifF rfl (w_seq (w_reg (s_q rfl rfl (q_eqs rfl rfl rfl) ?_)))))
  refine s_q rfl rfl (q_mv (.inr rfl) (is_sc rfl)) ?_
  refine s_nil (n_n (w_ifF rfl (w_seq (w_reg (s_q rfl rfl (q_eqs rfl rfl rfl) ?_)))))
  refine s_q rfl rfl (q_mv (.inr rfl) (is_sc rfl)) ?_
  refine s_nil (n_n (w_ifF rfl (w_seq (w_reg (s_q rfl rfl (q_eqs rfl rfl rfl) ?_)))))
  refine s_q rfl rfl (q_mv (.inr rfl) (is_sc rfl)) ?_
  refine s_nil (n_n (w_ifF rfl (w_reg (s_q rfl rfl (q_eqs rfl rfl rfl) ?_))))
  refine s_q rfl rfl (q_mv (.inr rfl) (is_sc rfl)) ?_
  refine s_nil (n_n (w_ifF rfl (w_seq (w_seq (w_reg (s_q rfl rfl (q_eqs rfl rfl rfl) ?_))))))
  refine s_q rfl rfl (q_mv (.inr rfl) (is_sc rfl)) ?_
  refine s_nil (n_n (w_ifF rfl (w_seq (w_reg (s_q rfl rfl (q_eqs rfl rfl rfl) ?_)))))
  refine s_q rfl rfl (q_mv (.inr rfl) (is_sc rfl)) ?_
  refine s_nil (n_n (w_ifF rfl (w_reg (s_q rfl rfl (q_eqs rfl rfl rfl) ?_))))
  refine s_q rfl rfl (q_mv (.inr rfl) (is_sc rfl)) ?_
  refine s_nil (n_n (w_ifF rfl (w_seq (w_seq (w_reg (s_q rfl rfl (q_eqs rfl rfl rfl) ?_))))))
  refine s_q rfl rfl (q_mv (.inr rfl) (is_sc rfl)) ?_
  refine s_nil (n_n (w_ifF rfl (w_reg (s_q rfl rfl (q_eqs rfl rfl rfl) ?_))))
  refine s_q rfl rfl (q_mv (.inr rfl) (is_sc rfl)) ?_
  refine s_nil (n_n (w_ifF rfl (w_seq (w_seq (w_reg (s_q rfl rfl (q_eqs rfl rfl rfl) ?_))))))
  refine s_q rfl rfl (q_mv (.inr rfl) (is_sc rfl)) ?_
  refine s_nil (n_n (w_ifF rfl (w_seq (w_reg (s_q rfl rfl (q_eqs rfl rfl rfl) ?_)))))
  refine s_q rfl rfl (q_mv (.inr rfl) (is_sc rfl)) ?_
  refine s_nil (n_n (w_ifF rfl (w_seq (w_reg (s_q rfl rfl (q_eqs rfl rfl rfl) ?_)))))
  refine s_q rfl rfl (q_mv (.inr rfl) (is_sc rfl)) ?_
  refine s_nil (n_n (w_ifF rfl (w_seq (w_reg (s_q rfl rfl (q_eqs rfl rfl rfl) ?_)))))
  refine s_q rfl rfl (q_mv (.inr rfl) (is_sc rfl)) ?_
  refine s_nil (n_n (w_ifF rfl (w_reg (s_q rfl rfl (q_eqs rfl rfl rfl) ?_))))
  refine s_q rfl rfl (q_mv (.inr rfl) (is_sc rfl)) ?_
  refine s_nil (n_n (w_ifF rfl (w_seq (w_seq (w_reg (s_q rfl rfl (q_eqs rfl rfl rfl) ?_))))))
  refine s_q rfl rfl (q_mv (.inr rfl) (is_sc rfl)) ?_
  refine s_nil (n_n (w_ifF rfl (w_seq (w_reg (s_q rfl rfl (q_eqs rfl rfl rfl) ?_)))))
  refine s_q rfl rfl (q_mv (.inr rfl) (is_sc rfl)) ?_
  refine s_nil (n_n (w_ifF rfl (w_seq (w_reg (s_q rfl rfl (q_eqs rfl rfl rfl) ?_)))))
  refine s_q rfl rfl (q_mv (.inr rfl) (is_sc rfl)) ?_
  refine s_nil (n_n (w_ifF rfl (w_seq (w_reg (s_q rfl rfl (q_eqs rfl rfl rfl) ?_)))))
  refine s_q rfl rfl (q_mv (.inr rfl) (is_sc rfl)) ?_
  refine s_nil (n_n (w_ifF rfl (w_seq (w_reg (s_q rfl rfl (q_eqs rfl rfl rfl) ?_)))))
  refine s_q rfl rfl (q_mv (.inr rfl) (is_sc rfl)) ?_
  refine s_nil (n_n (w_ifF rfl (w_seq (w_reg (s_q rfl rfl (q_eqs rfl rfl rfl) ?_)))))
  refine s_q rfl rfl (q_mv (.inr rfl) (is_sc rfl)) ?_
  refine s_nil (n_n (w_ifF rfl (w_seq (w_reg (s_q rfl rfl (q_eqs rfl rfl rfl) ?_)))))
  refine s_q rfl rfl (q_mv (.inr rfl) (is_sc rfl)) ?_
  refine s_nil (n_n (w_ifF rfl (w_seq (w_reg (s_q rfl rfl (q_eqs rfl rfl rfl) ?_)))))
  refine s_q rfl rfl (q_mv (.inr rfl) (is_sc rfl)) ?_
  refine s_nil (n_n (w_ifF rfl (w_seq (w_reg (s_q rfl rfl (q_eqs rfl rfl rfl) ?_)))))
  refine s_q rfl rfl (q_mv (.inr rfl) (is_sc rfl)) ?_
  refine s_nil (n_n (w_ifF rfl (w_seq (w_reg (s_q rfl rfl (q_eqs rfl rfl rfl) ?_)))))
  refine s_q rfl rfl (q_mv (.inr rfl) (is_sc rfl)) ?_
  refine s_nil (n_n (w_ifF rfl (w_seq (w_reg (s_q rfl rfl (q_eqs rfl rfl rfl) ?_)))))
  refine s_q rfl rfl (q_mv (.inr rfl) (is_sc rfl)) ?_
  refine s_nil (n_n (w_ifF rfl (w_reg (s_q rfl rfl (q_eqs rfl rfl rfl) ?_))))
  refine s_q rfl rfl (q_mv (.inr rfl) (is_sc rfl)) ?_
  refine s_nil (n_n (w_ifF rfl (w_seq (w_reg (s_q rfl rfl (q_eqs rfl rfl rfl) ?_)))))
  refine s_q rfl rfl (q_mv (.inr rfl) (is_sc rfl)) ?_
  refine s_nil (n_n (w_ifF rfl (w_seq (w_reg (s_q rfl rfl (q_eqs rfl rfl rfl) ?_)))))
  refine s_q rfl rfl (q_mv (.inr rfl) (is_sc rfl)) ?_
  refine s_nil (n_n (w_ifF rfl (w_seq (w_reg (s_q rfl rfl (q_eqs rfl rfl rfl) ?_)))))
  refine s_q rfl rfl (q_mv (.inr rfl) (is_sc rfl)) ?_
  refine s_nil (n_n (w_ifF rfl (w_seq (w_reg (s_q rfl rfl (q_eqs rfl rfl rfl) ?_)))))
  refine s_q rfl rfl (q_mv (.inr rfl) (is_sc rfl)) ?_
  refine s_nil (n_n (w_ifF rfl (w_skip (b_n (n_n (w_seq (w_reg (s_q rfl rfl (q_build rfl pt_nil (by exact (rfl : _ = some [_, _, _, _, _]))) ?_))))))))
  refine s_u rfl rfl (as_st rfl rfl (by first | exact (rfl : _ = D.agg [_, _, _, _, _]) | exact rfl) rfl (by exact rfl) (by exact rfl) (by exact Nat.le_of_ble_eq_true rfl) (by exact (rfl : _ = [_, _, _, _, _]))) ?_
  refine s_q rfl rfl (q_mv (.inr rfl) (is_sc rfl)) ?_
  refine s_nil (n_n (w_ret ?_))
  -- end 0
  refine r_r (ra_cell (by exact (rfl : _ = some (D.agg [_, _, _, _, _]))) (ra_tmp (is_sc rfl) ra_nil)) (by exact (rfl : _ = D.tup [_, _])) (by exact rfl) sub_no ?_
  rfl


-- pub-tallysheet/spec.CallLogic
theorem no_CallLogic_TEXTJOIN (a : D) : PF Tryz.prog G 65 [st [84, 69, 88, 84, 74, 79, 73, 78], a] (.tup [noV.d, bl false]) := by
  refine PC.intro rfl Tryz.func65 rfl (Nat.le_of_ble_eq_true rfl) rfl ?_
  refine w_seq (w_reg (s_s rfl rfl (as_alloc0 (id := 0) rfl rfl (by exact (rfl : _ = [_, _, _, _, _]))) ?_))
  refine s_q rfl rfl (q_mv (.inr rfl) (is_sc rfl)) ?_
  refine s_nil (n_n (w_seq (w_seq (w_reg (s_q rfl rfl (q_mv (.inl rfl) (is_sc rfl)) ?_)))))
  refine s_nil (n_n (w_block (w_seq (w_seq (w_reg (s_q rfl rfl (q_eqs rfl rfl rfl) ?_))))))
  refine s_q rfl rfl (q_mv (.inr rfl) (is_sc rfl)) ?_
  refine s_nil (n_n (w_ifF rfl (w_reg (s_q rfl rfl (q_eqs rfl rfl rfl) ?_))))
  refine s_q rfl rfl (q_mv (.inr rfl) (is_sc rfl)) ?_
  refine s_nil (n_n (w_ifF rfl (w_seq (w_seq (w_reg (s_q rfl rfl (q_eqs rfl rfl rfl) ?_))))))
  refine s_q rfl rfl (q_mv (.inr rfl) (is_sc rfl)) ?_
  refine s_nil (n_n (w_ifF rfl (w_seq (w_reg (s_q rfl rfl (q_eqs rfl rfl rfl) ?_)))))
  refine s_q rfl rfl (q_mv (.inr rfl) (is_sc rfl)) ?_
  refine s_nil (n_n (w_ifF rfl (w_reg (s_q rfl rfl (q_eqs rfl rfl rfl) ?_))))
  refine s_q rfl rfl (q_mv (.inr rfl) (is_sc rfl)) ?_
  refine s_nil (n_n (w_ifF rfl (w_seq (w_reg (s_q rfl rfl (q_eqs rfl rfl rfl) ?_)))))
  refine s_q rfl rfl (q_mv (.inr rfl) (is_sc rfl)) ?_
  refine s_nil (n_n (w_ifF rfl (w_seq (w_reg (s_q rfl rfl (q_eqs rfl rfl rfl) ?_)))))
  refine s_q rfl rfl (q_mv (.inr rfl) (is_sc rfl)) ?_
  refine s_nil (n_n (w_ifF rfl (w_seq (w_seq (w_reg (s_q rfl rfl (q_eqs rfl rfl rfl) ?_))))))
  refine s_q rfl rfl (q_mv (.inr rfl) (is_sc rfl)) ?_
  refine s_nil (n_n (w_ifF rfl (w_reg (s_q rfl rfl (q_eqs rfl rfl rfl) ?_))))
  refine s_q rfl rfl (q_mv (.inr rfl) (is_sc rfl)) ?_
  refine s_nil (n_n (w_ifF rfl (w_seq (w_reg (s_q rfl rfl (q_eqs rfl rfl rfl) ?_)))))
  refine s_q rfl rfl (q_mv (.inr rfl) (is_sc rfl)) ?_
  refine s_nil (n_n (w_ifF rfl (w_seq (w_reg (s_q rfl rfl (q_eqs rfl rfl rfl) ?_)))))
  refine s_q rfl rfl (q_mv (.inr rfl) (is_sc rfl)) ?_
  refine s_nil (n_n (w_ifF rfl (w_seq (w_reg (s_q rfl rfl (q_eqs rfl rfl rfl) ?_)))))
  refine s_q rfl rfl (q_mv (.inr rfl) (is_sc rfl)) ?_
  refine s_nil (n_n (w_ifF rfl (w_skip (b_n (n_n (w_seq (w_reg (s_q rfl rfl (q_build rfl pt_nil (by exact (rfl : _ = some [_, _, _, _, _]))) ?_))))))))
  refine s_u rfl rfl (as_st rfl rfl (by first | exact (rfl : _ = D.agg [_, _, _, _, _]) | exact rfl) rfl (by exact rfl) (by exact rfl) (by exact Nat.le_of_ble_eq_true rfl) (by exact (rfl : _ = [_, _, _, _, _]))) ?_
  refine s_q rfl rfl (q_mv (.inr rfl) (is_sc rfl)) ?_
  refine s_nil (n_n (w_ret ?_))
  -- end 0
  refine r_r (ra_cell (by exact (rfl : _ = some (D.agg [_, _, _, _, _]))) (ra_tmp (is_sc rfl) ra_nil)) (by exact (rfl : _ = D.tup [_, _])) (by exact rfl) sub_no ?_
  rfl


-- pub-tallysheet/spec.CallInfo
theorem no_CallInfo_TEXTJOIN (a : D) : PF Tryz.prog G 66 [st [84, 69, 88, 84, 74, 79, 73, 78], a] (.tup [noV.d, bl false]) := by
  refine PC.intro rfl Tryz.func66 rfl (Nat.le_of_ble_eq_true rfl) rfl ?_
  refine w_seq (w_reg (s_s rfl rfl (as_alloc0 (id := 0) rfl rfl (by exact (rfl : _ = [_, _, _, _, _]))) ?_))
  refine s_q rfl rfl (q_mv (.inr rfl) (is_sc rfl)) ?_
  refine s_nil (n_n (w_seq (w_seq (w_reg (s_q rfl rfl (q_mv (.inl rfl) (is_sc rfl)) ?_)))))
  refine s_nil (n_n (w_block (w_seq (w_seq (w_reg (s_q rfl rfl (q_eqs rfl rfl rfl) ?_))))))
  refine s_q rfl rfl (q_mv (.inr rfl) (is_sc rfl)) ?_
  refine s_nil (n_n (w_ifF rfl (w_seq (w_reg (s_q rfl rfl (q_eqs rfl rfl rfl) ?_)))))
  refine s_q rfl rfl (q_mv (.inr rfl) (is_sc rfl)) ?_
  refine s_nil (n_n (w_ifF rfl (w_seq (w_reg (s_q rfl rfl (q_eqs rfl rfl rfl) ?_)))))
  refine s_q rfl rfl (q_mv (.inr rfl) (is_sc rfl)) ?_
  refine s_nil (n_n (w_ifF rfl (w_seq (w_reg (s_q rfl rfl (q_eqs rfl rfl rfl) ?_)))))
  refine s_q rfl rfl (q_mv (.inr rfl) (is_sc rfl)) ?_
  refine s_nil (n_n (w_ifF rfl (w_seq (w_reg (s_q rfl rfl (q_eqs rfl rfl rfl) ?_)))))
  refine s_q rfl rfl (q_mv (.inr rfl) (is_sc rfl)) ?_
  refine s_nil (n_n (w_ifF rfl (w_seq (w_reg (s_q rfl rfl (q_eqs rfl rfl rfl) ?_)))))
  refine s_q rfl rfl (q_mv (.inr rfl) (is_sc rfl)) ?_
  refine s_nil (n_n (w_ifF rfl (w_seq (w_reg (s_q rfl rfl (q_eqs rfl rfl rfl) ?_)))))
  refine s_q rfl rfl (q_mv (.inr rfl) (is_sc rfl)) ?_
  refine s_nil (n_n (w_ifF rfl (w_seq (w_reg (s_q rfl rfl (q_eqs rfl rfl rfl) ?_)))))
  refine s_q rfl rfl (q_mv (.inr rfl) (is_sc rfl)) ?_
  refine s_nil (n_n (w_ifF rfl (w_seq (w_reg (s_q rfl rfl (q_eqs rfl rfl rfl) ?_)))))
  refine s_q rfl rfl (q_mv (.inr rfl) (is_sc rfl)) ?_
  refine s_nil (n_n (w_ifF rfl (w_seq (w_reg (s_q rfl rfl (q_eqs rfl rfl rfl) ?_)))))
  refine s_q rfl rfl (q_mv (.inr rfl) (is_sc rfl)) ?_
  refine s_nil (n_n (w_ifF rfl (w_reg (s_q rfl rfl (q_eqs rfl rfl rfl) ?_))))
  refine s_q rfl rfl (q_mv (.inr rfl) (is_sc rfl)) ?_
  refine s_nil (n_n (w_ifF rfl (w_seq (w_seq (w_reg (s_q rfl rfl (q_eqs rfl rfl rfl) ?_))))))
  refine s_q rfl rfl (q_mv (.inr rfl) (is_sc rfl)) ?_
  refine s_nil (n_n (w_ifF rfl (w_reg (s_q rfl rfl (q_eqs rfl rfl rfl) ?_))))
  refine s_q rfl rfl (q_mv (.inr rfl) (is_sc rfl)) ?_
  refine s_nil (n_n (w_ifF rfl (w_seq (w_reg (s_q rfl rfl (q_eqs rfl rfl rfl) ?_)))))
  refine s_q rfl rfl (q_mv (.inr rfl) (is_sc rfl)) ?_
  refine s_nil (n_n (w_ifF rfl (w_skip (b_n (n_n (w_seq (w_reg (s_q rfl rfl (q_build rfl pt_nil (by exact (rfl : _ = some [_, _, _, _, _]))) ?_))))))))
  refine s_u rfl rfl (as_st rfl rfl (by first | exact (rfl : _ = D.agg [_, _, _, _, _]) | exact rfl) rfl (by exact rfl) (by exact rfl) (by exact Nat.le_of_ble_eq_true rfl) (by exact (rfl : _ = [_, _, _, _, _]))) ?_
  refine s_q rfl rfl (q_mv (.inr rfl) (is_sc rfl)) ?_
  refine s_nil (n_n (w_ret ?_))
  -- end 0
  refine r_r (ra_cell (by exact (rfl : _ = some (D.agg [_, _, _, _, _]))) (ra_tmp (is_sc rfl) ra_nil)) (by exact (rfl : _ = D.tup [_, _])) (by exact rfl) sub_no ?_
  rfl


-- pub-tallysheet/spec.fitsTexts$2
theorem pf_tjClosure (s : List UInt8) (hl : s.length < 1000000000) : PF Tryz.prog G 186 [(strV s).d] (bl (asciiB s)) := by
  refine PC.intro rfl Tryz.func186 rfl (Nat.le_of_ble_eq_true rfl) rfl ?_
  refine w_seq (w_reg (s_s rfl rfl (as_box0 (id := 0) rfl (by first | exact (rfl : _ = D.agg [_, _, _, _, _]) | exact rfl) (by exact rfl) rfl (by exact (rfl : _ = [_, _, _, _, _]))) ?_))
  refine s_q rfl rfl (q_mv (.inr rfl) (is_sc rfl)) ?_
  refine s_nil (n_n (w_seq (w_reg (s_q rfl rfl (q_field rfl rfl (by exact rfl)) ?_))))
  refine s_q rfl rfl (q_load rfl rfl (by exact (rfl : _ = some (D.sc _)))) ?_
  refine s_q rfl rfl (q_neq rfl rfl rfl) ?_
  refine s_q rfl rfl (q_mv (.inl rfl) (is_sc rfl)) ?_
  refine s_q rfl rfl (q_load rfl rfl (by exact (rfl : _ = some (D.agg [_, _, _, _, _])))) ?_
  refine s_q rfl rfl (q_call rfl rfl rfl rfl (pf_textualT _ hl)) ?_
  refine s_q rfl rfl (q_pickT rfl rfl (is_sc rfl)) ?_
  refine s_q rfl rfl (q_mv (.inl rfl) (is_sc rfl)) ?_
  refine s_split 10 (is_scb rfl) (fun h1 => ?_) (fun h1 => ?_)
  · refine s_off rfl rfl ?_
    refine s_off rfl rfl ?_
    refine s_off rfl rfl ?_
    refine s_q rfl rfl (q_pickT rfl rfl (is_sc rfl)) ?_
    refine s_q rfl rfl (q_mv (.inl rfl) (is_sc rfl)) ?_
    refine s_off rfl rfl ?_
    refine s_off rfl rfl ?_
    refine s_off rfl rfl ?_
    refine s_off rfl rfl ?_
    refine s_off rfl rfl ?_
    refine s_off rfl rfl ?_
    refine s_off rfl rfl ?_
    refine s_off rfl rfl ?_
    refine s_off rfl rfl ?_
    refine s_q rfl rfl (q_pickT rfl rfl (is_sc rfl)) ?_
    refine s_q rfl rfl (q_mv (.inr rfl) (is_sc rfl)) ?_
    refine s_nil (n_n (w_ret ?_))
    -- end 0
    refine r_r (ra_tmp (is_sc rfl) ra_nil) (by exact (is_sc rfl)) (by exact rfl) sub_no ?_
    first | rfl | (simp_all; done)
  · refine s_q rfl rfl (q_field rfl rfl (by exact rfl)) ?_
    refine s_q rfl rfl (q_load rfl rfl (by exact (rfl : _ = some (D.sc _)))) ?_
    refine s_q rfl rfl (q_eql rfl rfl rfl) ?_
    refine s_q rfl rfl (q_pickF rfl rfl (is_sc rfl)) ?_
    refine s_q rfl rfl (q_mv (.inl rfl) (is_sc rfl)) ?_
    refine s_q rfl rfl (q_field rfl rfl (by exact rfl)) ?_
    refine s_q rfl rfl (q_load rfl rfl (by exact (rfl : _ = some (D.sc _)))) ?_
    refine s_q rfl rfl (q_eql rfl rfl rfl) ?_
    refine s_q rfl rfl (q_mv (.inl rfl) (is_sc rfl)) ?_
    refine s_off rfl rfl ?_
    refine s_off rfl rfl ?_
    refine s_off rfl rfl ?_
    refine s_off rfl rfl ?_
    refine s_q rfl rfl (q_pickF rfl rfl (is_sc rfl)) ?_
    refine s_q rfl rfl (q_pickF rfl rfl (is_sc rfl)) ?_
    refine s_q rfl rfl (q_mv (.inr rfl) (is_sc rfl)) ?_
    refine s_nil (n_n (w_ret ?_))
    -- end 1
    refine r_r (ra_tmp (is_sc rfl) ra_nil) (by exact (is_sc rfl)) (by exact rfl) sub_no ?_
    first | rfl | (simp_all; done)


-- pub-tallysheet/spec.AsLogic
theorem pf_AsLogicB (c : Bool) : PF Tryz.prog G 245 [(boolV c).d] (boolV c).d := by
  refine PC.intro rfl Tryz.func245 rfl (Nat.le_of_ble_eq_true rfl) rfl ?_
  refine w_seq (w_reg (s_s rfl rfl (as_box0 (id := 0) rfl (by first | exact (rfl : _ = D.agg [_, _, _, _, _]) | exact rfl) (by exact rfl) rfl (by exact (rfl : _ = [_, _, _, _, _]))) ?_))
  refine s_s rfl rfl (as_alloc0 (id := 1) rfl rfl (by exact (rfl : _ = [_, _, _, _, _]))) ?_
  refine s_nil (n_n (w_seq (w_seq (w_reg (s_q rfl rfl (q_field rfl rfl (by exact rfl)) ?_)))))
  refine s_q rfl rfl (q_load rfl rfl (by exact (rfl : _ = some (D.sc _)))) ?_
  refine s_nil (n_n (w_block (w_seq (w_seq (w_reg (s_q rfl rfl (q_eql rfl rfl rfl) ?_))))))
  refine s_q rfl rfl (q_mv (.inr rfl) (is_sc rfl)) ?_
  refine s_nil (n_n (w_ifT rfl (w_skip (n_n (w_ifT rfl (w_seq (w_reg (s_q rfl rfl (q_load rfl rfl (by exact (rfl : _ = some (D.agg [_, _, _, _, _])))) ?_))))))))
  refine s_u rfl rfl (as_st rfl rfl (by first | exact (rfl : _ = D.agg [_, _, _, _, _]) | exact rfl) rfl (by exact rfl) (by exact rfl) (by exact Nat.le_of_ble_eq_true rfl) (by exact (rfl : _ = [_, _, _, _, _]))) ?_
  refine s_nil (n_n (w_ret (b_r (n_r ?_))))
  -- end 0
  refine r_r (ra_cell (by exact (rfl : _ = some (D.agg [_, _, _, _, _]))) ra_nil) (by first | exact (rfl : _ = D.agg [_, _, _, _, _]) | exact rfl) (by exact rfl) sub_no ?_
  rfl


-- pub-tallysheet/spec.textJoin
theorem pf_textJoinS (b : List UInt8) (c : Bool) (l : List (List UInt8)) (hb : b.length ≤ 1000) (hl : ∀ s ∈ l, s.length ≤ 1000) (h20 : l.length ≤ 20) (ha : asciiB b = true) (hla : l.all asciiB = true) (hne : ¬ l = []) : PF Tryz.prog G 143 [lst (strV b :: boolV c :: l.map strV)] (joinV b c l).d := by
  have hpos : 0 < l.length := List.length_pos_iff.mpr hne
  have hcut : (((strV b :: boolV c :: l.map strV).flatMap V.c).take ((strV b :: boolV c :: l.map strV).length * 5)).drop (2 * 5) = (l.map strV).flatMap V.c := by rw [List.take_of_length_le (by rw [len_lst]; exact Nat.le_refl _)]; rfl
  have hcon : ∀ s ∈ b :: l, s.length < 1000000000 := fun s hs => by
    rcases List.mem_cons.1 hs with rfl | hs
    · omega
    · have := hl s hs; omega
  have hall : ∀ s ∈ b :: l, asciiB s = true := fun s hs => by
    rcases List.mem_cons.1 hs with rfl | hs
    · exact ha
    · exact List.all_eq_true.1 hla s hs
  have hfirst : PF Tryz.prog G 235 [lst (strV b :: boolV c :: l.map strV)] (.tup [noV.d, bl false]) := by
    have := pf_first (G := G) (tjA b c l) (by rw [tjA_len]; omega) (fun v hv => by rcases tjA_kind (b := b) (c := c) (l := l) hv with h | h <;> omega)
    rw [firstV_no fun v hv => by rcases tjA_kind hv with h | h <;> omega] at this; exact this
  have hflat := pf_flatP (G := G) (l.map strV) (by simp only [List.length_map]; omega) (fun v hv => by obtain ⟨s, _, rfl⟩ := List.mem_map.1 hv; simp [strV])
  have htexts : PF Tryz.prog G 240 [lst (strV b :: l.map strV)] (.tup [.im ((b :: l).map st) (b :: l).length, noV.d, bl true]) := by
    have := pf_textsG (G := G) ((b :: l).map strV) (by simp only [List.length_map, List.length_cons]; omega) (fun v hv => by
      obtain ⟨s, hs, rfl⟩ := List.mem_map.1 hv
      have := pf_AsTextT (G := G) s (hcon s hs)
      rw [show asTextV s = strV s from if_pos (hall s hs)] at this; exact this) (fun v hv => by obtain ⟨s, _, rfl⟩ := List.mem_map.1 hv; rfl)
    rw [List.map_map, List.length_map] at this
    exact this
  refine PC.intro rfl Tryz.func143 rfl (Nat.le_of_ble_eq_true rfl) rfl ?_
  refine w_seq (w_reg (s_s rfl rfl (as_alloc0 (id := 0) rfl rfl (by exact (rfl : _ = [_, _, _, _, _]))) ?_))
  refine s_nil (n_n (w_seq (w_seq (w_reg (s_q rfl rfl (q_mv (.inl rfl) (by first | exact is_im rfl | exact is_gs rfl | exact is_lit rfl | exact is_ms rfl | exact is_sc rfl | exact rfl)) ?_)))))
  refine s_q rfl rfl (q_len rfl rfl rfl) ?_
  refine s_q rfl rfl (q_as (bl_no (show ¬ (((l.map strV).length + 1 + 1 : Nat) : Int) < 3 by simp only [List.length_map]; omega)) (q_lss rfl rfl rfl)) ?_
  refine s_q rfl rfl (q_mv (.inl rfl) (is_sc rfl)) ?_
  refine s_q rfl rfl (q_mv (.inl rfl) (by first | exact is_im rfl | exact is_gs rfl | exact is_lit rfl | exact is_ms rfl | exact is_sc rfl | exact rfl)) ?_
  refine s_q rfl rfl (q_index rfl rfl rfl rfl (Int.le_refl _) (by show (0 : Int) < (((l.map strV).length + 1 + 1 : Nat) : Int); omega)) ?_
  refine s_q rfl rfl (q_field rfl rfl (by exact rfl)) ?_
  refine s_q rfl rfl (q_load rfl rfl (by exact (rfl : _ = some (D.sc _)))) ?_
  refine s_q rfl rfl (q_neq rfl rfl rfl) ?_
  refine s_q rfl rfl (q_pickF rfl rfl (is_sc rfl)) ?_
  refine s_nil (n_n (w_ifF rfl (w_skip (n_n (w_seq (w_seq (w_reg (s_q rfl rfl (q_mv (.inl rfl) (by first | exact is_im rfl | exact is_gs rfl | exact is_lit rfl | exact is_ms rfl | exact is_sc rfl | exact rfl)) ?_))))))))
  refine s_q rfl rfl (q_call rfl rfl rfl rfl hfirst) ?_
  refine s_q rfl rfl (q_mv (.inl rfl) (by first | exact (rfl : _ = D.tup [_, _]) | exact rfl)) ?_
  refine s_q rfl rfl (q_extract rfl rfl rfl) ?_
  refine s_q rfl rfl (q_extract rfl rfl rfl) ?_
  refine s_s rfl rfl (as_alloc0 (id := 1) rfl rfl (by exact (rfl : _ = [_, _, _, _, _]))) ?_
  refine s_u rfl rfl (as_st rfl rfl (by first | exact (rfl : _ = D.agg [_, _, _, _, _]) | exact rfl) rfl (by exact rfl) (by exact rfl) (by exact Nat.le_of_ble_eq_true rfl) (by exact (rfl : _ = [_, _, _, _, _]))) ?_
  refine s_q rfl rfl (q_mv (.inr rfl) (is_sc rfl)) ?_
  refine s_nil (n_n (w_seq (w_reg (s_q rfl rfl (q_mv (.inl rfl) (is_sc rfl)) ?_))))
  refine s_nil (n_n (w_ifF rfl (w_skip (n_n (w_seq (w_reg (s_q rfl rfl (q_mv (.inl rfl) (by first | exact is_im rfl | exact is_gs rfl | exact is_lit rfl | exact is_ms rfl | exact is_sc rfl | exact rfl)) ?_)))))))
  refine s_q rfl rfl (q_index rfl rfl rfl rfl (by decide) (by show (1 : Int) < (((l.map strV).length + 1 + 1 : Nat) : Int); omega)) ?_
  refine s_q rfl rfl (q_load rfl rfl (by exact (rfl : _ = some (D.agg [_, _, _, _, _])))) ?_
  refine s_q rfl rfl (q_call rfl rfl rfl rfl (pf_AsLogicB c)) ?_
  refine s_s rfl rfl (as_alloc0 (id := 2) rfl rfl (by exact (rfl : _ = [_, _, _, _, _]))) ?_
  refine s_u rfl rfl (as_st rfl rfl (by first | exact (rfl : _ = D.agg [_, _, _, _, _]) | exact rfl) rfl (by exact rfl) (by exact rfl) (by exact Nat.le_of_ble_eq_true rfl) (by exact (rfl : _ = [_, _, _, _, _]))) ?_
  refine s_nil (n_n (w_seq (w_seq (w_reg (s_q rfl rfl (q_field rfl rfl (by exact rfl)) ?_)))))
  refine s_q rfl rfl (q_load rfl rfl (by exact (rfl : _ = some (D.sc _)))) ?_
  refine s_q rfl rfl (q_neq rfl rfl rfl) ?_
  refine s_nil (n_n (w_ifF rfl (w_skip (n_n (w_seq (w_draw [0, 1, 3, 7, 0, 16, 48, 127, 255, 511, 1023, 1023, 1023, 0, 10239, 28671, 65535] [0, 0, 1, 0, 0, 0, 0, 0, 0, 0, 0, 0, 0, 2, 0, 3, 0] rfl ?_))))))
  refine d_q0 rfl rfl (q_mv (.inl rfl) (by first | exact is_im rfl | exact is_gs rfl | exact is_lit rfl | exact is_ms rfl | exact is_sc rfl | exact rfl)) ?_
  refine d_q0 rfl rfl (q_index rfl rfl rfl rfl (Int.le_refl _) (by show (0 : Int) < (((l.map strV).length + 1 + 1 : Nat) : Int); omega)) ?_
  refine d_q1 rfl rfl (q_load rfl rfl (by exact (rfl : _ = some (D.agg [_, _, _, _, _])))) ?_
  refine d_q0 rfl rfl (q_bs rfl (pt_cons (by first | exact (rfl : _ = D.agg [_, _, _, _, _]) | exact rfl) pt_nil) (by decide) (by decide) (by exact (rfl : _ = some [_, _, _, _, _])) (by exact (rfl : _ = [_, _, _, _, _])) (by exact rfl) (by exact rfl)) ?_
  refine d_q0 rfl rfl (q_mv (.inl rfl) (by first | exact is_im rfl | exact is_gs rfl | exact is_lit rfl | exact is_ms rfl | exact is_sc rfl | exact rfl)) ?_
  refine d_q0 rfl rfl (q_cutIm (a := 2) (b := (strV b :: boolV c :: l.map strV).length) (k := (l.map strV).length) rfl rfl rfl ⟨_, _, rfl, by decide, rfl⟩ rfl (by show 2 ≤ (l.map strV).length + 1 + 1; omega) (Nat.le_refl _) hcut rfl) ?_
  refine d_q0 rfl rfl (q_call rfl rfl rfl rfl hflat) ?_
  refine d_q0 rfl rfl (q_appendLit (out := (strV b :: l.map strV).flatMap V.c) (k := (strV b :: l.map strV).length) rfl rfl rfl rfl (by decide) rfl (len_lst _) (by show (1 + (l.map strV).length) * 64 ≤ _; simp only [List.length_map]; omega) (by show 1 + (l.map strV).length ≤ 9223372036854775807; simp only [List.length_map]; omega) rfl (Nat.add_comm _ _)) ?_
  refine d_q0 rfl rfl (q_call rfl rfl rfl rfl htexts) ?_
  refine d_q0 rfl rfl (q_mv (.inl rfl) (by first | exact (rfl : _ = D.tup [_, _, _]) | exact rfl)) ?_
  refine d_q0 rfl rfl (q_extract rfl rfl rfl) ?_
  refine d_q0 rfl rfl (q_extract rfl rfl rfl) ?_
  refine d_q0 rfl rfl (q_extract rfl rfl rfl) ?_
  refine d_s2 rfl rfl (as_alloc0 (id := 3) rfl rfl (by exact (rfl : _ = [_, _, _, _, _]))) ?_
  refine d_q0 rfl rfl (q_mv (.inr rfl) (by first | exact is_im rfl | exact is_gs rfl | exact is_lit rfl | exact is_ms rfl | exact is_sc rfl | exact rfl)) ?_
  refine d_u3 rfl rfl (as_st rfl rfl (by first | exact (rfl : _ = D.agg [_, _, _, _, _]) | exact rfl) rfl (by exact rfl) (by exact rfl) (by exact Nat.le_of_ble_eq_true rfl) (by exact (rfl : _ = [_, _, _, _, _]))) ?_
  refine d_q0 rfl rfl (q_mv (.inr rfl) (is_sc rfl)) ?_
  refine d_nil (n_n (w_seq (w_seq (w_reg (s_q rfl rfl (q_mv (.inl rfl) (is_sc rfl)) ?_)))))
  refine s_q rfl rfl (q_not rfl rfl) ?_
  refine s_nil (n_n (w_ifF rfl (w_skip (n_n (w_seq (w_reg (s_q rfl rfl (q_mv (.inr rfl) (is_sc rfl)) ?_)))))))
  refine s_q rfl rfl (q_mv (.inr rfl) (is_sc rfl)) ?_
  refine s_nil (n_n (w_seq (w_seq (w_reg (s_q rfl rfl (q_mv (.inr rfl) (is_sc rfl)) ?_)))))
  refine s_nil (n_n (w_block ?_))
  refine w_loop (fun env A => ∃ i : Nat, i ≤ l.length ∧ Binds env [(2, .box 0 0), (5, .box 2 0), (6, .im ((b :: l).map st) (b :: l).length), (9, st (joinT b c (l.take i))), (10, bl (begunB c (l.take i))), (11, i64 ((i + 1 : Nat) : Int))] ∧ A = ⟨[.cells [.sc (.int .i64 0), .sc (.int .i64 0), .sc (.int .i64 0), .sc (.string ⟨⟨[]⟩⟩), .sc (.slice none 0 0)], .cells (V.c noV), .cells (V.c (boolV c)), .cells (V.c noV)], fun _ => false, 0, noHeap⟩) (fun env _ => l.length + 1 - ctr (env 11)) ?_ ?_
  · exact ⟨0, Nat.zero_le _, ⟨rfl, rfl, rfl, rfl, rfl, rfl, trivial⟩, rfl⟩
  · rintro env A ⟨i, hi, hB, rfl⟩
    rw [hB.eq]; clear hB
    have hjl : (joinT b c (l.take i)).length ≤ 40000 := by
      have h1 := tj_len (c := c) (l := l.take i) hb (fun s hs => hl s (List.mem_of_mem_take hs))
      have h2 : (l.take i).length ≤ l.length := by rw [List.length_take]; exact Nat.min_le_right _ _
      omega
    refine w_seq (w_seq (w_reg (s_q rfl rfl (q_mv (.inl rfl) (is_sc rfl)) ?_)))
    refine s_q rfl rfl (q_mv (.inl rfl) (by first | exact is_im rfl | exact is_gs rfl | exact is_lit rfl | exact is_ms rfl | exact is_sc rfl | exact rfl)) ?_
    refine s_q rfl rfl (q_len rfl rfl rfl) ?_
    refine s_q rfl rfl (q_lss rfl rfl rfl) ?_
    refine s_nil (n_n (w_if (is_scb rfl) (fun h57 => ?_) (fun h57 => ?_)))
    · have hlt : i < l.length := by have h' : ((i + 1 : Nat) : Int) < ((l.length + 1 : Nat) : Int) := of_decide_eq_true h57; omega
      have hldi : takeAt false 1 ((b :: l).map st) (((i + 1 : Nat) : Int).toNat * 1) = some (st l[i]) := by simp [takeAt, hlt]
      have hli := hl _ (List.getElem_mem hlt)
      refine w_skip (n_n (w_seq (w_block (w_seq (w_seq (w_reg (s_q rfl rfl (q_mv (.inl rfl) (by first | exact is_im rfl | exact is_gs rfl | exact is_lit rfl | exact is_ms rfl | exact is_sc rfl | exact rfl)) ?_)))))))
      refine s_q rfl rfl (q_mv (.inl rfl) (is_sc rfl)) ?_
      refine s_q rfl rfl (q_index rfl rfl rfl rfl (Int.natCast_nonneg _) (by show ((i + 1 : Nat) : Int) < ((l.length + 1 : Nat) : Int); omega)) ?_
      refine s_q rfl rfl (q_loadPin rfl rfl (by exact hldi)) ?_
      refine s_q rfl rfl (q_eqs rfl rfl rfl) ?_
      refine s_q rfl rfl (q_mv (.inl rfl) (is_sc rfl)) ?_
      refine s_split 65 (is_scb rfl) (fun h65 => ?_) (fun h65 => ?_)
      · have he : l[i] = [] := of_decide_eq_true h65
        refine s_q rfl rfl (q_field rfl rfl (by exact rfl)) ?_
        refine s_q rfl rfl (q_load rfl rfl (by exact (rfl : _ = some (D.sc _)))) ?_
        refine s_q rfl rfl (q_eql rfl rfl rfl) ?_
        refine s_q rfl rfl (q_pickT rfl rfl (is_sc rfl)) ?_
        refine s_nil (n_n (w_if (is_scb rfl) (fun h69 => ?_) (fun h69 => ?_)))
        · have hc : c = true := by cases c with | true => rfl | false => exact absurd h69 (by decide)
          refine w_exit (n_e (b_hit (n_n (w_reg (s_q rfl rfl (q_mv (.inl rfl) (is_sc rfl)) ?_)))))
          refine s_q rfl rfl (q_add rfl rfl rfl) ?_
          refine s_q rfl rfl (q_mv (.inr rfl) (is_sc rfl)) ?_
          refine s_nil (n_n ?_)
          have hw : IntKind.i64.wrap (((i + 1 : Nat) : Int) + 1) = (((i + 1 : Nat) + 1 : Nat) : Int) := wrap_nat (by omega)
          have hs := tj_skip (b := b) hlt he hc
          refine ⟨⟨i + 1, hlt, ⟨rfl, rfl, rfl, st_eq hs.1.symm, bl_eq hs.2.symm, i64_eq hw, trivial⟩, rfl⟩, ?_⟩
          show l.length + 1 - (IntKind.i64.wrap (((i + 1 : Nat) : Int) + 1)).toNat < l.length + 1 - ((i + 1 : Nat) : Int).toNat
          rw [hw]; omega
        · have hc : ¬ (l[i] = [] ∧ c = true) := fun x => by rw [x.2] at h69; exact absurd h69 (by decide)
          refine w_skip (n_n (w_seq (w_seq (w_reg (s_q rfl rfl (q_mv (.inl rfl) (is_sc rfl)) ?_)))))
          refine s_nil (n_n (w_if (is_scb rfl) (fun h70 => ?_) (fun h70 => ?_)))
          · refine w_reg (s_q rfl rfl (q_mv (.inl rfl) (is_sc rfl)) ?_)
            refine s_q rfl rfl (q_mv (.inl rfl) (by first | exact is_im rfl | exact is_gs rfl | exact is_lit rfl | exact is_ms rfl | exact is_sc rfl | exact rfl)) ?_
            refine s_q rfl rfl (q_index rfl rfl rfl rfl (Int.le_refl _) (by show (0 : Int) < ((l.length + 1 : Nat) : Int); omega)) ?_
            refine s_q rfl rfl (q_loadPin rfl rfl (rfl : takeAt false 1 ((b :: l).map st) ((0 : Int).toNat * 1) = some (st b))) ?_
            refine s_q rfl rfl (q_cat rfl rfl rfl (by show (joinT b c (l.take i)).length + b.length ≤ _; omega)) ?_
            refine s_q rfl rfl (q_mv (.inr rfl) (is_sc rfl)) ?_
            refine s_nil (n_n (w_reg (s_q rfl rfl (q_mv (.inl rfl) (is_sc rfl)) ?_)))
            refine s_q rfl rfl (q_mv (.inl rfl) (by first | exact is_im rfl | exact is_gs rfl | exact is_lit rfl | exact is_ms rfl | exact is_sc rfl | exact rfl)) ?_
            refine s_q rfl rfl (q_mv (.inl rfl) (is_sc rfl)) ?_
            refine s_q rfl rfl (q_index rfl rfl rfl rfl (Int.natCast_nonneg _) (by show ((i + 1 : Nat) : Int) < ((l.length + 1 : Nat) : Int); omega)) ?_
            refine s_q rfl rfl (q_loadPin rfl rfl (by exact hldi)) ?_
            refine s_q rfl rfl (q_cat rfl rfl rfl (by first | (show ((joinT b c (l.take i)) ++ b).length + l[i].length ≤ _; simp only [List.length_append]; omega) | (show (joinT b c (l.take i)).length + l[i].length ≤ _; omega))) ?_
            refine s_q rfl rfl (q_mv (.inr rfl) (is_sc rfl)) ?_
            refine s_q rfl rfl (q_mv (.inr rfl) (is_sc rfl)) ?_
            refine s_nil (b_n (n_n (w_reg (s_q rfl rfl (q_mv (.inl rfl) (is_sc rfl)) ?_))))
            refine s_q rfl rfl (q_add rfl rfl rfl) ?_
            refine s_q rfl rfl (q_mv (.inr rfl) (is_sc rfl)) ?_
            refine s_nil (n_n ?_)
            have hw : IntKind.i64.wrap (((i + 1 : Nat) : Int) + 1) = (((i + 1 : Nat) + 1 : Nat) : Int) := wrap_nat (by omega)
            have hs := tj_more (b := b) hlt hc h70
            refine ⟨⟨i + 1, hlt, ⟨rfl, rfl, rfl, st_eq hs.1.symm, bl_eq hs.2.symm, i64_eq hw, trivial⟩, rfl⟩, ?_⟩
            show l.length + 1 - (IntKind.i64.wrap (((i + 1 : Nat) : Int) + 1)).toNat < l.length + 1 - ((i + 1 : Nat) : Int).toNat
            rw [hw]; omega
          · refine w_skip (n_n (w_reg (s_q rfl rfl (q_mv (.inl rfl) (is_sc rfl)) ?_)))
            refine s_q rfl rfl (q_mv (.inl rfl) (by first | exact is_im rfl | exact is_gs rfl | exact is_lit rfl | exact is_ms rfl | exact is_sc rfl | exact rfl)) ?_
            refine s_q rfl rfl (q_mv (.inl rfl) (is_sc rfl)) ?_
            refine s_q rfl rfl (q_index rfl rfl rfl rfl (Int.natCast_nonneg _) (by show ((i + 1 : Nat) : Int) < ((l.length + 1 : Nat) : Int); omega)) ?_
            refine s_q rfl rfl (q_loadPin rfl rfl (by exact hldi)) ?_
            refine s_q rfl rfl (q_cat rfl rfl rfl (by first | (show ((joinT b c (l.take i)) ++ b).length + l[i].length ≤ _; simp only [List.length_append]; omega) | (show (joinT b c (l.take i)).length + l[i].length ≤ _; omega))) ?_
            refine s_q rfl rfl (q_mv (.inr rfl) (is_sc rfl)) ?_
            refine s_q rfl rfl (q_mv (.inr rfl) (is_sc rfl)) ?_
            refine s_nil (b_n (n_n (w_reg (s_q rfl rfl (q_mv (.inl rfl) (is_sc rfl)) ?_))))
            refine s_q rfl rfl (q_add rfl rfl rfl) ?_
            refine s_q rfl rfl (q_mv (.inr rfl) (is_sc rfl)) ?_
            refine s_nil (n_n ?_)
            have hw : IntKind.i64.wrap (((i + 1 : Nat) : Int) + 1) = (((i + 1 : Nat) + 1 : Nat) : Int) := wrap_nat (by omega)
            have hs := tj_one (b := b) hlt hc h70
            refine ⟨⟨i + 1, hlt, ⟨rfl, rfl, rfl, st_eq hs.1.symm, bl_eq hs.2.symm, i64_eq hw, trivial⟩, rfl⟩, ?_⟩
            show l.length + 1 - (IntKind.i64.wrap (((i + 1 : Nat) : Int) + 1)).toNat < l.length + 1 - ((i + 1 : Nat) : Int).toNat
            rw [hw]; omega
      · have hc : ¬ (l[i] = [] ∧ c = true) := fun x => (of_decide_eq_false h65) x.1
        refine s_off rfl rfl ?_
        refine s_off rfl rfl ?_
        refine s_off rfl rfl ?_
        refine s_q rfl rfl (q_pickF rfl rfl (is_sc rfl)) ?_
        refine s_nil (n_n (w_ifF rfl (w_skip (n_n (w_seq (w_seq (w_reg (s_q rfl rfl (q_mv (.inl rfl) (is_sc rfl)) ?_))))))))
        refine s_nil (n_n (w_if (is_scb rfl) (fun h70 => ?_) (fun h70 => ?_)))
        · refine w_reg (s_q rfl rfl (q_mv (.inl rfl) (is_sc rfl)) ?_)
          refine s_q rfl rfl (q_mv (.inl rfl) (by first | exact is_im rfl | exact is_gs rfl | exact is_lit rfl | exact is_ms rfl | exact is_sc rfl | exact rfl)) ?_
          refine s_q rfl rfl (q_index rfl rfl rfl rfl (Int.le_refl _) (by show (0 : Int) < ((l.length + 1 : Nat) : Int); omega)) ?_
          refine s_q rfl rfl (q_loadPin rfl rfl (rfl : takeAt false 1 ((b :: l).map st) ((0 : Int).toNat * 1) = some (st b))) ?_
          refine s_q rfl rfl (q_cat rfl rfl rfl (by show (joinT b c (l.take i)).length + b.length ≤ _; omega)) ?_
          refine s_q rfl rfl (q_mv (.inr rfl) (is_sc rfl)) ?_
          refine s_nil (n_n (w_reg (s_q rfl rfl (q_mv (.inl rfl) (is_sc rfl)) ?_)))
          refine s_q rfl rfl (q_mv (.inl rfl) (by first | exact is_im rfl | exact is_gs rfl | exact is_lit rfl | exact is_ms rfl | exact is_sc rfl | exact rfl)) ?_
          refine s_q rfl rfl (q_mv (.inl rfl) (is_sc rfl)) ?_
          refine s_q rfl rfl (q_index rfl rfl rfl rfl (Int.natCast_nonneg _) (by show ((i + 1 : Nat) : Int) < ((l.length + 1 : Nat) : Int); omega)) ?_
          refine s_q rfl rfl (q_loadPin rfl rfl (by exact hldi)) ?_
          refine s_q rfl rfl (q_cat rfl rfl rfl (by first | (show ((joinT b c (l.take i)) ++ b).length + l[i].length ≤ _; simp only [List.length_append]; omega) | (show (joinT b c (l.take i)).length + l[i].length ≤ _; omega))) ?_
          refine s_q rfl rfl (q_mv (.inr rfl) (is_sc rfl)) ?_
          refine s_q rfl rfl (q_mv (.inr rfl) (is_sc rfl)) ?_
          refine s_nil (b_n (n_n (w_reg (s_q rfl rfl (q_mv (.inl rfl) (is_sc rfl)) ?_))))
          refine s_q rfl rfl (q_add rfl rfl rfl) ?_
          refine s_q rfl rfl (q_mv (.inr rfl) (is_sc rfl)) ?_
          refine s_nil (n_n ?_)
          have hw : IntKind.i64.wrap (((i + 1 : Nat) : Int) + 1) = (((i + 1 : Nat) + 1 : Nat) : Int) := wrap_nat (by omega)
          have hs := tj_more (b := b) hlt hc h70
          refine ⟨⟨i + 1, hlt, ⟨rfl, rfl, rfl, st_eq hs.1.symm, bl_eq hs.2.symm, i64_eq hw, trivial⟩, rfl⟩, ?_⟩
          show l.length + 1 - (IntKind.i64.wrap (((i + 1 : Nat) : Int) + 1)).toNat < l.length + 1 - ((i + 1 : Nat) : Int).toNat
          rw [hw]; omega
        · refine w_skip (n_n (w_reg (s_q rfl rfl (q_mv (.inl rfl) (is_sc rfl)) ?_)))
          refine s_q rfl rfl (q_mv (.inl rfl) (by first | exact is_im rfl | exact is_gs rfl | exact is_lit rfl | exact is_ms rfl | exact is_sc rfl | exact rfl)) ?_
          refine s_q rfl rfl (q_mv (.inl rfl) (is_sc rfl)) ?_
          refine s_q rfl rfl (q_index rfl rfl rfl rfl (Int.natCast_nonneg _) (by show ((i + 1 : Nat) : Int) < ((l.length + 1 : Nat) : Int); omega)) ?_
          refine s_q rfl rfl (q_loadPin rfl rfl (by exact hldi)) ?_
          refine s_q rfl rfl (q_cat rfl rfl rfl (by first | (show ((joinT b c (l.take i)) ++ b).length + l[i].length ≤ _; simp only [List.length_append]; omega) | (show (joinT b c (l.take i)).length + l[i].length ≤ _; omega))) ?_
          refine s_q rfl rfl (q_mv (.inr rfl) (is_sc rfl)) ?_
          refine s_q rfl rfl (q_mv (.inr rfl) (is_sc rfl)) ?_
          refine s_nil (b_n (n_n (w_reg (s_q rfl rfl (q_mv (.inl rfl) (is_sc rfl)) ?_))))
          refine s_q rfl rfl (q_add rfl rfl rfl) ?_
          refine s_q rfl rfl (q_mv (.inr rfl) (is_sc rfl)) ?_
          refine s_nil (n_n ?_)
          have hw : IntKind.i64.wrap (((i + 1 : Nat) : Int) + 1) = (((i + 1 : Nat) + 1 : Nat) : Int) := wrap_nat (by omega)
          have hs := tj_one (b := b) hlt hc h70
          refine ⟨⟨i + 1, hlt, ⟨rfl, rfl, rfl, st_eq hs.1.symm, bl_eq hs.2.symm, i64_eq hw, trivial⟩, rfl⟩, ?_⟩
          show l.length + 1 - (IntKind.i64.wrap (((i + 1 : Nat) : Int) + 1)).toNat < l.length + 1 - ((i + 1 : Nat) : Int).toNat
          rw [hw]; omega
    · have hge : l.length ≤ i := by have h' : ¬ ((i + 1 : Nat) : Int) < ((l.length + 1 : Nat) : Int) := of_decide_eq_false h57; omega
      rw [List.take_of_length_le hge] at hjl ⊢
      refine w_exit (n_e (n_e (b_hit (n_n (w_seq (w_seq (w_reg (s_q rfl rfl (q_mv (.inl rfl) (is_sc rfl)) ?_))))))))
      refine s_q rfl rfl (q_lens rfl rfl) ?_
      refine s_q rfl rfl (q_gtr rfl rfl rfl) ?_
      refine s_nil (n_n (w_if (is_scb rfl) (fun h84 => ?_) (fun h84 => ?_)))
      · refine w_seq (w_reg (s_q rfl rfl (q_call rfl rfl rfl rfl pf_doubt) ?_))
        refine s_u rfl rfl (as_st rfl rfl (by first | exact (rfl : _ = D.agg [_, _, _, _, _]) | exact rfl) rfl (by exact rfl) (by exact rfl) (by exact Nat.le_of_ble_eq_true rfl) (by exact (rfl : _ = [_, _, _, _, _]))) ?_
        refine s_nil (n_n (w_ret (n_r ?_)))
        -- end 0
        refine r_r (ra_cell (by exact (rfl : _ = some (D.agg [_, _, _, _, _]))) ra_nil) (by first | exact (rfl : _ = D.agg [_, _, _, _, _]) | exact rfl) (by exact rfl) sub_no ?_
        rw [show joinV b c l = doubt from if_pos (by have h' : (20000 : Int) < ((joinT b c l).length : Int) := of_decide_eq_true h84; omega)]; rfl
      · refine w_skip (n_n (w_seq (w_reg (s_q rfl rfl (q_mv (.inl rfl) (is_sc rfl)) ?_))))
        refine s_q rfl rfl (q_call rfl rfl rfl rfl (pf_str _)) ?_
        refine s_u rfl rfl (as_st rfl rfl (by first | exact (rfl : _ = D.agg [_, _, _, _, _]) | exact rfl) rfl (by exact rfl) (by exact rfl) (by exact Nat.le_of_ble_eq_true rfl) (by exact (rfl : _ = [_, _, _, _, _]))) ?_
        refine s_nil (n_n (w_ret ?_))
        -- end 1
        refine r_r (ra_cell (by exact (rfl : _ = some (D.agg [_, _, _, _, _]))) ra_nil) (by first | exact (rfl : _ = D.agg [_, _, _, _, _]) | exact rfl) (by exact rfl) sub_no ?_
        rw [show joinV b c l = strV (joinT b c l) from if_neg (by have h' : ¬ (20000 : Int) < ((joinT b c l).length : Int) := of_decide_eq_false h84; omega)]; rfl


-- pub-tallysheet/spec.fitsNumbers
theorem pf_fitsNumbers_TEXTJOINA (b : List UInt8) (c : Bool) (l : List (List UInt8)) (hb : b.length ≤ 1000) (hl : ∀ s ∈ l, s.length ≤ 1000) (h20 : l.length ≤ 20) (ha : asciiB b = true) (hla : l.all asciiB = true) (hne : ¬ l = []) : PF Tryz.prog G 93 [st [84, 69, 88, 84, 74, 79, 73, 78], lst (strV b :: boolV c :: l.map strV)] (.tup [bl false, bl false]) := by
  have hnum := pf_every (G := G) (tjA b c l) (by rw [tjA_len]; omega) 176 numW (fun v hv => by
    rcases tjA_mem hv with (rfl | ⟨s, hs, rfl⟩) | rfl
    · exact pf_numericU ⟨2, 0, 0, b⟩ (by show b.length < _; omega)
    · exact pf_numericU ⟨2, 0, 0, s⟩ (by have := hl s hs; show s.length < _; omega)
    · exact pf_numericU ⟨3, if c then 1 else 0, 0, []⟩ (by simp))
  refine PC.intro rfl Tryz.func93 rfl (Nat.le_of_ble_eq_true rfl) rfl ?_
  refine w_seq (w_reg (s_q rfl rfl (q_mv (.inr rfl) (is_sc rfl)) ?_))
  refine s_q rfl rfl (q_mv (.inr rfl) (is_sc rfl)) ?_
  refine s_nil (n_n (w_seq (w_reg (s_q rfl rfl (q_mv (.inl rfl) (by first | exact is_im rfl | exact is_gs rfl | exact is_lit rfl | exact is_ms rfl | exact is_sc rfl | exact rfl)) ?_))))
  refine s_q rfl rfl (q_len rfl rfl rfl) ?_
  refine s_q rfl rfl (q_mv (.inr rfl) (is_sc rfl)) ?_
  refine s_nil (n_n (w_seq (w_reg (s_q rfl rfl (q_mv (.inl rfl) (by first | exact is_im rfl | exact is_gs rfl | exact is_lit rfl | exact is_ms rfl | exact is_sc rfl | exact rfl)) ?_))))
  refine s_q rfl rfl (q_call rfl rfl rfl rfl hnum) ?_
  refine s_q rfl rfl (q_mv (.inr rfl) (is_sc rfl)) ?_
  refine s_nil (n_n (w_seq (w_seq (w_reg (s_q rfl rfl (q_mv (.inl rfl) (is_sc rfl)) ?_)))))
  refine s_nil (n_n (w_block (w_seq (w_seq (w_reg (s_q rfl rfl (q_eqs rfl rfl rfl) ?_))))))
  refine s_q rfl rfl (q_mv (.inr rfl) (is_sc rfl)) ?_
  refine s_nil (n_n (w_ifF rfl (w_seq (w_reg (s_q rfl rfl (q_eqs rfl rfl rfl) ?_)))))
  refine s_q rfl rfl (q_mv (.inr rfl) (is_sc rfl)) ?_
  refine s_nil (n_n (w_ifF rfl (w_seq (w_reg (s_q rfl rfl (q_eqs rfl rfl rfl) ?_)))))
  refine s_q rfl rfl (q_mv (.inr rfl) (is_sc rfl)) ?_
  refine s_nil (n_n (w_ifF rfl (w_seq (w_reg (s_q rfl rfl (q_eqs rfl rfl rfl) ?_)))))
  refine s_q rfl rfl (q_mv (.inr rfl) (is_sc rfl)) ?_
  refine s_nil (n_n (w_ifF rfl (w_reg (s_q rfl rfl (q_eqs rfl rfl rfl) ?_))))
  refine s_q rfl rfl (q_mv (.inr rfl) (is_sc rfl)) ?_
  refine s_nil (n_n (w_ifF rfl (w_seq (w_reg (s_q rfl rfl (q_eqs rfl rfl rfl) ?_)))))
  refine s_q rfl rfl (q_mv (.inr rfl) (is_sc rfl)) ?_
  refine s_nil (n_n (w_ifF rfl (w_seq (w_seq (w_reg (s_q rfl rfl (q_eqs rfl rfl rfl) ?_))))))
  refine s_q rfl rfl (q_mv (.inr rfl) (is_sc rfl)) ?_
  refine s_nil (n_n (w_ifF rfl (w_reg (s_q rfl rfl (q_eqs rfl rfl rfl) ?_))))
  refine s_q rfl rfl (q_mv (.inr rfl) (is_sc rfl)) ?_
  refine s_nil (n_n (w_ifF rfl (w_seq (w_seq (w_reg (s_q rfl rfl (q_eqs rfl rfl rfl) ?_))))))
  refine s_q rfl rfl (q_mv (.inr rfl) (is_sc rfl)) ?_
  refine s_nil (n_n (w_ifF rfl (w_reg (s_q rfl rfl (q_eqs rfl rfl rfl) ?_))))
  refine s_q rfl rfl (q_mv (.inr rfl) (is_sc rfl)) ?_
  refine s_nil (n_n (w_ifF rfl (w_seq (w_seq (w_reg (s_q rfl rfl (q_eqs rfl rfl rfl) ?_))))))
  refine s_q rfl rfl (q_mv (.inr rfl) (is_sc rfl)) ?_
  refine s_nil (n_n (w_ifF rfl (w_reg (s_q rfl rfl (q_eqs rfl rfl rfl) ?_))))
  refine s_q rfl rfl (q_mv (.inr rfl) (is_sc rfl)) ?_
  refine s_nil (n_n (w_ifF rfl (w_seq (w_seq (w_reg (s_q rfl rfl (q_eqs rfl rfl rfl) ?_))))))
  refine s_q rfl rfl (q_mv (.inr rfl) (is_sc rfl)) ?_
  refine s_nil (n_n (w_ifF rfl (w_seq (w_reg (s_q rfl rfl (q_eqs rfl rfl rfl) ?_)))))
  refine s_q rfl rfl (q_mv (.inr rfl) (is_sc rfl)) ?_
  refine s_nil (n_n (w_ifF rfl (w_reg (s_q rfl rfl (q_eqs rfl rfl rfl) ?_))))
  refine s_q rfl rfl (q_mv (.inr rfl) (is_sc rfl)) ?_
  refine s_nil (n_n (w_ifF rfl (w_seq (w_seq (w_reg (s_q rfl rfl (q_eqs rfl rfl rfl) ?_))))))
  refine s_q rfl rfl (q_mv (.inr rfl) (is_sc rfl)) ?_
  refine s_nil (n_n (w_ifF rfl (w_reg (s_q rfl rfl (q_eqs rfl rfl rfl) ?_))))
  refine s_q rfl rfl (q_mv (.inr rfl) (is_sc rfl)) ?_
  refine s_nil (n_n (w_ifF rfl (w_seq (w_reg (s_q rfl rfl (q_eqs rfl rfl rfl) ?_)))))
  refine s_q rfl rfl (q_mv (.inr rfl) (is_sc rfl)) ?_
  refine s_nil (n_n (w_ifF rfl (w_seq (w_reg (s_q rfl rfl (q_eqs rfl rfl rfl) ?_)))))
  refine s_q rfl rfl (q_mv (.inr rfl) (is_sc rfl)) ?_
  refine s_nil (n_n (w_ifF rfl (w_seq (w_seq (w_reg (s_q rfl rfl (q_eqs rfl rfl rfl) ?_))))))
  refine s_q rfl rfl (q_mv (.inr rfl) (is_sc rfl)) ?_
  refine s_nil (n_n (w_ifF rfl (w_seq (w_reg (s_q rfl rfl (q_eqs rfl rfl rfl) ?_)))))
  refine s_q rfl rfl (q_mv (.inr rfl) (is_sc rfl)) ?_
  refine s_nil (n_n (w_ifF rfl (w_reg (s_q rfl rfl (q_eqs rfl rfl rfl) ?_))))
  refine s_q rfl rfl (q_mv (.inr rfl) (is_sc rfl)) ?_
  refine s_nil (n_n (w_ifF rfl (w_skip (b_n (n_n (w_seq (w_reg (s_q rfl rfl (q_mv (.inr rfl) (is_sc rfl)) ?_))))))))
  refine s_q rfl rfl (q_mv (.inr rfl) (is_sc rfl)) ?_
  refine s_nil (n_n (w_ret ?_))
  -- end 0
  refine r_r (ra_tmp (is_sc rfl) (ra_tmp (is_sc rfl) ra_nil)) (by exact (rfl : _ = D.tup [_, _])) (by exact rfl) sub_no ?_
  rfl


-- pub-tallysheet/spec.fitsTexts
theorem pf_fitsTexts_TEXTJOINA (b : List UInt8) (c : Bool) (l : List (List UInt8)) (hb : b.length ≤ 1000) (hl : ∀ s ∈ l, s.length ≤ 1000) (h20 : l.length ≤ 20) (ha : asciiB b = true) (hla : l.all asciiB = true) (hne : ¬ l = []) : PF Tryz.prog G 94 [st [84, 69, 88, 84, 74, 79, 73, 78], lst (strV b :: boolV c :: l.map strV)] (.tup [bl true, bl true]) := by
  have hcut : (((strV b :: boolV c :: l.map strV).flatMap V.c).take ((strV b :: boolV c :: l.map strV).length * 5)).drop (2 * 5) = (l.map strV).flatMap V.c := by rw [List.take_of_length_le (by rw [len_lst]; exact Nat.le_refl _)]; rfl
  have hcl : PF Tryz.prog G 175 [lst (l.map strV), .fn 186 [] []] (bl (l.all asciiB)) := by
    have := pf_every (G := G) (l.map strV) (by simp only [List.length_map]; omega) 186 (fun v => asciiB v.text) (fun v hv => by
      obtain ⟨s, hs, rfl⟩ := List.mem_map.1 hv
      exact pf_tjClosure s (by have := hl s hs; omega))
    rw [List.all_map] at this; exact this
  rw [hla] at hcl
  have hpos : 0 < l.length := List.length_pos_iff.mpr hne
  have htb := pf_textualT (G := G) b (by omega)
  rw [ha] at htb
  refine PC.intro rfl Tryz.func94 rfl (Nat.le_of_ble_eq_true rfl) rfl ?_
  refine w_seq (w_reg (s_q rfl rfl (q_mv (.inr rfl) (is_sc rfl)) ?_))
  refine s_q rfl rfl (q_mv (.inr rfl) (is_sc rfl)) ?_
  refine s_nil (n_n (w_seq (w_reg (s_q rfl rfl (q_mv (.inl rfl) (by first | exact is_im rfl | exact is_gs rfl | exact is_lit rfl | exact is_ms rfl | exact is_sc rfl | exact rfl)) ?_))))
  refine s_q rfl rfl (q_len rfl rfl rfl) ?_
  refine s_q rfl rfl (q_mv (.inr rfl) (is_sc rfl)) ?_
  refine s_nil (n_n (w_seq (w_seq (w_reg (s_q rfl rfl (q_mv (.inl rfl) (is_sc rfl)) ?_)))))
  refine s_nil (n_n (w_block (w_seq (w_seq (w_reg (s_q rfl rfl (q_eqs rfl rfl rfl) ?_))))))
  refine s_q rfl rfl (q_mv (.inr rfl) (is_sc rfl)) ?_
  refine s_nil (n_n (w_ifF rfl (w_seq (w_reg (s_q rfl rfl (q_eqs rfl rfl rfl) ?_)))))
  refine s_q rfl rfl (q_mv (.inr rfl) (is_sc rfl)) ?_
  refine s_nil (n_n (w_ifF rfl (w_seq (w_reg (s_q rfl rfl (q_eqs rfl rfl rfl) ?_)))))
  refine s_q rfl rfl (q_mv (.inr rfl) (is_sc rfl)) ?_
  refine s_nil (n_n (w_ifF rfl (w_seq (w_reg (s_q rfl rfl (q_eqs rfl rfl rfl) ?_)))))
  refine s_q rfl rfl (q_mv (.inr rfl) (is_sc rfl)) ?_
  refine s_nil (n_n (w_ifF rfl (w_seq (w_reg (s_q rfl rfl (q_eqs rfl rfl rfl) ?_)))))
  refine s_q rfl rfl (q_mv (.inr rfl) (is_sc rfl)) ?_
  refine s_nil (n_n (w_ifF rfl (w_reg (s_q rfl rfl (q_eqs rfl rfl rfl) ?_))))
  refine s_q rfl rfl (q_mv (.inr rfl) (is_sc rfl)) ?_
  refine s_nil (n_n (w_ifF rfl (w_seq (w_reg (s_q rfl rfl (q_eqs rfl rfl rfl) ?_)))))
  refine s_q rfl rfl (q_mv (.inr rfl) (is_sc rfl)) ?_
  refine s_nil (n_n (w_ifF rfl (w_seq (w_seq (w_reg (s_q rfl rfl (q_eqs rfl rfl rfl) ?_))))))
  refine s_q rfl rfl (q_mv (.inr rfl) (is_sc rfl)) ?_
  refine s_nil (n_n (w_ifF rfl (w_reg (s_q rfl rfl (q_eqs rfl rfl rfl) ?_))))
  refine s_q rfl rfl (q_mv (.inr rfl) (is_sc rfl)) ?_
  refine s_nil (n_n (w_ifF rfl (w_seq (w_reg (s_q rfl rfl (q_eqs rfl rfl rfl) ?_)))))
  refine s_q rfl rfl (q_mv (.inr rfl) (is_sc rfl)) ?_
  refine s_nil (n_n (w_ifF rfl (w_seq (w_reg (s_q rfl rfl (q_eqs rfl rfl rfl) ?_)))))
  refine s_q rfl rfl (q_mv (.inr rfl) (is_sc rfl)) ?_
  refine s_nil (n_n (w_ifF rfl (w_seq (w_reg (s_q rfl rfl (q_eqs rfl rfl rfl) ?_)))))
  refine s_q rfl rfl (q_mv (.inr rfl) (is_sc rfl)) ?_
  refine s_nil (n_n (w_ifF rfl (w_seq (w_reg (s_q rfl rfl (q_eqs rfl rfl rfl) ?_)))))
  refine s_q rfl rfl (q_mv (.inr rfl) (is_sc rfl)) ?_
  refine s_nil (n_n (w_ifF rfl (w_seq (w_reg (s_q rfl rfl (q_eqs rfl rfl rfl) ?_)))))
  refine s_q rfl rfl (q_mv (.inr rfl) (is_sc rfl)) ?_
  refine s_nil (n_n (w_ifF rfl (w_seq (w_seq (w_reg (s_q rfl rfl (q_eqs rfl rfl rfl) ?_))))))
  refine s_q rfl rfl (q_mv (.inr rfl) (is_sc rfl)) ?_
  refine s_nil (n_n (w_ifF rfl (w_reg (s_q rfl rfl (q_eqs rfl rfl rfl) ?_))))
  refine s_q rfl rfl (q_mv (.inr rfl) (is_sc rfl)) ?_
  refine s_nil (n_n (w_ifF rfl (w_seq (w_reg (s_q rfl rfl (q_eqs rfl rfl rfl) ?_)))))
  refine s_q rfl rfl (q_mv (.inr rfl) (is_sc rfl)) ?_
  refine s_nil (n_n (w_ifT rfl (w_seq (w_reg (s_q rfl rfl (q_mv (.inl rfl) (is_sc rfl)) ?_)))))
  refine s_q rfl rfl (q_as (bl_yes (show (2 : Int) < (((l.map strV).length + 1 + 1 : Nat) : Int) by simp only [List.length_map]; omega)) (q_gtr rfl rfl rfl)) ?_
  refine s_q rfl rfl (q_mv (.inl rfl) (is_sc rfl)) ?_
  refine s_q rfl rfl (q_mv (.inl rfl) (is_sc rfl)) ?_
  refine s_q rfl rfl (q_as (bl_yes (show (((l.map strV).length + 1 + 1 : Nat) : Int) ≤ 100 by simp only [List.length_map]; omega)) (q_leq rfl rfl rfl)) ?_
  refine s_q rfl rfl (q_pickT rfl rfl (is_sc rfl)) ?_
  refine s_q rfl rfl (q_mv (.inl rfl) (is_sc rfl)) ?_
  refine s_q rfl rfl (q_mv (.inl rfl) (by first | exact is_im rfl | exact is_gs rfl | exact is_lit rfl | exact is_ms rfl | exact is_sc rfl | exact rfl)) ?_
  refine s_q rfl rfl (q_index rfl rfl rfl rfl (Int.le_refl _) (by show (0 : Int) < (((l.map strV).length + 1 + 1 : Nat) : Int); omega)) ?_
  refine s_q rfl rfl (q_load rfl rfl (by exact (rfl : _ = some (D.agg [_, _, _, _, _])))) ?_
  refine s_q rfl rfl (q_call rfl rfl rfl rfl htb) ?_
  refine s_q rfl rfl (q_pickT rfl rfl (is_sc rfl)) ?_
  refine s_q rfl rfl (q_mv (.inl rfl) (is_sc rfl)) ?_
  refine s_q rfl rfl (q_mv (.inl rfl) (by first | exact is_im rfl | exact is_gs rfl | exact is_lit rfl | exact is_ms rfl | exact is_sc rfl | exact rfl)) ?_
  refine s_q rfl rfl (q_index rfl rfl rfl rfl (by decide) (by show (1 : Int) < (((l.map strV).length + 1 + 1 : Nat) : Int); omega)) ?_
  refine s_q rfl rfl (q_field rfl rfl (by exact rfl)) ?_
  refine s_q rfl rfl (q_load rfl rfl (by exact (rfl : _ = some (D.sc _)))) ?_
  refine s_q rfl rfl (q_eql rfl rfl rfl) ?_
  refine s_q rfl rfl (q_pickT rfl rfl (is_sc rfl)) ?_
  refine s_q rfl rfl (q_mv (.inl rfl) (is_sc rfl)) ?_
  refine s_q rfl rfl (q_mv (.inl rfl) (by first | exact is_im rfl | exact is_gs rfl | exact is_lit rfl | exact is_ms rfl | exact is_sc rfl | exact rfl)) ?_
  refine s_q rfl rfl (q_cutIm (a := 2) (b := (strV b :: boolV c :: l.map strV).length) (k := (l.map strV).length) rfl rfl rfl ⟨_, _, rfl, by decide, rfl⟩ rfl (by show 2 ≤ (l.map strV).length + 1 + 1; omega) (Nat.le_refl _) hcut rfl) ?_
  refine s_q rfl rfl (q_call rfl rfl rfl rfl hcl) ?_
  refine s_q rfl rfl (q_pickT rfl rfl (is_sc rfl)) ?_
  refine s_q rfl rfl (q_mv (.inr rfl) (is_sc rfl)) ?_
  refine s_q rfl rfl (q_mv (.inr rfl) (is_sc rfl)) ?_
  refine s_nil (n_n (w_ret (b_r (n_r ?_))))
  -- end 0
  refine r_r (ra_tmp (is_sc rfl) (ra_tmp (is_sc rfl) ra_nil)) (by exact (rfl : _ = D.tup [_, _])) (by exact rfl) sub_no ?_
  rfl


-- pub-tallysheet/spec.Fits
theorem pf_Fits_TEXTJOINA (b : List UInt8) (c : Bool) (l : List (List UInt8)) (hb : b.length ≤ 1000) (hl : ∀ s ∈ l, s.length ≤ 1000) (h20 : l.length ≤ 20) (ha : asciiB b = true) (hla : l.all asciiB = true) (hne : ¬ l = []) : PF Tryz.prog G 59 [st [84, 69, 88, 84, 74, 79, 73, 78], lst (strV b :: boolV c :: l.map strV)] (bl true) := by
  refine PC.intro rfl Tryz.func59 rfl (Nat.le_of_ble_eq_true rfl) rfl ?_
  refine w_seq (w_reg (s_q rfl rfl (q_mv (.inr rfl) (is_sc rfl)) ?_))
  refine s_nil (n_n (w_seq (w_seq (w_reg (s_q rfl rfl (q_mv (.inl rfl) (is_sc rfl)) ?_)))))
  refine s_q rfl rfl (q_mv (.inl rfl) (by first | exact is_im rfl | exact is_gs rfl | exact is_lit rfl | exact is_ms rfl | exact is_sc rfl | exact rfl)) ?_
  refine s_q rfl rfl (q_call rfl rfl rfl rfl (pf_fitsNumbers_TEXTJOINA b c l hb hl h20 ha hla hne)) ?_
  refine s_q rfl rfl (q_mv (.inl rfl) (by first | exact (rfl : _ = D.tup [_, _]) | exact rfl)) ?_
  refine s_q rfl rfl (q_extract rfl rfl rfl) ?_
  refine s_q rfl rfl (q_extract rfl rfl rfl) ?_
  refine s_q rfl rfl (q_mv (.inr rfl) (is_sc rfl)) ?_
  refine s_q rfl rfl (q_mv (.inr rfl) (is_sc rfl)) ?_
  refine s_nil (n_n (w_seq (w_reg (s_q rfl rfl (q_mv (.inl rfl) (is_sc rfl)) ?_))))
  refine s_nil (n_n (w_ifF rfl (w_skip (n_n (w_seq (w_seq (w_reg (s_q rfl rfl (q_mv (.inl rfl) (is_sc rfl)) ?_))))))))
  refine s_q rfl rfl (q_mv (.inl rfl) (by first | exact is_im rfl | exact is_gs rfl | exact is_lit rfl | exact is_ms rfl | exact is_sc rfl | exact rfl)) ?_
  refine s_q rfl rfl (q_call rfl rfl rfl rfl (pf_fitsTexts_TEXTJOINA b c l hb hl h20 ha hla hne)) ?_
  refine s_q rfl rfl (q_mv (.inl rfl) (by first | exact (rfl : _ = D.tup [_, _]) | exact rfl)) ?_
  refine s_q rfl rfl (q_extract rfl rfl rfl) ?_
  refine s_q rfl rfl (q_extract rfl rfl rfl) ?_
  refine s_q rfl rfl (q_mv (.inr rfl) (is_sc rfl)) ?_
  refine s_q rfl rfl (q_mv (.inr rfl) (is_sc rfl)) ?_
  refine s_nil (n_n (w_seq (w_reg (s_q rfl rfl (q_mv (.inl rfl) (is_sc rfl)) ?_))))
  refine s_nil (n_n (w_ifT rfl (w_seq (w_reg (s_q rfl rfl (q_mv (.inl rfl) (is_sc rfl)) ?_)))))
  refine s_q rfl rfl (q_mv (.inr rfl) (is_sc rfl)) ?_
  refine s_nil (n_n (w_ret (n_r ?_)))
  -- end 0
  refine r_r (ra_tmp (is_sc rfl) ra_nil) (by exact (is_sc rfl)) (by exact rfl) sub_no ?_
  rfl


-- pub-tallysheet/spec.CallText
theorem pf_CallText_TEXTJOINA (b : List UInt8) (c : Bool) (l : List (List UInt8)) (hb : b.length ≤ 1000) (hl : ∀ s ∈ l, s.length ≤ 1000) (h20 : l.length ≤ 20) (ha : asciiB b = true) (hla : l.all asciiB = true) (hne : ¬ l = []) : PF Tryz.prog G 64 [st [84, 69, 88, 84, 74, 79, 73, 78], lst (strV b :: boolV c :: l.map strV)] (.tup [(joinV b c l).d, bl true]) := by
  refine PC.intro rfl Tryz.func64 rfl (Nat.le_of_ble_eq_true rfl) rfl ?_
  refine w_seq (w_reg (s_s rfl rfl (as_alloc0 (id := 0) rfl rfl (by exact (rfl : _ = [_, _, _, _, _]))) ?_))
  refine s_q rfl rfl (q_mv (.inr rfl) (is_sc rfl)) ?_
  refine s_nil (n_n (w_seq (w_seq (w_reg (s_q rfl rfl (q_mv (.inl rfl) (is_sc rfl)) ?_)))))
  refine s_nil (n_n (w_block (w_seq (w_seq (w_reg (s_q rfl rfl (q_eqs rfl rfl rfl) ?_))))))
  refine s_q rfl rfl (q_mv (.inr rfl) (is_sc rfl)) ?_
  refine s_nil (n_n (w_ifF rfl (w_seq (w_reg (s_q rfl rfl (q_eqs rfl rfl rfl) ?_)))))
  refine s_q rfl rfl (q_mv (.inr rfl) (is_sc rfl)) ?_
  refine s_nil (n_n (w_ifF rfl (w_seq (w_reg (s_q rfl rfl (q_eqs rfl rfl rfl) ?_)))))
  refine s_q rfl rfl (q_mv (.inr rfl) (is_sc rfl)) ?_
  refine s_nil (n_n (w_ifF rfl (w_seq (w_reg (s_q rfl rfl (q_eqs rfl rfl rfl) ?_)))))
  refine s_q rfl rfl (q_mv (.inr rfl) (is_sc rfl)) ?_
  refine s_nil (n_n (w_ifF rfl (w_seq (w_reg (s_q rfl rfl (q_eqs rfl rfl rfl) ?_)))))
  refine s_q rfl rfl (q_mv (.inr rfl) (is_sc rfl)) ?_
  refine s_nil (n_n (w_ifF rfl (w_seq (w_reg (s_q rfl rfl (q_eqs rfl rfl rfl) ?_)))))
  refine s_q rfl rfl (q_mv (.inr rfl) (is_sc rfl)) ?_
  refine s_nil (n_n (w_ifF rfl (w_seq (w_reg (s_q rfl rfl (q_eqs rfl rfl rfl) ?_)))))
  refine s_q rfl rfl (q_mv (.inr rfl) (is_sc rfl)) ?_
  refine s_nil (n_n (w_ifF rfl (w_seq (w_reg (s_q rfl rfl (q_eqs rfl rfl rfl) ?_)))))
  refine s_q rfl rfl (q_mv (.inr rfl) (is_sc rfl)) ?_
  refine s_nil (n_n (w_ifF rfl (w_seq (w_reg (s_q rfl rfl (q_eqs rfl rfl rfl) ?_)))))
  refine s_q rfl rfl (q_mv (.inr rfl) (is_sc rfl)) ?_
  refine s_nil (n_n (w_ifF rfl (w_reg (s_q rfl rfl (q_eqs rfl rfl rfl) ?_))))
  refine s_q rfl rfl (q_mv (.inr rfl) (is_sc rfl)) ?_
  refine s_nil (n_n (w_ifF rfl (w_seq (w_seq (w_reg (s_q rfl rfl (q_eqs rfl rfl rfl) ?_))))))
  refine s_q rfl rfl (q_mv (.inr rfl) (is_sc rfl)) ?_
  refine s_nil (n_n (w_ifF rfl (w_reg (s_q rfl rfl (q_eqs rfl rfl rfl) ?_))))
  refine s_q rfl rfl (q_mv (.inr rfl) (is_sc rfl)) ?_
  refine s_nil (n_n (w_ifF rfl (w_seq (w_seq (w_reg (s_q rfl rfl (q_eqs rfl rfl rfl) ?_))))))
  refine s_q rfl rfl (q_mv (.inr rfl) (is_sc rfl)) ?_
  refine s_nil (n_n (w_ifF rfl (w_seq (w_reg (s_q rfl rfl (q_eqs rfl rfl rfl) ?_)))))
  refine s_q rfl rfl (q_mv (.inr rfl) (is_sc rfl)) ?_
  refine s_nil (n_n (w_ifF rfl (w_seq (w_reg (s_q rfl rfl (q_eqs rfl rfl rfl) ?_)))))
  refine s_q rfl rfl (q_mv (.inr rfl) (is_sc rfl)) ?_
  refine s_nil (n_n (w_ifF rfl (w_seq (w_reg (s_q rfl rfl (q_eqs rfl rfl rfl) ?_)))))
  refine s_q rfl rfl (q_mv (.inr rfl) (is_sc rfl)) ?_
  refine s_nil (n_n (w_ifF rfl (w_reg (s_q rfl rfl (q_eqs rfl rfl rfl) ?_))))
  refine s_q rfl rfl (q_mv (.inr rfl) (is_sc rfl)) ?_
  refine s_nil (n_n (w_ifF rfl (w_seq (w_seq (w_reg (s_q rfl rfl (q_eqs rfl rfl rfl) ?_))))))
  refine s_q rfl rfl (q_mv (.inr rfl) (is_sc rfl)) ?_
  refine s_nil (n_n (w_ifF rfl (w_reg (s_q rfl rfl (q_eqs rfl rfl rfl) ?_))))
  refine s_q rfl rfl (q_mv (.inr rfl) (is_sc rfl)) ?_
  refine s_nil (n_n (w_ifF rfl (w_seq (w_reg (s_q rfl rfl (q_eqs rfl rfl rfl) ?_)))))
  refine s_q rfl rfl (q_mv (.inr rfl) (is_sc rfl)) ?_
  refine s_nil (n_n (w_ifT rfl (w_seq (w_reg (s_q rfl rfl (q_mv (.inl rfl) (by first | exact is_im rfl | exact is_gs rfl | exact is_lit rfl | exact is_ms rfl | exact is_sc rfl | exact rfl)) ?_)))))
  refine s_q rfl rfl (q_call rfl rfl rfl rfl (pf_textJoinS b c l hb hl h20 ha hla hne)) ?_
  refine s_u rfl rfl (as_st rfl rfl (by first | exact (rfl : _ = D.agg [_, _, _, _, _]) | exact rfl) rfl (by exact rfl) (by exact rfl) (by exact Nat.le_of_ble_eq_true rfl) (by exact (rfl : _ = [_, _, _, _, _]))) ?_
  refine s_q rfl rfl (q_mv (.inr rfl) (is_sc rfl)) ?_
  refine s_nil (n_n (w_ret (b_r (n_r ?_))))
  -- end 0
  refine r_r (ra_cell (by exact (rfl : _ = some (D.agg [_, _, _, _, _]))) (ra_tmp (is_sc rfl) ra_nil)) (by exact (rfl : _ = D.tup [_, _])) (by exact rfl) sub_no ?_
  rfl


-- pub-tallysheet/spec.CallOver
theorem pf_CallOver_TEXTJOINA (b : List UInt8) (c : Bool) (l : List (List UInt8)) (hb : b.length ≤ 1000) (hl : ∀ s ∈ l, s.length ≤ 1000) (h20 : l.length ≤ 20) (ha : asciiB b = true) (hla : l.all asciiB = true) (hne : ¬ l = []) : PF Tryz.prog G 47 [st [84, 69, 88, 84, 74, 79, 73, 78], lst (strV b :: boolV c :: l.map strV), lst (strV b :: boolV c :: l.map strV)] (joinV b c l).d := by
  refine PC.intro rfl Tryz.func47 rfl (Nat.le_of_ble_eq_true rfl) rfl ?_
  refine w_seq (w_reg (s_s rfl rfl (as_alloc0 (id := 0) rfl rfl (by exact (rfl : _ = [_, _, _, _, _]))) ?_))
  refine s_nil (n_n (w_seq (w_seq (w_reg (s_q rfl rfl (q_mv (.inl rfl) (is_sc rfl)) ?_)))))
  refine s_q rfl rfl (q_mv (.inl rfl) (by first | exact is_im rfl | exact is_gs rfl | exact is_lit rfl | exact is_ms rfl | exact is_sc rfl | exact rfl)) ?_
  refine s_q rfl rfl (q_call rfl rfl rfl rfl (pf_Fits_TEXTJOINA b c l hb hl h20 ha hla hne)) ?_
  refine s_q rfl rfl (q_not rfl rfl) ?_
  refine s_nil (n_n (w_ifF rfl (w_skip (n_n (w_seq (w_seq (w_reg (s_q rfl rfl (q_mv (.inl rfl) (is_sc rfl)) ?_))))))))
  refine s_q rfl rfl (q_mv (.inl rfl) (by first | exact is_im rfl | exact is_gs rfl | exact is_lit rfl | exact is_ms rfl | exact is_sc rfl | exact rfl)) ?_
  refine s_q rfl rfl (q_call rfl rfl rfl rfl (no_Stat_TEXTJOIN _)) ?_
  refine s_q rfl rfl (q_mv (.inl rfl) (by first | exact (rfl : _ = D.tup [_, _]) | exact rfl)) ?_
  refine s_q rfl rfl (q_extract rfl rfl rfl) ?_
  refine s_q rfl rfl (q_extract rfl rfl rfl) ?_
  refine s_s rfl rfl (as_alloc0 (id := 1) rfl rfl (by exact (rfl : _ = [_, _, _, _, _]))) ?_
  refine s_u rfl rfl (as_st rfl rfl (by first | exact (rfl : _ = D.agg [_, _, _, _, _]) | exact rfl) rfl (by exact rfl) (by exact rfl) (by exact Nat.le_of_ble_eq_true rfl) (by exact (rfl : _ = [_, _, _, _, _]))) ?_
  refine s_q rfl rfl (q_mv (.inr rfl) (is_sc rfl)) ?_
  refine s_nil (n_n (w_seq (w_reg (s_q rfl rfl (q_mv (.inl rfl) (is_sc rfl)) ?_))))
  refine s_nil (n_n (w_ifF rfl (w_skip (n_n (w_seq (w_seq (w_reg (s_q rfl rfl (q_mv (.inl rfl) (is_sc rfl)) ?_))))))))
  refine s_q rfl rfl (q_mv (.inl rfl) (by first | exact is_im rfl | exact is_gs rfl | exact is_lit rfl | exact is_ms rfl | exact is_sc rfl | exact rfl)) ?_
  refine s_q rfl rfl (q_call rfl rfl rfl rfl (no_Criteria_TEXTJOIN _)) ?_
  refine s_q rfl rfl (q_mv (.inl rfl) (by first | exact (rfl : _ = D.tup [_, _]) | exact rfl)) ?_
  refine s_q rfl rfl (q_extract rfl rfl rfl) ?_
  refine s_q rfl rfl (q_extract rfl rfl rfl) ?_
  refine s_s rfl rfl (as_alloc0 (id := 2) rfl rfl (by exact (rfl : _ = [_, _, _, _, _]))) ?_
  refine s_u rfl rfl (as_st rfl rfl (by first | exact (rfl : _ = D.agg [_, _, _, _, _]) | exact rfl) rfl (by exact rfl) (by exact rfl) (by exact Nat.le_of_ble_eq_true rfl) (by exact (rfl : _ = [_, _, _, _, _]))) ?_
  refine s_q rfl rfl (q_mv (.inr rfl) (is_sc rfl)) ?_
  refine s_nil (n_n (w_seq (w_reg (s_q rfl rfl (q_mv (.inl rfl) (is_sc rfl)) ?_))))
  refine s_nil (n_n (w_ifF rfl (w_skip (n_n (w_seq (w_seq (w_reg (s_q rfl rfl (q_mv (.inl rfl) (is_sc rfl)) ?_))))))))
  refine s_q rfl rfl (q_mv (.inl rfl) (by first | exact is_im rfl | exact is_gs rfl | exact is_lit rfl | exact is_ms rfl | exact is_sc rfl | exact rfl)) ?_
  refine s_q rfl rfl (q_call rfl rfl rfl rfl (no_Lookup_TEXTJOIN _)) ?_
  refine s_q rfl rfl (q_mv (.inl rfl) (by first | exact (rfl : _ = D.tup [_, _]) | exact rfl)) ?_
  refine s_q rfl rfl (q_extract rfl rfl rfl) ?_
  refine s_q rfl rfl (q_extract rfl rfl rfl) ?_
  refine s_s rfl rfl (as_alloc0 (id := 3) rfl rfl (by exact (rfl : _ = [_, _, _, _, _]))) ?_
  refine s_u rfl rfl (as_st rfl rfl (by first | exact (rfl : _ = D.agg [_, _, _, _, _]) | exact rfl) rfl (by exact rfl) (by exact rfl) (by exact Nat.le_of_ble_eq_true rfl) (by exact (rfl : _ = [_, _, _, _, _]))) ?_
  refine s_q rfl rfl (q_mv (.inr rfl) (is_sc rfl)) ?_
  refine s_nil (n_n (w_seq (w_reg (s_q rfl rfl (q_mv (.inl rfl) (is_sc rfl)) ?_))))
  refine s_nil (n_n (w_ifF rfl (w_skip (n_n (w_seq (w_seq (w_reg (s_q rfl rfl (q_mv (.inl rfl) (is_sc rfl)) ?_))))))))
  refine s_q rfl rfl (q_mv (.inl rfl) (by first | exact is_im rfl | exact is_gs rfl | exact is_lit rfl | exact is_ms rfl | exact is_sc rfl | exact rfl)) ?_
  refine s_q rfl rfl (q_call rfl rfl rfl rfl (no_CallMath_TEXTJOIN _)) ?_
  refine s_q rfl rfl (q_mv (.inl rfl) (by first | exact (rfl : _ = D.tup [_, _]) | exact rfl)) ?_
  refine s_q rfl rfl (q_extract rfl rfl rfl) ?_
  refine s_q rfl rfl (q_extract rfl rfl rfl) ?_
  refine s_s rfl rfl (as_alloc0 (id := 4) rfl rfl (by exact (rfl : _ = [_, _, _, _, _]))) ?_
  refine s_u rfl rfl (as_st rfl rfl (by first | exact (rfl : _ = D.agg [_, _, _, _, _]) | exact rfl) rfl (by exact rfl) (by exact rfl) (by exact Nat.le_of_ble_eq_true rfl) (by exact (rfl : _ = [_, _, _, _, _]))) ?_
  refine s_q rfl rfl (q_mv (.inr rfl) (is_sc rfl)) ?_
  refine s_nil (n_n (w_seq (w_reg (s_q rfl rfl (q_mv (.inl rfl) (is_sc rfl)) ?_))))
  refine s_nil (n_n (w_ifF rfl (w_skip (n_n (w_seq (w_seq (w_reg (s_q rfl rfl (q_mv (.inl rfl) (is_sc rfl)) ?_))))))))
  refine s_q rfl rfl (q_mv (.inl rfl) (by first | exact is_im rfl | exact is_gs rfl | exact is_lit rfl | exact is_ms rfl | exact is_sc rfl | exact rfl)) ?_
  refine s_q rfl rfl (q_call rfl rfl rfl rfl (pf_CallText_TEXTJOINA b c l hb hl h20 ha hla hne)) ?_
  refine s_q rfl rfl (q_mv (.inl rfl) (by first | exact (rfl : _ = D.tup [_, _]) | exact rfl)) ?_
  refine s_q rfl rfl (q_extract rfl rfl rfl) ?_
  refine s_q rfl rfl (q_extract rfl rfl rfl) ?_
  refine s_s rfl rfl (as_alloc0 (id := 5) rfl rfl (by exact (rfl : _ = [_, _, _, _, _]))) ?_
  refine s_u rfl rfl (as_st rfl rfl (by first | exact (rfl : _ = D.agg [_, _, _, _, _]) | exact rfl) rfl (by exact rfl) (by exact rfl) (by exact Nat.le_of_ble_eq_true rfl) (by exact (rfl : _ = [_, _, _, _, _]))) ?_
  refine s_q rfl rfl (q_mv (.inr rfl) (is_sc rfl)) ?_
  refine s_nil (n_n (w_seq (w_reg (s_q rfl rfl (q_mv (.inl rfl) (is_sc rfl)) ?_))))
  refine s_nil (n_n (w_ifT rfl (w_seq (w_reg (s_q rfl rfl (q_load rfl rfl (by exact (rfl : _ = some (D.agg [_, _, _, _, _])))) ?_)))))
  refine s_u rfl rfl (as_st rfl rfl (by first | exact (rfl : _ = D.agg [_, _, _, _, _]) | exact rfl) rfl (by exact rfl) (by exact rfl) (by exact Nat.le_of_ble_eq_true rfl) (by exact (rfl : _ = [_, _, _, _, _]))) ?_
  refine s_nil (n_n (w_ret (n_r ?_)))
  -- end 0
  refine r_r (ra_cell (by exact (rfl : _ = some (D.agg [_, _, _, _, _]))) ra_nil) (by first | exact (rfl : _ = D.agg [_, _, _, _, _]) | exact rfl) (by exact rfl) sub_no ?_
  rfl


-- pub-tallysheet/spec.Call
theorem pf_Call_TEXTJOINA (b : List UInt8) (c : Bool) (l : List (List UInt8)) (hb : b.length ≤ 1000) (hl : ∀ s ∈ l, s.length ≤ 1000) (h20 : l.length ≤ 20) (ha : asciiB b = true) (hla : l.all asciiB = true) (hne : ¬ l = []) : PF Tryz.prog G 28 [st [84, 69, 88, 84, 74, 79, 73, 78], lst (strV b :: boolV c :: l.map strV)] (joinV b c l).d := by
  refine PC.intro rfl Tryz.func28 rfl (Nat.le_of_ble_eq_true rfl) rfl ?_
  refine w_seq (w_reg (s_s rfl rfl (as_alloc0 (id := 0) rfl rfl (by exact (rfl : _ = [_, _, _, _, _]))) ?_))
  refine s_nil (n_n (w_seq (w_reg (s_q rfl rfl (q_mv (.inl rfl) (is_sc rfl)) ?_))))
  refine s_q rfl rfl (q_mv (.inl rfl) (by first | exact is_im rfl | exact is_gs rfl | exact is_lit rfl | exact is_ms rfl | exact is_sc rfl | exact rfl)) ?_
  refine s_q rfl rfl (q_mv (.inl rfl) (by first | exact is_im rfl | exact is_gs rfl | exact is_lit rfl | exact is_ms rfl | exact is_sc rfl | exact rfl)) ?_
  refine s_q rfl rfl (q_call rfl rfl rfl rfl (pf_CallOver_TEXTJOINA b c l hb hl h20 ha hla hne)) ?_
  refine s_u rfl rfl (as_st rfl rfl (by first | exact (rfl : _ = D.agg [_, _, _, _, _]) | exact rfl) rfl (by exact rfl) (by exact rfl) (by exact Nat.le_of_ble_eq_true rfl) (by exact (rfl : _ = [_, _, _, _, _]))) ?_
  refine s_nil (n_n (w_ret ?_))
  -- end 0
  refine r_r (ra_cell (by exact (rfl : _ = some (D.agg [_, _, _, _, _]))) ra_nil) (by first | exact (rfl : _ = D.agg [_, _, _, _, _]) | exact rfl) (by exact rfl) sub_no ?_
  rfl


-- pub-tallysheet/spec.fitsNumbers
theorem pf_fitsNumbers_TEXTJOINB (b : List UInt8) (c : Bool) (l : List (List UInt8)) (hb : b.length ≤ 1000) (hl : ∀ s ∈ l, s.length ≤ 1000) (h20 : l.length ≤ 20) (hbad : ¬ (¬ l = [] ∧ asciiB b = true ∧ l.all asciiB = true)) : PF Tryz.prog G 93 [st [84, 69, 88, 84, 74, 79, 73, 78], lst (strV b :: boolV c :: l.map strV)] (.tup [bl false, bl false]) := by
  have hnum := pf_every (G := G) (tjA b c l) (by rw [tjA_len]; omega) 176 numW (fun v hv => by
    rcases tjA_mem hv with (rfl | ⟨s, hs, rfl⟩) | rfl
    · exact pf_numericU ⟨2, 0, 0, b⟩ (by show b.length < _; omega)
    · exact pf_numericU ⟨2, 0, 0, s⟩ (by have := hl s hs; show s.length < _; omega)
    · exact pf_numericU ⟨3, if c then 1 else 0, 0, []⟩ (by simp))
  refine PC.intro rfl Tryz.func93 rfl (Nat.le_of_ble_eq_true rfl) rfl ?_
  refine w_seq (w_reg (s_q rfl rfl (q_mv (.inr rfl) (is_sc rfl)) ?_))
  refine s_q rfl rfl (q_mv (.inr rfl) (is_sc rfl)) ?_
  refine s_nil (n_n (w_seq (w_reg (s_q rfl rfl (q_mv (.inl rfl) (by first | exact is_im rfl | exact is_gs rfl | exact is_lit rfl | exact is_ms rfl | exact is_sc rfl | exact rfl)) ?_))))
  refine s_q rfl rfl (q_len rfl rfl rfl) ?_
  refine s_q rfl rfl (q_mv (.inr rfl) (is_sc rfl)) ?_
  refine s_nil (n_n (w_seq (w_reg (s_q rfl rfl (q_mv (.inl rfl) (by first | exact is_im rfl | exact is_gs rfl | exact is_lit rfl | exact is_ms rfl | exact is_sc rfl | exact rfl)) ?_))))
  refine s_q rfl rfl (q_call rfl rfl rfl rfl hnum) ?_
  refine s_q rfl rfl (q_mv (.inr rfl) (is_sc rfl)) ?_
  refine s_nil (n_n (w_seq (w_seq (w_reg (s_q rfl rfl (q_mv (.inl rfl) (is_sc rfl)) ?_)))))
  refine s_nil (n_n (w_block (w_seq (w_seq (w_reg (s_q rfl rfl (q_eqs rfl rfl rfl) ?_))))))
  refine s_q rfl rfl (q_mv (.inr rfl) (is_sc rfl)) ?_
  refine s_nil (n_n (w_ifF rfl (w_seq (w_reg (s_q rfl rfl (q_eqs rfl rfl rfl) ?_)))))
  refine s_q rfl rfl (q_mv (.inr rfl) (is_sc rfl)) ?_
  refine s_nil (n_n (w_ifF rfl (w_seq (w_reg (s_q rfl rfl (q_eqs rfl rfl rfl) ?_)))))
  refine s_q rfl rfl (q_mv (.inr rfl) (is_sc rfl)) ?_
  refine s_nil (n_n (w_ifF rfl (w_seq (w_reg (s_q rfl rfl (q_eqs rfl rfl rfl) ?_)))))
  refine s_q rfl rfl (q_mv (.inr rfl) (is_sc rfl)) ?_
  refine s_nil (n_n (w_ifF rfl (w_reg (s_q rfl rfl (q_eqs rfl rfl rfl) ?_))))
  refine s_q rfl rfl (q_mv (.inr rfl) (is_sc rfl)) ?_
  refine s_nil (n_n (w_ifF rfl (w_seq (w_reg (s_q rfl rfl (q_eqs rfl rfl rfl) ?_)))))
  refine s_q rfl rfl (q_mv (.inr rfl) (is_sc rfl)) ?_
  refine s_nil (n_n (w_ifF rfl (w_seq (w_seq (w_reg (s_q rfl rfl (q_eqs rfl rfl rfl) ?_))))))
  refine s_q rfl rfl (q_mv (.inr rfl) (is_sc rfl)) ?_
  refine s_nil (n_n (w_ifF rfl (w_reg (s_q rfl rfl (q_eqs rfl rfl rfl) ?_))))
  refine s_q rfl rfl (q_mv (.inr rfl) (is_sc rfl)) ?_
  refine s_nil (n_n (w_ifF rfl (w_seq (w_seq (w_reg (s_q rfl rfl (q_eqs rfl rfl rfl) ?_))))))
  refine s_q rfl rfl (q_mv (.inr rfl) (is_sc rfl)) ?_
  refine s_nil (n_n (w_ifF rfl (w_reg (s_q rfl rfl (q_eqs rfl rfl rfl) ?_))))
  refine s_q rfl rfl (q_mv (.inr rfl) (is_sc rfl)) ?_
  refine s_nil (n_n (w_ifF rfl (w_seq (w_seq (w_reg (s_q rfl rfl (q_eqs rfl rfl rfl) ?_))))))
  refine s_q rfl rfl (q_mv (.inr rfl) (is_sc rfl)) ?_
  refine s_nil (n_n (w_ifF rfl (w_reg (s_q rfl rfl (q_eqs rfl rfl rfl) ?_))))
  refine s_q rfl rfl (q_mv (.inr rfl) (is_sc rfl)) ?_
  refine s_nil (n_n (w_ifF rfl (w_seq (w_seq (w_reg (s_q rfl rfl (q_eqs rfl rfl rfl) ?_))))))
  refine s_q rfl rfl (q_mv (.inr rfl) (is_sc rfl)) ?_
  refine s_nil (n_n (w_ifF rfl (w_seq (w_reg (s_q rfl rfl (q_eqs rfl rfl rfl) ?_)))))
  refine s_q rfl rfl (q_mv (.inr rfl) (is_sc rfl)) ?_
  refine s_nil (n_n (w_ifF rfl (w_reg (s_q rfl rfl (q_eqs rfl rfl rfl) ?_))))
  refine s_q rfl rfl (q_mv (.inr rfl) (is_sc rfl)) ?_
  refine s_nil (n_n (w_ifF rfl (w_seq (w_seq (w_reg (s_q rfl rfl (q_eqs rfl rfl rfl) ?_))))))
  refine s_q rfl rfl (q_mv (.inr rfl) (is_sc rfl)) ?_
  refine s_nil (n_n (w_ifF rfl (w_reg (s_q rfl rfl (q_eqs rfl rfl rfl) ?_))))
  refine s_q rfl rfl (q_mv (.inr rfl) (is_sc rfl)) ?_
  refine s_nil (n_n (w_ifF rfl (w_seq (w_reg (s_q rfl rfl (q_eqs rfl rfl rfl) ?_)))))
  refine s_q rfl rfl (q_mv (.inr rfl) (is_sc rfl)) ?_
  refine s_nil (n_n (w_ifF rfl (w_seq (w_reg (s_q rfl rfl (q_eqs rfl rfl rfl) ?_)))))
  refine s_q rfl rfl (q_mv (.inr rfl) (is_sc rfl)) ?_
  refine s_nil (n_n (w_ifF rfl (w_seq (w_seq (w_reg (s_q rfl rfl (q_eqs rfl rfl rfl) ?_))))))
  refine s_q rfl rfl (q_mv (.inr rfl) (is_sc rfl)) ?_
  refine s_nil (n_n (w_ifF rfl (w_seq (w_reg (s_q rfl rfl (q_eqs rfl rfl rfl) ?_)))))
  refine s_q rfl rfl (q_mv (.inr rfl) (is_sc rfl)) ?_
  refine s_nil (n_n (w_ifF rfl (w_reg (s_q rfl rfl (q_eqs rfl rfl rfl) ?_))))
  refine s_q rfl rfl (q_mv (.inr rfl) (is_sc rfl)) ?_
  refine s_nil (n_n (w_ifF rfl (w_skip (b_n (n_n (w_seq (w_reg (s_q rfl rfl (q_mv (.inr rfl) (is_sc rfl)) ?_))))))))
  refine s_q rfl rfl (q_mv (.inr rfl) (is_sc rfl)) ?_
  refine s_nil (n_n (w_ret ?_))
  -- end 0
  refine r_r (ra_tmp (is_sc rfl) (ra_tmp (is_sc rfl) ra_nil)) (by exact (rfl : _ = D.tup [_, _])) (by exact rfl) sub_no ?_
  rfl


-- pub-tallysheet/spec.fitsTexts
theorem pf_fitsTexts_TEXTJOINB (b : List UInt8) (c : Bool) (l : List (List UInt8)) (hb : b.length ≤ 1000) (hl : ∀ s ∈ l, s.length ≤ 1000) (h20 : l.length ≤ 20) (hbad : ¬ (¬ l = [] ∧ asciiB b = true ∧ l.all asciiB = true)) : PF Tryz.prog G 94 [st [84, 69, 88, 84, 74, 79, 73, 78], lst (strV b :: boolV c :: l.map strV)] (.tup [bl false, bl true]) := by
  have hcut : (((strV b :: boolV c :: l.map strV).flatMap V.c).take ((strV b :: boolV c :: l.map strV).length * 5)).drop (2 * 5) = (l.map strV).flatMap V.c := by rw [List.take_of_length_le (by rw [len_lst]; exact Nat.le_refl _)]; rfl
  have hcl : PF Tryz.prog G 175 [lst (l.map strV), .fn 186 [] []] (bl (l.all asciiB)) := by
    have := pf_every (G := G) (l.map strV) (by simp only [List.length_map]; omega) 186 (fun v => asciiB v.text) (fun v hv => by
      obtain ⟨s, hs, rfl⟩ := List.mem_map.1 hv
      exact pf_tjClosure s (by have := hl s hs; omega))
    rw [List.all_map] at this; exact this
  have htb := pf_textualT (G := G) b (by omega)
  refine PC.intro rfl Tryz.func94 rfl (Nat.le_of_ble_eq_true rfl) rfl ?_
  refine w_seq (w_reg (s_q rfl rfl (q_mv (.inr rfl) (is_sc rfl)) ?_))
  refine s_q rfl rfl (q_mv (.inr rfl) (is_sc rfl)) ?_
  refine s_nil (n_n (w_seq (w_reg (s_q rfl rfl (q_mv (.inl rfl) (by first | exact is_im rfl | exact is_gs rfl | exact is_lit rfl | exact is_ms rfl | exact is_sc rfl | exact rfl)) ?_))))
  refine s_q rfl rfl (q_len rfl rfl rfl) ?_
  refine s_q rfl rfl (q_mv (.inr rfl) (is_sc rfl)) ?_
  refine s_nil (n_n (w_seq (w_seq (w_reg (s_q rfl rfl (q_mv (.inl rfl) (is_sc rfl)) ?_)))))
  refine s_nil (n_n (w_block (w_seq (w_seq (w_reg (s_q rfl rfl (q_eqs rfl rfl rfl) ?_))))))
  refine s_q rfl rfl (q_mv (.inr rfl) (is_sc rfl)) ?_
  refine s_nil (n_n (w_ifF rfl (w_seq (w_reg (s_q rfl rfl (q_eqs rfl rfl rfl) ?_)))))
  refine s_q rfl rfl (q_mv (.inr rfl) (is_sc rfl)) ?_
  refine s_nil (n_n (w_ifF rfl (w_seq (w_reg (s_q rfl rfl (q_eqs rfl rfl rfl) ?_)))))
  refine s_q rfl rfl (q_mv (.inr rfl) (is_sc rfl)) ?_
  refine s_nil (n_n (w_ifF rfl (w_seq (w_reg (s_q rfl rfl (q_eqs rfl rfl rfl) ?_)))))
  refine s_q rfl rfl (q_mv (.inr rfl) (is_sc rfl)) ?_
  refine s_nil (n_n (w_ifF rfl (w_seq (w_reg (s_q rfl rfl (q_eqs rfl rfl rfl) ?_)))))
  refine s_q rfl rfl (q_mv (.inr rfl) (is_sc rfl)) ?_
  refine s_nil (n_n (w_ifF rfl (w_reg (s_q rfl rfl (q_eqs rfl rfl rfl) ?_))))
  refine s_q rfl rfl (q_mv (.inr rfl) (is_sc rfl)) ?_
  refine s_nil (n_n (w_ifF rfl (w_seq (w_reg (s_q rfl rfl (q_eqs rfl rfl rfl) ?_)))))
  refine s_q rfl rfl (q_mv (.inr rfl) (is_sc rfl)) ?_
  refine s_nil (n_n (w_ifF rfl (w_seq (w_seq (w_reg (s_q rfl rfl (q_eqs rfl rfl rfl) ?_))))))
  refine s_q rfl rfl (q_mv (.inr rfl) (is_sc rfl)) ?_
  refine s_nil (n_n (w_ifF rfl (w_reg (s_q rfl rfl (q_eqs rfl rfl rfl) ?_))))
  refine s_q rfl rfl (q_mv (.inr rfl) (is_sc rfl)) ?_
  refine s_nil (n_n (w_ifF rfl (w_seq (w_reg (s_q rfl rfl (q_eqs rfl rfl rfl) ?_)))))
  refine s_q rfl rfl (q_mv (.inr rfl) (is_sc rfl)) ?_
  refine s_nil (n_n (w_ifF rfl (w_seq (w_reg (s_q rfl rfl (q_eqs rfl rfl rfl) ?_)))))
  refine s_q rfl rfl (q_mv (.inr rfl) (is_sc rfl)) ?_
  refine s_nil (n_n (w_ifF rfl (w_seq (w_reg (s_q rfl rfl (q_eqs rfl rfl rfl) ?_)))))
  refine s_q rfl rfl (q_mv (.inr rfl) (is_sc rfl)) ?_
  refine s_nil (n_n (w_ifF rfl (w_seq (w_reg (s_q rfl rfl (q_eqs rfl rfl rfl) ?_)))))
  refine s_q rfl rfl (q_mv (.inr rfl) (is_sc rfl)) ?_
  refine s_nil (n_n (w_ifF rfl (w_seq (w_reg (s_q rfl rfl (q_eqs rfl rfl rfl) ?_)))))
  refine s_q rfl rfl (q_mv (.inr rfl) (is_sc rfl)) ?_
  refine s_nil (n_n (w_ifF rfl (w_seq (w_seq (w_reg (s_q rfl rfl (q_eqs rfl rfl rfl) ?_))))))
  refine s_q rfl rfl (q_mv (.inr rfl) (is_sc rfl)) ?_
  refine s_nil (n_n (w_ifF rfl (w_reg (s_q rfl rfl (q_eqs rfl rfl rfl) ?_))))
  refine s_q rfl rfl (q_mv (.inr rfl) (is_sc rfl)) ?_
  refine s_nil (n_n (w_ifF rfl (w_seq (w_reg (s_q rfl rfl (q_eqs rfl rfl rfl) ?_)))))
  refine s_q rfl rfl (q_mv (.inr rfl) (is_sc rfl)) ?_
  refine s_nil (n_n (w_ifT rfl (w_seq (w_reg (s_q rfl rfl (q_mv (.inl rfl) (is_sc rfl)) ?_)))))
  refine s_q rfl rfl (q_gtr rfl rfl rfl) ?_
  refine s_q rfl rfl (q_mv (.inl rfl) (is_sc rfl)) ?_
  refine s_split 207 (is_scb rfl) (fun h206 => ?_) (fun h206 => ?_)
  · refine s_q rfl rfl (q_mv (.inl rfl) (is_sc rfl)) ?_
    refine s_q rfl rfl (q_as (bl_yes (show (((l.map strV).length + 1 + 1 : Nat) : Int) ≤ 100 by simp only [List.length_map]; omega)) (q_leq rfl rfl rfl)) ?_
    refine s_q rfl rfl (q_pickT rfl rfl (is_sc rfl)) ?_
    refine s_q rfl rfl (q_mv (.inl rfl) (is_sc rfl)) ?_
    refine s_q rfl rfl (q_mv (.inl rfl) (by first | exact is_im rfl | exact is_gs rfl | exact is_lit rfl | exact is_ms rfl | exact is_sc rfl | exact rfl)) ?_
    refine s_q rfl rfl (q_index rfl rfl rfl rfl (Int.le_refl _) (by show (0 : Int) < (((l.map strV).length + 1 + 1 : Nat) : Int); omega)) ?_
    refine s_q rfl rfl (q_load rfl rfl (by exact (rfl : _ = some (D.agg [_, _, _, _, _])))) ?_
    refine s_q rfl rfl (q_call rfl rfl rfl rfl htb) ?_
    refine s_q rfl rfl (q_pickT rfl rfl (is_sc rfl)) ?_
    refine s_q rfl rfl (q_mv (.inl rfl) (is_sc rfl)) ?_
    refine s_split 217 (is_scb rfl) (fun h217 => ?_) (fun h217 => ?_)
    · refine s_q rfl rfl (q_mv (.inl rfl) (by first | exact is_im rfl | exact is_gs rfl | exact is_lit rfl | exact is_ms rfl | exact is_sc rfl | exact rfl)) ?_
      refine s_q rfl rfl (q_index rfl rfl rfl rfl (by decide) (by show (1 : Int) < (((l.map strV).length + 1 + 1 : Nat) : Int); omega)) ?_
      refine s_q rfl rfl (q_field rfl rfl (by exact rfl)) ?_
      refine s_q rfl rfl (q_load rfl rfl (by exact (rfl : _ = some (D.sc _)))) ?_
      refine s_q rfl rfl (q_eql rfl rfl rfl) ?_
      refine s_q rfl rfl (q_pickT rfl rfl (is_sc rfl)) ?_
      refine s_q rfl rfl (q_mv (.inl rfl) (is_sc rfl)) ?_
      refine s_q rfl rfl (q_mv (.inl rfl) (by first | exact is_im rfl | exact is_gs rfl | exact is_lit rfl | exact is_ms rfl | exact is_sc rfl | exact rfl)) ?_
      refine s_q rfl rfl (q_cutIm (a := 2) (b := (strV b :: boolV c :: l.map strV).length) (k := (l.map strV).length) rfl rfl rfl ⟨_, _, rfl, by decide, rfl⟩ rfl (by show 2 ≤ (l.map strV).length + 1 + 1; omega) (Nat.le_refl _) hcut rfl) ?_
      refine s_q rfl rfl (q_call rfl rfl rfl rfl hcl) ?_
      refine s_q rfl rfl (q_pickT rfl rfl (is_sc rfl)) ?_
      refine s_q rfl rfl (q_mv (.inr rfl) (is_sc rfl)) ?_
      refine s_q rfl rfl (q_mv (.inr rfl) (is_sc rfl)) ?_
      refine s_nil (n_n (w_ret (b_r (n_r ?_))))
      -- end 0
      refine r_r (ra_tmp (is_sc rfl) (ra_tmp (is_sc rfl) ra_nil)) (by exact (rfl : _ = D.tup [_, _])) (by exact rfl) sub_no ?_
      first | rfl | (rw [show l.all asciiB = false by
          cases h : l.all asciiB with
          | false => rfl
          | true => exact absurd ⟨by rintro rfl; simp at h206, h217, h⟩ hbad] <;> rfl)
    · refine s_off rfl rfl ?_
      refine s_off rfl rfl ?_
      refine s_off rfl rfl ?_
      refine s_off rfl rfl ?_
      refine s_off rfl rfl ?_
      refine s_q rfl rfl (q_pickF rfl rfl (is_sc rfl)) ?_
      refine s_q rfl rfl (q_mv (.inl rfl) (is_sc rfl)) ?_
      refine s_off rfl rfl ?_
      refine s_off rfl rfl ?_
      refine s_off rfl rfl ?_
      refine s_q rfl rfl (q_pickF rfl rfl (is_sc rfl)) ?_
      refine s_q rfl rfl (q_mv (.inr rfl) (is_sc rfl)) ?_
      refine s_q rfl rfl (q_mv (.inr rfl) (is_sc rfl)) ?_
      refine s_nil (n_n (w_ret (b_r (n_r ?_))))
      -- end 1
      refine r_r (ra_tmp (is_sc rfl) (ra_tmp (is_sc rfl) ra_nil)) (by exact (rfl : _ = D.tup [_, _])) (by exact rfl) sub_no ?_
      first | rfl | (rw [show l.all asciiB = false by
          cases h : l.all asciiB with
          | false => rfl
          | true => exact absurd ⟨by rintro rfl; simp at h206, h217, h⟩ hbad] <;> rfl)
  · refine s_off rfl rfl ?_
    refine s_off rfl rfl ?_
    refine s_q rfl rfl (q_pickF rfl rfl (is_sc rfl)) ?_
    refine s_q rfl rfl (q_mv (.inl rfl) (is_sc rfl)) ?_
    refine s_off rfl rfl ?_
    refine s_off rfl rfl ?_
    refine s_off rfl rfl ?_
    refine s_off rfl rfl ?_
    refine s_q rfl rfl (q_pickF rfl rfl (is_sc rfl)) ?_
    refine s_q rfl rfl (q_mv (.inl rfl) (is_sc rfl)) ?_
    refine s_off rfl rfl ?_
    refine s_off rfl rfl ?_
    refine s_off rfl rfl ?_
    refine s_off rfl rfl ?_
    refine s_off rfl rfl ?_
    refine s_q rfl rfl (q_pickF rfl rfl (is_sc rfl)) ?_
    refine s_q rfl rfl (q_mv (.inl rfl) (is_sc rfl)) ?_
    refine s_off rfl rfl ?_
    refine s_off rfl rfl ?_
    refine s_off rfl rfl ?_
    refine s_q rfl rfl (q_pickF rfl rfl (is_sc rfl)) ?_
    refine s_q rfl rfl (q_mv (.inr rfl) (is_sc rfl)) ?_
    refine s_q rfl rfl (q_mv (.inr rfl) (is_sc rfl)) ?_
    refine s_nil (n_n (w_ret (b_r (n_r ?_))))
    -- end 2
    refine r_r (ra_tmp (is_sc rfl) (ra_tmp (is_sc rfl) ra_nil)) (by exact (rfl : _ = D.tup [_, _])) (by exact rfl) sub_no ?_
    first | rfl | (rw [show l.all asciiB = false by
        cases h : l.all asciiB with
        | false => rfl
        | true => exact absurd ⟨by rintro rfl; simp at h206, h217, h⟩ hbad] <;> rfl)


-- pub-tallysheet/spec.Fits
theorem pf_Fits_TEXTJOINB (b : List UInt8) (c : Bool) (l : List (List UInt8)) (hb : b.length ≤ 1000) (hl : ∀ s ∈ l, s.length ≤ 1000) (h20 : l.length ≤ 20) (hbad : ¬ (¬ l = [] ∧ asciiB b = true ∧ l.all asciiB = true)) : PF Tryz.prog G 59 [st [84, 69, 88, 84, 74, 79, 73, 78], lst (strV b :: boolV c :: l.map strV)] (bl false) := by
  refine PC.intro rfl Tryz.func59 rfl (Nat.le_of_ble_eq_true rfl) rfl ?_
  refine w_seq (w_reg (s_q rfl rfl (q_mv (.inr rfl) (is_sc rfl)) ?_))
  refine s_nil (n_n (w_seq (w_seq (w_reg (s_q rfl rfl (q_mv (.inl rfl) (is_sc rfl)) ?_)))))
  refine s_q rfl rfl (q_mv (.inl rfl) (by first | exact is_im rfl | exact is_gs rfl | exact is_lit rfl | exact is_ms rfl | exact is_sc rfl | exact rfl)) ?_
  refine s_q rfl rfl (q_call rfl rfl rfl rfl (pf_fitsNumbers_TEXTJOINB b c l hb hl h20 hbad)) ?_
  refine s_q rfl rfl (q_mv (.inl rfl) (by first | exact (rfl : _ = D.tup [_, _]) | exact rfl)) ?_
  refine s_q rfl rfl (q_extract rfl rfl rfl) ?_
  refine s_q rfl rfl (q_extract rfl rfl rfl) ?_
  refine s_q rfl rfl (q_mv (.inr rfl) (is_sc rfl)) ?_
  refine s_q rfl rfl (q_mv (.inr rfl) (is_sc rfl)) ?_
  refine s_nil (n_n (w_seq (w_reg (s_q rfl rfl (q_mv (.inl rfl) (is_sc rfl)) ?_))))
  refine s_nil (n_n (w_ifF rfl (w_skip (n_n (w_seq (w_seq (w_reg (s_q rfl rfl (q_mv (.inl rfl) (is_sc rfl)) ?_))))))))
  refine s_q rfl rfl (q_mv (.inl rfl) (by first | exact is_im rfl | exact is_gs rfl | exact is_lit rfl | exact is_ms rfl | exact is_sc rfl | exact rfl)) ?_
  refine s_q rfl rfl (q_call rfl rfl rfl rfl (pf_fitsTexts_TEXTJOINB b c l hb hl h20 hbad)) ?_
  refine s_q rfl rfl (q_mv (.inl rfl) (by first | exact (rfl : _ = D.tup [_, _]) | exact rfl)) ?_
  refine s_q rfl rfl (q_extract rfl rfl rfl) ?_
  refine s_q rfl rfl (q_extract rfl rfl rfl) ?_
  refine s_q rfl rfl (q_mv (.inr rfl) (is_sc rfl)) ?_
  refine s_q rfl rfl (q_mv (.inr rfl) (is_sc rfl)) ?_
  refine s_nil (n_n (w_seq (w_reg (s_q rfl rfl (q_mv (.inl rfl) (is_sc rfl)) ?_))))
  refine s_nil (n_n (w_ifT rfl (w_seq (w_reg (s_q rfl rfl (q_mv (.inl rfl) (is_sc rfl)) ?_)))))
  refine s_q rfl rfl (q_mv (.inr rfl) (is_sc rfl)) ?_
  refine s_nil (n_n (w_ret (n_r ?_)))
  -- end 0
  refine r_r (ra_tmp (is_sc rfl) ra_nil) (by exact (is_sc rfl)) (by exact rfl) sub_no ?_
  rfl


-- pub-tallysheet/spec.CallOver
theorem pf_CallOver_TEXTJOINB (b : List UInt8) (c : Bool) (l : List (List UInt8)) (hb : b.length ≤ 1000) (hl : ∀ s ∈ l, s.length ≤ 1000) (h20 : l.length ≤ 20) (hbad : ¬ (¬ l = [] ∧ asciiB b = true ∧ l.all asciiB = true)) : PF Tryz.prog G 47 [st [84, 69, 88, 84, 74, 79, 73, 78], lst (strV b :: boolV c :: l.map strV), lst (strV b :: boolV c :: l.map strV)] (doubt).d := by
  refine PC.intro rfl Tryz.func47 rfl (Nat.le_of_ble_eq_true rfl) rfl ?_
  refine w_seq (w_reg (s_s rfl rfl (as_alloc0 (id := 0) rfl rfl (by exact (rfl : _ = [_, _, _, _, _]))) ?_))
  refine s_nil (n_n (w_seq (w_seq (w_reg (s_q rfl rfl (q_mv (.inl rfl) (is_sc rfl)) ?_)))))
  refine s_q rfl rfl (q_mv (.inl rfl) (by first | exact is_im rfl | exact is_gs rfl | exact is_lit rfl | exact is_ms rfl | exact is_sc rfl | exact rfl)) ?_
  refine s_q rfl rfl (q_call rfl rfl rfl rfl (pf_Fits_TEXTJOINB b c l hb hl h20 hbad)) ?_
  refine s_q rfl rfl (q_not rfl rfl) ?_
  refine s_nil (n_n (w_ifT rfl (w_seq (w_reg (s_q rfl rfl (q_call rfl rfl rfl rfl pf_doubt) ?_)))))
  refine s_u rfl rfl (as_st rfl rfl (by first | exact (rfl : _ = D.agg [_, _, _, _, _]) | exact rfl) rfl (by exact rfl) (by exact rfl) (by exact Nat.le_of_ble_eq_true rfl) (by exact (rfl : _ = [_, _, _, _, _]))) ?_
  refine s_nil (n_n (w_ret (n_r ?_)))
  -- end 0
  refine r_r (ra_cell (by exact (rfl : _ = some (D.agg [_, _, _, _, _]))) ra_nil) (by first | exact (rfl : _ = D.agg [_, _, _, _, _]) | exact rfl) (by exact rfl) sub_no ?_
  rfl


-- pub-tallysheet/spec.Call
theorem pf_Call_TEXTJOINB (b : List UInt8) (c : Bool) (l : List (List UInt8)) (hb : b.length ≤ 1000) (hl : ∀ s ∈ l, s.length ≤ 1000) (h20 : l.length ≤ 20) (hbad : ¬ (¬ l = [] ∧ asciiB b = true ∧ l.all asciiB = true)) : PF Tryz.prog G 28 [st [84, 69, 88, 84, 74, 79, 73, 78], lst (strV b :: boolV c :: l.map strV)] (doubt).d := by
  refine PC.intro rfl Tryz.func28 rfl (Nat.le_of_ble_eq_true rfl) rfl ?_
  refine w_seq (w_reg (s_s rfl rfl (as_alloc0 (id := 0) rfl rfl (by exact (rfl : _ = [_, _, _, _, _]))) ?_))
  refine s_nil (n_n (w_seq (w_reg (s_q rfl rfl (q_mv (.inl rfl) (is_sc rfl)) ?_))))
  refine s_q rfl rfl (q_mv (.inl rfl) (by first | exact is_im rfl | exact is_gs rfl | exact is_lit rfl | exact is_ms rfl | exact is_sc rfl | exact rfl)) ?_
  refine s_q rfl rfl (q_mv (.inl rfl) (by first | exact is_im rfl | exact is_gs rfl | exact is_lit rfl | exact is_ms rfl | exact is_sc rfl | exact rfl)) ?_
  refine s_q rfl rfl (q_call rfl rfl rfl rfl (pf_CallOver_TEXTJOINB b c l hb hl h20 hbad)) ?_
  refine s_u rfl rfl (as_st rfl rfl (by first | exact (rfl : _ = D.agg [_, _, _, _, _]) | exact rfl) rfl (by exact rfl) (by exact rfl) (by exact Nat.le_of_ble_eq_true rfl) (by exact (rfl : _ = [_, _, _, _, _]))) ?_
  refine s_nil (n_n (w_ret ?_))
  -- end 0
  refine r_r (ra_cell (by exact (rfl : _ = some (D.agg [_, _, _, _, _]))) ra_nil) (by first | exact (rfl : _ = D.agg [_, _, _, _, _]) | exact rfl) (by exact rfl) sub_no ?_
  rfl

end Go.Proofs.YtpjckdhgefbonaaGreatDoor.Zz
