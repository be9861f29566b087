/- Walks of the functions, printed by program: each theorem says what one function answers. -/
import Derived.Test.YtjobmjfdlkjaoaaGreatDoorZSpBITAND
import Derived.Test.YtjobmjfdlkjaoaaGreatDoorZPrBITAND
namespace Go.Proofs.YtjobmjfdlkjaoaaGreatDoor.Zz
open Go.Abs
set_option maxRecDepth 100000
set_option linter.unusedVariables false
set_option linter.unusedSimpArgs false
set_option maxHeartbeats 4000000
variable {G : Nat → D}

-- pub-tallysheet/laws.FnBitand
theorem pf_FnBitandQ1 (n k : Int) (hn : (99999999999 < n ∨ n < -99999999999)) (hk : ¬ (99999999999 < k ∨ k < -99999999999)) : PF Tryz.prog G 6 [i64 n, i64 k] (bl true) := by
  have hp0 : PF Tryz.prog G 14 [i64 n] doubt.d := by
    have := pf_whole (G := G) n
    rw [intV_doubt hn] at this; exact this
  have hp1 : PF Tryz.prog G 14 [i64 k] (num k 1).d := by
    have := pf_whole (G := G) k
    rw [intV_num hk] at this; exact this
  have hag := pf_agreesT (G := G) 15 [66, 73, 84, 65, 78, 68] [⟨6, 0, 0, []⟩, ⟨1, k, 1, []⟩] (by simp) (by simp) doubt (pf_Call_BITANDQ1 k hk) rfl
  refine PC.intro rfl Tryz.func6 rfl (Nat.le_of_ble_eq_true rfl) rfl ?_
  refine w_seq (w_reg (s_q rfl rfl (q_mv (.inr rfl) (is_sc rfl)) ?_))
  refine s_nil (n_n (w_seq (w_reg (s_q rfl rfl (q_mv (.inl rfl) (is_sc rfl)) ?_))))
  refine s_q rfl rfl (q_call rfl rfl rfl rfl hp0) ?_
  refine s_q rfl rfl (q_mv (.inl rfl) (is_sc rfl)) ?_
  refine s_q rfl rfl (q_call rfl rfl rfl rfl hp1) ?_
  refine s_q rfl rfl (q_bs rfl (pt_cons (by first | exact (rfl : _ = D.agg [_, _, _, _, _]) | exact rfl) (pt_cons (by first | exact (rfl : _ = D.agg [_, _, _, _, _]) | exact rfl) pt_nil)) (by decide) (by decide) (by exact (rfl : _ = some [_, _, _, _, _, _, _, _, _, _])) (by exact (rfl : _ = [_, _, _, _, _, _, _, _, _, _])) (by exact rfl) (by exact rfl)) ?_
  refine s_q rfl rfl (q_call rfl rfl rfl rfl hag) ?_
  refine s_q rfl rfl (q_mv (.inr rfl) (is_sc rfl)) ?_
  refine s_nil (n_n (w_ret ?_))
  -- end 0
  refine r_r (ra_tmp (is_sc rfl) ra_nil) (by exact (is_sc rfl)) (by exact rfl) sub_no ?_
  rfl


-- pub-tallysheet/laws.FnBitand
theorem pf_FnBitandQ2 (n k : Int) (hn : ¬ (99999999999 < n ∨ n < -99999999999)) (hk : (99999999999 < k ∨ k < -99999999999)) : PF Tryz.prog G 6 [i64 n, i64 k] (bl true) := by
  have hp0 : PF Tryz.prog G 14 [i64 n] (num n 1).d := by
    have := pf_whole (G := G) n
    rw [intV_num hn] at this; exact this
  have hp1 : PF Tryz.prog G 14 [i64 k] doubt.d := by
    have := pf_whole (G := G) k
    rw [intV_doubt hk] at this; exact this
  have hag := pf_agreesT (G := G) 15 [66, 73, 84, 65, 78, 68] [⟨1, n, 1, []⟩, ⟨6, 0, 0, []⟩] (by simp) (by simp) doubt (pf_Call_BITANDQ2 n hn) rfl
  refine PC.intro rfl Tryz.func6 rfl (Nat.le_of_ble_eq_true rfl) rfl ?_
  refine w_seq (w_reg (s_q rfl rfl (q_mv (.inr rfl) (is_sc rfl)) ?_))
  refine s_nil (n_n (w_seq (w_reg (s_q rfl rfl (q_mv (.inl rfl) (is_sc rfl)) ?_))))
  refine s_q rfl rfl (q_call rfl rfl rfl rfl hp0) ?_
  refine s_q rfl rfl (q_mv (.inl rfl) (is_sc rfl)) ?_
  refine s_q rfl rfl (q_call rfl rfl rfl rfl hp1) ?_
  refine s_q rfl rfl (q_bs rfl (pt_cons (by first | exact (rfl : _ = D.agg [_, _, _, _, _]) | exact rfl) (pt_cons (by first | exact (rfl : _ = D.agg [_, _, _, _, _]) | exact rfl) pt_nil)) (by decide) (by decide) (by exact (rfl : _ = some [_, _, _, _, _, _, _, _, _, _])) (by exact (rfl : _ = [_, _, _, _, _, _, _, _, _, _])) (by exact rfl) (by exact rfl)) ?_
  refine s_q rfl rfl (q_call rfl rfl rfl rfl hag) ?_
  refine s_q rfl rfl (q_mv (.inr rfl) (is_sc rfl)) ?_
  refine s_nil (n_n (w_ret ?_))
  -- end 0
  refine r_r (ra_tmp (is_sc rfl) ra_nil) (by exact (is_sc rfl)) (by exact rfl) sub_no ?_
  rfl


-- pub-tallysheet/laws.FnBitand
theorem pf_FnBitandQ3 (n k : Int) (hn : (99999999999 < n ∨ n < -99999999999)) (hk : (99999999999 < k ∨ k < -99999999999)) : PF Tryz.prog G 6 [i64 n, i64 k] (bl true) := by
  have hp0 : PF Tryz.prog G 14 [i64 n] doubt.d := by
    have := pf_whole (G := G) n
    rw [intV_doubt hn] at this; exact this
  have hp1 : PF Tryz.prog G 14 [i64 k] doubt.d := by
    have := pf_whole (G := G) k
    rw [intV_doubt hk] at this; exact this
  have hag := pf_agreesT (G := G) 15 [66, 73, 84, 65, 78, 68] [⟨6, 0, 0, []⟩, ⟨6, 0, 0, []⟩] (by simp) (by simp) doubt (pf_Call_BITANDQ3) rfl
  refine PC.intro rfl Tryz.func6 rfl (Nat.le_of_ble_eq_true rfl) rfl ?_
  refine w_seq (w_reg (s_q rfl rfl (q_mv (.inr rfl) (is_sc rfl)) ?_))
  refine s_nil (n_n (w_seq (w_reg (s_q rfl rfl (q_mv (.inl rfl) (is_sc rfl)) ?_))))
  refine s_q rfl rfl (q_call rfl rfl rfl rfl hp0) ?_
  refine s_q rfl rfl (q_mv (.inl rfl) (is_sc rfl)) ?_
  refine s_q rfl rfl (q_call rfl rfl rfl rfl hp1) ?_
  refine s_q rfl rfl (q_bs rfl (pt_cons (by first | exact (rfl : _ = D.agg [_, _, _, _, _]) | exact rfl) (pt_cons (by first | exact (rfl : _ = D.agg [_, _, _, _, _]) | exact rfl) pt_nil)) (by decide) (by decide) (by exact (rfl : _ = some [_, _, _, _, _, _, _, _, _, _])) (by exact (rfl : _ = [_, _, _, _, _, _, _, _, _, _])) (by exact rfl) (by exact rfl)) ?_
  refine s_q rfl rfl (q_call rfl rfl rfl rfl hag) ?_
  refine s_q rfl rfl (q_mv (.inr rfl) (is_sc rfl)) ?_
  refine s_nil (n_n (w_ret ?_))
  -- end 0
  refine r_r (ra_tmp (is_sc rfl) ra_nil) (by exact (is_sc rfl)) (by exact rfl) sub_no ?_
  rfl


-- pub-tallysheet/laws.FnBitand
theorem pf_FnBitandE (n k : Int) (hn : ¬ (99999999999 < n ∨ n < -99999999999)) (hk : ¬ (99999999999 < k ∨ k < -99999999999)) (hb : n < 0 ∨ k < 0) : PF Tryz.prog G 6 [i64 n, i64 k] (bl true) := by
  have hp0 : PF Tryz.prog G 14 [i64 n] (num n 1).d := by
    have := pf_whole (G := G) n
    rw [intV_num hn] at this; exact this
  have hp1 : PF Tryz.prog G 14 [i64 k] (num k 1).d := by
    have := pf_whole (G := G) k
    rw [intV_num hk] at this; exact this
  obtain ⟨hq, hx, hqb⟩ := qV_whole hn
  obtain ⟨hq', hx', hqb'⟩ := qV_whole hk
  have ha := pf_all (G := G) [num n 1, num k 1] (by simp) (fun v => iNum (qV v)) (fun v hv => by
    simp only [List.mem_cons, List.mem_nil_iff, or_false] at hv
    rcases hv with rfl | rfl
    · exact pf_ofN n 1 _ hq
    · exact pf_ofN k 1 _ hq')
  have hi := impl_BITANDE (G := G) hqb hqb' hx hx' hb (by omega)
  have hsm := pf_same (G := G) 4 4 0 0 [35, 78, 85, 77, 33] [35, 78, 85, 77, 33] (errV [35, 78, 85, 77, 33]) (pf_ofE [35, 78, 85, 77, 33])
  rw [sameE] at hsm
  have hag := pf_agreesS (G := G) 15 [66, 73, 84, 65, 78, 68] [⟨1, n, 1, []⟩, ⟨1, k, 1, []⟩] (by simp) (by simp) (errV [35, 78, 85, 77, 33]) (by have := pf_Call_BITANDN (G := G) n k hn hk; rw [show bitV n k = errV [35, 78, 85, 77, 33] by unfold bitV; (repeat' split) <;> first | rfl | (exfalso; omega)] at this; exact this) rfl (pf_doubtP (errV [35, 78, 85, 77, 33]) (by simp [num, errV])) [iNum (qV (num n 1)), iNum (qV (num k 1))] (iErr [35, 78, 85, 77, 33]) ha hi hsm
  refine PC.intro rfl Tryz.func6 rfl (Nat.le_of_ble_eq_true rfl) rfl ?_
  refine w_seq (w_reg (s_q rfl rfl (q_mv (.inr rfl) (is_sc rfl)) ?_))
  refine s_nil (n_n (w_seq (w_reg (s_q rfl rfl (q_mv (.inl rfl) (is_sc rfl)) ?_))))
  refine s_q rfl rfl (q_call rfl rfl rfl rfl hp0) ?_
  refine s_q rfl rfl (q_mv (.inl rfl) (is_sc rfl)) ?_
  refine s_q rfl rfl (q_call rfl rfl rfl rfl hp1) ?_
  refine s_q rfl rfl (q_bs rfl (pt_cons (by first | exact (rfl : _ = D.agg [_, _, _, _, _]) | exact rfl) (pt_cons (by first | exact (rfl : _ = D.agg [_, _, _, _, _]) | exact rfl) pt_nil)) (by decide) (by decide) (by exact (rfl : _ = some [_, _, _, _, _, _, _, _, _, _])) (by exact (rfl : _ = [_, _, _, _, _, _, _, _, _, _])) (by exact rfl) (by exact rfl)) ?_
  refine s_q rfl rfl (q_call rfl rfl rfl rfl hag) ?_
  refine s_q rfl rfl (q_mv (.inr rfl) (is_sc rfl)) ?_
  refine s_nil (n_n (w_ret ?_))
  -- end 0
  refine r_r (ra_tmp (is_sc rfl) ra_nil) (by exact (is_sc rfl)) (by exact rfl) sub_no ?_
  rfl


-- pub-tallysheet/laws.FnBitand
theorem pf_FnBitandN (n k : Int) (hn : ¬ (99999999999 < n ∨ n < -99999999999)) (hk : ¬ (99999999999 < k ∨ k < -99999999999)) (hb : ¬ (n < 0 ∨ k < 0)) : PF Tryz.prog G 6 [i64 n, i64 k] (bl true) := by
  have hp0 : PF Tryz.prog G 14 [i64 n] (num n 1).d := by
    have := pf_whole (G := G) n
    rw [intV_num hn] at this; exact this
  have hp1 : PF Tryz.prog G 14 [i64 k] (num k 1).d := by
    have := pf_whole (G := G) k
    rw [intV_num hk] at this; exact this
  have hm := andI_spec (n := n) (k := k) (by omega) (by omega)
  have hg : ¬ (99999999999 < andI n k ∨ andI n k < -99999999999) := by omega
  obtain ⟨hq, hx, hqb⟩ := qV_whole hn
  obtain ⟨hq', hx', hqb'⟩ := qV_whole hk
  have ha := pf_all (G := G) [num n 1, num k 1] (by simp) (fun v => iNum (qV v)) (fun v hv => by
    simp only [List.mem_cons, List.mem_nil_iff, or_false] at hv
    rcases hv with rfl | rfl
    · exact pf_ofN n 1 _ hq
    · exact pf_ofN k 1 _ hq')
  obtain ⟨r, hr, hi⟩ := impl_BITAND (G := G) hqb hqb' hx hx' (by omega) (by omega) (by omega) (by omega)
  obtain ⟨hq3, hx3, _⟩ := qV_whole (n := andI n k) hg
  have hsm := pf_same (G := G) 1 1 r (qV (num (andI n k) 1)) [] [] (num (andI n k) 1) (pf_ofN _ _ _ hq3)
  rw [same_whole hr hx3] at hsm
  have hag := pf_agreesS (G := G) 15 [66, 73, 84, 65, 78, 68] [⟨1, n, 1, []⟩, ⟨1, k, 1, []⟩] (by simp) (by simp) (num (andI n k) 1) (by have := pf_Call_BITANDN (G := G) n k hn hk; rw [show bitV n k = num (andI n k) 1 by rw [← intV_num hg]; unfold bitV; rw [if_neg (by omega), if_neg (by omega)]] at this; exact this) rfl (pf_doubtP (num (andI n k) 1) (by simp [num, errV])) [iNum (qV (num n 1)), iNum (qV (num k 1))] (iNum r) ha hi hsm
  refine PC.intro rfl Tryz.func6 rfl (Nat.le_of_ble_eq_true rfl) rfl ?_
  refine w_seq (w_reg (s_q rfl rfl (q_mv (.inr rfl) (is_sc rfl)) ?_))
  refine s_nil (n_n (w_seq (w_reg (s_q rfl rfl (q_mv (.inl rfl) (is_sc rfl)) ?_))))
  refine s_q rfl rfl (q_call rfl rfl rfl rfl hp0) ?_
  refine s_q rfl rfl (q_mv (.inl rfl) (is_sc rfl)) ?_
  refine s_q rfl rfl (q_call rfl rfl rfl rfl hp1) ?_
  refine s_q rfl rfl (q_bs rfl (pt_cons (by first | exact (rfl : _ = D.agg [_, _, _, _, _]) | exact rfl) (pt_cons (by first | exact (rfl : _ = D.agg [_, _, _, _, _]) | exact rfl) pt_nil)) (by decide) (by decide) (by exact (rfl : _ = some [_, _, _, _, _, _, _, _, _, _])) (by exact (rfl : _ = [_, _, _, _, _, _, _, _, _, _])) (by exact rfl) (by exact rfl)) ?_
  refine s_q rfl rfl (q_call rfl rfl rfl rfl hag) ?_
  refine s_q rfl rfl (q_mv (.inr rfl) (is_sc rfl)) ?_
  refine s_nil (n_n (w_ret ?_))
  -- end 0
  refine r_r (ra_tmp (is_sc rfl) ra_nil) (by exact (is_sc rfl)) (by exact rfl) sub_no ?_
  rfl


theorem pf_FnBitand (n k : Int) : PF Tryz.prog G 6 [i64 n, i64 k] (bl true) := by
  by_cases hn : (99999999999 < n ∨ n < -99999999999) <;> by_cases hk : (99999999999 < k ∨ k < -99999999999)
  · exact pf_FnBitandQ3 n k hn hk
  · exact pf_FnBitandQ1 n k hn hk
  · exact pf_FnBitandQ2 n k hn hk
  · by_cases hb : n < 0 ∨ k < 0
    · exact pf_FnBitandE n k hn hk hb
    · exact pf_FnBitandN n k hn hk hb

end Go.Proofs.YtjobmjfdlkjaoaaGreatDoor.Zz
