/- Walks of the functions, printed by program: each theorem says what one function answers. -/
import Derived.Test.YtjobmjfdlkjaoaaGreatDoorZSpBITLSHIFT
import Derived.Test.YtjobmjfdlkjaoaaGreatDoorZPrBITLSHIFT
namespace Go.Proofs.YtjobmjfdlkjaoaaGreatDoor.Zz
open Go.Abs
set_option maxRecDepth 100000
set_option linter.unusedVariables false
set_option linter.unusedSimpArgs false
set_option maxHeartbeats 4000000
variable {G : Nat → D}

-- pub-tallysheet/laws.FnBitlshift
theorem pf_FnBitlshiftQ1 (n k : Int) (hn : (99999999999 < n ∨ n < -99999999999)) (hk : ¬ (99999999999 < k ∨ k < -99999999999)) : PF Tryz.prog G 7 [i64 n, i64 k] (bl true) := by
  have hp0 : PF Tryz.prog G 14 [i64 n] doubt.d := by
    have := pf_whole (G := G) n
    rw [intV_doubt hn] at this; exact this
  have hp1 : PF Tryz.prog G 14 [i64 k] (num k 1).d := by
    have := pf_whole (G := G) k
    rw [intV_num hk] at this; exact this
  have hag := pf_agreesT (G := G) 16 [66, 73, 84, 76, 83, 72, 73, 70, 84] [⟨6, 0, 0, []⟩, ⟨1, k, 1, []⟩] (by simp) (by simp) doubt (pf_Call_BITLSHIFTQ1 k) rfl
  refine PC.intro rfl Tryz.func7 rfl (Nat.le_of_ble_eq_true rfl) rfl ?_
  refine w_seq (w_reg (s_q rfl rfl (q_mv (.inr rfl) (is_sc rfl)) ?_))
  refine s_nil (n_n (w_seq (w_reg (s_q rfl rfl (q_mv (.inl rfl) (is_sc rfl)) ?_))))
  refine s_q rfl rfl (q_call rfl rfl rfl rfl hp0) ?_
  refine s_q rfl rfl (q_mv (.inl rfl) (is_sc rfl)) ?_
  refine s_q rfl rfl (q_call rfl rfl rfl rfl hp1) ?_
  refine s_q rfl rfl (q_bs rfl (pt_cons (by first | exact (rfl : _ = D.agg [_, _, _, _, _]) | exact rfl) (pt_cons (by first | exact (rfl : _ = D.agg [_, _, _, _, _]) | exact rfl) pt_nil)) (by decide) (by decide) (by exact (rfl : _ = some [_, _, _, _, _, _, _, _, _, _])) (by exact (rfl : _ = [_, _, _, _, _, _, _, _, _, _])) (by exact rfl) (by exact rfl)) ?_
  refine s_q rfl rfl (q_call rfl rfl rfl rfl hag) ?_
  refine s_q rfl rfl (q_mv (.inr rfl) (is_sc rfl)) ?_
  refine s_nil (n_n (w_ret ?_))
  -- end 0
  refine r_r (ra_tmp (is_sc rfl) ra_nil) (by exact (is_sc rfl)) (by exact rfl) sub_no ?_
  rfl


-- pub-tallysheet/laws.FnBitlshift
theorem pf_FnBitlshiftQ2 (n k : Int) (hn : ¬ (99999999999 < n ∨ n < -99999999999)) (hk : (99999999999 < k ∨ k < -99999999999)) : PF Tryz.prog G 7 [i64 n, i64 k] (bl true) := by
  have hp0 : PF Tryz.prog G 14 [i64 n] (num n 1).d := by
    have := pf_whole (G := G) n
    rw [intV_num hn] at this; exact this
  have hp1 : PF Tryz.prog G 14 [i64 k] doubt.d := by
    have := pf_whole (G := G) k
    rw [intV_doubt hk] at this; exact this
  have hag := pf_agreesT (G := G) 16 [66, 73, 84, 76, 83, 72, 73, 70, 84] [⟨1, n, 1, []⟩, ⟨6, 0, 0, []⟩] (by simp) (by simp) doubt (dite (n ≤ 1048576) (fun h2 => pf_Call_BITLSHIFTQ2 n hn h2) (fun h2 => pf_Call_BITLSHIFTQ2b n hn (by omega))) rfl
  refine PC.intro rfl Tryz.func7 rfl (Nat.le_of_ble_eq_true rfl) rfl ?_
  refine w_seq (w_reg (s_q rfl rfl (q_mv (.inr rfl) (is_sc rfl)) ?_))
  refine s_nil (n_n (w_seq (w_reg (s_q rfl rfl (q_mv (.inl rfl) (is_sc rfl)) ?_))))
  refine s_q rfl rfl (q_call rfl rfl rfl rfl hp0) ?_
  refine s_q rfl rfl (q_mv (.inl rfl) (is_sc rfl)) ?_
  refine s_q rfl rfl (q_call rfl rfl rfl rfl hp1) ?_
  refine s_q rfl rfl (q_bs rfl (pt_cons (by first | exact (rfl : _ = D.agg [_, _, _, _, _]) | exact rfl) (pt_cons (by first | exact (rfl : _ = D.agg [_, _, _, _, _]) | exact rfl) pt_nil)) (by decide) (by decide) (by exact (rfl : _ = some [_, _, _, _, _, _, _, _, _, _])) (by exact (rfl : _ = [_, _, _, _, _, _, _, _, _, _])) (by exact rfl) (by exact rfl)) ?_
  refine s_q rfl rfl (q_call rfl rfl rfl rfl hag) ?_
  refine s_q rfl rfl (q_mv (.inr rfl) (is_sc rfl)) ?_
  refine s_nil (n_n (w_ret ?_))
  -- end 0
  refine r_r (ra_tmp (is_sc rfl) ra_nil) (by exact (is_sc rfl)) (by exact rfl) sub_no ?_
  rfl


-- pub-tallysheet/laws.FnBitlshift
theorem pf_FnBitlshiftQ3 (n k : Int) (hn : (99999999999 < n ∨ n < -99999999999)) (hk : (99999999999 < k ∨ k < -99999999999)) : PF Tryz.prog G 7 [i64 n, i64 k] (bl true) := by
  have hp0 : PF Tryz.prog G 14 [i64 n] doubt.d := by
    have := pf_whole (G := G) n
    rw [intV_doubt hn] at this; exact this
  have hp1 : PF Tryz.prog G 14 [i64 k] doubt.d := by
    have := pf_whole (G := G) k
    rw [intV_doubt hk] at this; exact this
  have hag := pf_agreesT (G := G) 16 [66, 73, 84, 76, 83, 72, 73, 70, 84] [⟨6, 0, 0, []⟩, ⟨6, 0, 0, []⟩] (by simp) (by simp) doubt (pf_Call_BITLSHIFTQ3) rfl
  refine PC.intro rfl Tryz.func7 rfl (Nat.le_of_ble_eq_true rfl) rfl ?_
  refine w_seq (w_reg (s_q rfl rfl (q_mv (.inr rfl) (is_sc rfl)) ?_))
  refine s_nil (n_n (w_seq (w_reg (s_q rfl rfl (q_mv (.inl rfl) (is_sc rfl)) ?_))))
  refine s_q rfl rfl (q_call rfl rfl rfl rfl hp0) ?_
  refine s_q rfl rfl (q_mv (.inl rfl) (is_sc rfl)) ?_
  refine s_q rfl rfl (q_call rfl rfl rfl rfl hp1) ?_
  refine s_q rfl rfl (q_bs rfl (pt_cons (by first | exact (rfl : _ = D.agg [_, _, _, _, _]) | exact rfl) (pt_cons (by first | exact (rfl : _ = D.agg [_, _, _, _, _]) | exact rfl) pt_nil)) (by decide) (by decide) (by exact (rfl : _ = some [_, _, _, _, _, _, _, _, _, _])) (by exact (rfl : _ = [_, _, _, _, _, _, _, _, _, _])) (by exact rfl) (by exact rfl)) ?_
  refine s_q rfl rfl (q_call rfl rfl rfl rfl hag) ?_
  refine s_q rfl rfl (q_mv (.inr rfl) (is_sc rfl)) ?_
  refine s_nil (n_n (w_ret ?_))
  -- end 0
  refine r_r (ra_tmp (is_sc rfl) ra_nil) (by exact (is_sc rfl)) (by exact rfl) sub_no ?_
  rfl


-- pub-tallysheet/laws.FnBitlshift
theorem pf_FnBitlshiftF1 (n k : Int) (hn : ¬ (99999999999 < n ∨ n < -99999999999)) (hk : ¬ (99999999999 < k ∨ k < -99999999999)) (hf : ¬ (-99999999999 ≤ n ∧ n ≤ 1048576)) : PF Tryz.prog G 7 [i64 n, i64 k] (bl true) := by
  have hp0 : PF Tryz.prog G 14 [i64 n] (num n 1).d := by
    have := pf_whole (G := G) n
    rw [intV_num hn] at this; exact this
  have hp1 : PF Tryz.prog G 14 [i64 k] (num k 1).d := by
    have := pf_whole (G := G) k
    rw [intV_num hk] at this; exact this
  have hag := pf_agreesD (G := G) 16 [66, 73, 84, 76, 83, 72, 73, 70, 84] [⟨1, n, 1, []⟩, ⟨1, k, 1, []⟩] (by simp) (by simp) doubt (pf_Call_BITLSHIFTF1 n k hn hf) rfl (pf_doubtP doubt (by simp [doubt]))
  refine PC.intro rfl Tryz.func7 rfl (Nat.le_of_ble_eq_true rfl) rfl ?_
  refine w_seq (w_reg (s_q rfl rfl (q_mv (.inr rfl) (is_sc rfl)) ?_))
  refine s_nil (n_n (w_seq (w_reg (s_q rfl rfl (q_mv (.inl rfl) (is_sc rfl)) ?_))))
  refine s_q rfl rfl (q_call rfl rfl rfl rfl hp0) ?_
  refine s_q rfl rfl (q_mv (.inl rfl) (is_sc rfl)) ?_
  refine s_q rfl rfl (q_call rfl rfl rfl rfl hp1) ?_
  refine s_q rfl rfl (q_bs rfl (pt_cons (by first | exact (rfl : _ = D.agg [_, _, _, _, _]) | exact rfl) (pt_cons (by first | exact (rfl : _ = D.agg [_, _, _, _, _]) | exact rfl) pt_nil)) (by decide) (by decide) (by exact (rfl : _ = some [_, _, _, _, _, _, _, _, _, _])) (by exact (rfl : _ = [_, _, _, _, _, _, _, _, _, _])) (by exact rfl) (by exact rfl)) ?_
  refine s_q rfl rfl (q_call rfl rfl rfl rfl hag) ?_
  refine s_q rfl rfl (q_mv (.inr rfl) (is_sc rfl)) ?_
  refine s_nil (n_n (w_ret ?_))
  -- end 0
  refine r_r (ra_tmp (is_sc rfl) ra_nil) (by exact (is_sc rfl)) (by exact rfl) sub_no ?_
  rfl


-- pub-tallysheet/laws.FnBitlshift
theorem pf_FnBitlshiftF2 (n k : Int) (hn : ¬ (99999999999 < n ∨ n < -99999999999)) (hk : ¬ (99999999999 < k ∨ k < -99999999999)) (hn2 : n ≤ 1048576) (hf : ¬ (0 ≤ k ∧ k ≤ 20)) : PF Tryz.prog G 7 [i64 n, i64 k] (bl true) := by
  have hp0 : PF Tryz.prog G 14 [i64 n] (num n 1).d := by
    have := pf_whole (G := G) n
    rw [intV_num hn] at this; exact this
  have hp1 : PF Tryz.prog G 14 [i64 k] (num k 1).d := by
    have := pf_whole (G := G) k
    rw [intV_num hk] at this; exact this
  have hag := pf_agreesD (G := G) 16 [66, 73, 84, 76, 83, 72, 73, 70, 84] [⟨1, n, 1, []⟩, ⟨1, k, 1, []⟩] (by simp) (by simp) doubt (pf_Call_BITLSHIFTF2 n k hn hn2 hf) rfl (pf_doubtP doubt (by simp [doubt]))
  refine PC.intro rfl Tryz.func7 rfl (Nat.le_of_ble_eq_true rfl) rfl ?_
  refine w_seq (w_reg (s_q rfl rfl (q_mv (.inr rfl) (is_sc rfl)) ?_))
  refine s_nil (n_n (w_seq (w_reg (s_q rfl rfl (q_mv (.inl rfl) (is_sc rfl)) ?_))))
  refine s_q rfl rfl (q_call rfl rfl rfl rfl hp0) ?_
  refine s_q rfl rfl (q_mv (.inl rfl) (is_sc rfl)) ?_
  refine s_q rfl rfl (q_call rfl rfl rfl rfl hp1) ?_
  refine s_q rfl rfl (q_bs rfl (pt_cons (by first | exact (rfl : _ = D.agg [_, _, _, _, _]) | exact rfl) (pt_cons (by first | exact (rfl : _ = D.agg [_, _, _, _, _]) | exact rfl) pt_nil)) (by decide) (by decide) (by exact (rfl : _ = some [_, _, _, _, _, _, _, _, _, _])) (by exact (rfl : _ = [_, _, _, _, _, _, _, _, _, _])) (by exact rfl) (by exact rfl)) ?_
  refine s_q rfl rfl (q_call rfl rfl rfl rfl hag) ?_
  refine s_q rfl rfl (q_mv (.inr rfl) (is_sc rfl)) ?_
  refine s_nil (n_n (w_ret ?_))
  -- end 0
  refine r_r (ra_tmp (is_sc rfl) ra_nil) (by exact (is_sc rfl)) (by exact rfl) sub_no ?_
  rfl


-- pub-tallysheet/laws.FnBitlshift
theorem pf_FnBitlshiftE (n k : Int) (hn : ¬ (99999999999 < n ∨ n < -99999999999)) (hk : ¬ (99999999999 < k ∨ k < -99999999999)) (hn2 : n ≤ 1048576) (hf : 0 ≤ k ∧ k ≤ 20) (hb : n < 0) : PF Tryz.prog G 7 [i64 n, i64 k] (bl true) := by
  have hp0 : PF Tryz.prog G 14 [i64 n] (num n 1).d := by
    have := pf_whole (G := G) n
    rw [intV_num hn] at this; exact this
  have hp1 : PF Tryz.prog G 14 [i64 k] (num k 1).d := by
    have := pf_whole (G := G) k
    rw [intV_num hk] at this; exact this
  obtain ⟨hq, hx, hqb⟩ := qV_whole hn
  obtain ⟨hq', hx', hqb'⟩ := qV_whole hk
  have ha := pf_all (G := G) [num n 1, num k 1] (by simp) (fun v => iNum (qV v)) (fun v hv => by
    simp only [List.mem_cons, List.mem_nil_iff, or_false] at hv
    rcases hv with rfl | rfl
    · exact pf_ofN n 1 _ hq
    · exact pf_ofN k 1 _ hq')
  have hi := impl_BITLSHIFTE (G := G) hqb hqb' hx hx' hb
  have hsm := pf_same (G := G) 4 4 0 0 [35, 78, 85, 77, 33] [35, 78, 85, 77, 33] (errV [35, 78, 85, 77, 33]) (pf_ofE [35, 78, 85, 77, 33])
  rw [sameE] at hsm
  have hag := pf_agreesS (G := G) 16 [66, 73, 84, 76, 83, 72, 73, 70, 84] [⟨1, n, 1, []⟩, ⟨1, k, 1, []⟩] (by simp) (by simp) (errV [35, 78, 85, 77, 33]) (by have := pf_Call_BITLSHIFTN (G := G) n k hn hn2 (by omega) (by omega); rw [show shlV n k = errV [35, 78, 85, 77, 33] from if_pos hb] at this; exact this) rfl (pf_doubtP (errV [35, 78, 85, 77, 33]) (by simp [num, errV])) [iNum (qV (num n 1)), iNum (qV (num k 1))] (iErr [35, 78, 85, 77, 33]) ha hi hsm
  refine PC.intro rfl Tryz.func7 rfl (Nat.le_of_ble_eq_true rfl) rfl ?_
  refine w_seq (w_reg (s_q rfl rfl (q_mv (.inr rfl) (is_sc rfl)) ?_))
  refine s_nil (n_n (w_seq (w_reg (s_q rfl rfl (q_mv (.inl rfl) (is_sc rfl)) ?_))))
  refine s_q rfl rfl (q_call rfl rfl rfl rfl hp0) ?_
  refine s_q rfl rfl (q_mv (.inl rfl) (is_sc rfl)) ?_
  refine s_q rfl rfl (q_call rfl rfl rfl rfl hp1) ?_
  refine s_q rfl rfl (q_bs rfl (pt_cons (by first | exact (rfl : _ = D.agg [_, _, _, _, _]) | exact rfl) (pt_cons (by first | exact (rfl : _ = D.agg [_, _, _, _, _]) | exact rfl) pt_nil)) (by decide) (by decide) (by exact (rfl : _ = some [_, _, _, _, _, _, _, _, _, _])) (by exact (rfl : _ = [_, _, _, _, _, _, _, _, _, _])) (by exact rfl) (by exact rfl)) ?_
  refine s_q rfl rfl (q_call rfl rfl rfl rfl hag) ?_
  refine s_q rfl rfl (q_mv (.inr rfl) (is_sc rfl)) ?_
  refine s_nil (n_n (w_ret ?_))
  -- end 0
  refine r_r (ra_tmp (is_sc rfl) ra_nil) (by exact (is_sc rfl)) (by exact rfl) sub_no ?_
  rfl


-- pub-tallysheet/laws.FnBitlshift
theorem pf_FnBitlshiftN (n k : Int) (hn : ¬ (99999999999 < n ∨ n < -99999999999)) (hk : ¬ (99999999999 < k ∨ k < -99999999999)) (hn2 : n ≤ 1048576) (hf : 0 ≤ k ∧ k ≤ 20) (hb : ¬ n < 0) (hg : ¬ (99999999999 < shlI n k ∨ shlI n k < -99999999999)) : PF Tryz.prog G 7 [i64 n, i64 k] (bl true) := by
  have hp0 : PF Tryz.prog G 14 [i64 n] (num n 1).d := by
    have := pf_whole (G := G) n
    rw [intV_num hn] at this; exact this
  have hp1 : PF Tryz.prog G 14 [i64 k] (num k 1).d := by
    have := pf_whole (G := G) k
    rw [intV_num hk] at this; exact this
  have hm := shlI_spec (n := n) (k := k) (by omega) hn2 hf.1 hf.2
  obtain ⟨hq, hx, hqb⟩ := qV_whole hn
  obtain ⟨hq', hx', hqb'⟩ := qV_whole hk
  have ha := pf_all (G := G) [num n 1, num k 1] (by simp) (fun v => iNum (qV v)) (fun v hv => by
    simp only [List.mem_cons, List.mem_nil_iff, or_false] at hv
    rcases hv with rfl | rfl
    · exact pf_ofN n 1 _ hq
    · exact pf_ofN k 1 _ hq')
  obtain ⟨r, hr, hi⟩ := impl_BITLSHIFT (G := G) hqb hqb' hx hx' (by omega) (by omega) hf.1 hf.2
  obtain ⟨hq3, hx3, _⟩ := qV_whole (n := shlI n k) hg
  have hsm := pf_same (G := G) 1 1 r (qV (num (shlI n k) 1)) [] [] (num (shlI n k) 1) (pf_ofN _ _ _ hq3)
  rw [same_whole hr hx3] at hsm
  have hag := pf_agreesS (G := G) 16 [66, 73, 84, 76, 83, 72, 73, 70, 84] [⟨1, n, 1, []⟩, ⟨1, k, 1, []⟩] (by simp) (by simp) (num (shlI n k) 1) (by have := pf_Call_BITLSHIFTN (G := G) n k hn hn2 (by omega) (by omega); rw [show shlV n k = num (shlI n k) 1 by rw [← intV_num hg]; exact if_neg hb] at this; exact this) rfl (pf_doubtP (num (shlI n k) 1) (by simp [num, errV])) [iNum (qV (num n 1)), iNum (qV (num k 1))] (iNum r) ha hi hsm
  refine PC.intro rfl Tryz.func7 rfl (Nat.le_of_ble_eq_true rfl) rfl ?_
  refine w_seq (w_reg (s_q rfl rfl (q_mv (.inr rfl) (is_sc rfl)) ?_))
  refine s_nil (n_n (w_seq (w_reg (s_q rfl rfl (q_mv (.inl rfl) (is_sc rfl)) ?_))))
  refine s_q rfl rfl (q_call rfl rfl rfl rfl hp0) ?_
  refine s_q rfl rfl (q_mv (.inl rfl) (is_sc rfl)) ?_
  refine s_q rfl rfl (q_call rfl rfl rfl rfl hp1) ?_
  refine s_q rfl rfl (q_bs rfl (pt_cons (by first | exact (rfl : _ = D.agg [_, _, _, _, _]) | exact rfl) (pt_cons (by first | exact (rfl : _ = D.agg [_, _, _, _, _]) | exact rfl) pt_nil)) (by decide) (by decide) (by exact (rfl : _ = some [_, _, _, _, _, _, _, _, _, _])) (by exact (rfl : _ = [_, _, _, _, _, _, _, _, _, _])) (by exact rfl) (by exact rfl)) ?_
  refine s_q rfl rfl (q_call rfl rfl rfl rfl hag) ?_
  refine s_q rfl rfl (q_mv (.inr rfl) (is_sc rfl)) ?_
  refine s_nil (n_n (w_ret ?_))
  -- end 0
  refine r_r (ra_tmp (is_sc rfl) ra_nil) (by exact (is_sc rfl)) (by exact rfl) sub_no ?_
  rfl


-- pub-tallysheet/laws.FnBitlshift
theorem pf_FnBitlshiftD (n k : Int) (hn : ¬ (99999999999 < n ∨ n < -99999999999)) (hk : ¬ (99999999999 < k ∨ k < -99999999999)) (hn2 : n ≤ 1048576) (hf : 0 ≤ k ∧ k ≤ 20) (hb : ¬ n < 0) (hg : (99999999999 < shlI n k ∨ shlI n k < -99999999999)) : PF Tryz.prog G 7 [i64 n, i64 k] (bl true) := by
  have hp0 : PF Tryz.prog G 14 [i64 n] (num n 1).d := by
    have := pf_whole (G := G) n
    rw [intV_num hn] at this; exact this
  have hp1 : PF Tryz.prog G 14 [i64 k] (num k 1).d := by
    have := pf_whole (G := G) k
    rw [intV_num hk] at this; exact this
  have hag := pf_agreesD (G := G) 16 [66, 73, 84, 76, 83, 72, 73, 70, 84] [⟨1, n, 1, []⟩, ⟨1, k, 1, []⟩] (by simp) (by simp) doubt (by have := pf_Call_BITLSHIFTN (G := G) n k hn hn2 (by omega) (by omega); rw [show shlV n k = doubt by rw [← intV_doubt hg]; exact if_neg hb] at this; exact this) rfl (pf_doubtP doubt (by simp [doubt]))
  refine PC.intro rfl Tryz.func7 rfl (Nat.le_of_ble_eq_true rfl) rfl ?_
  refine w_seq (w_reg (s_q rfl rfl (q_mv (.inr rfl) (is_sc rfl)) ?_))
  refine s_nil (n_n (w_seq (w_reg (s_q rfl rfl (q_mv (.inl rfl) (is_sc rfl)) ?_))))
  refine s_q rfl rfl (q_call rfl rfl rfl rfl hp0) ?_
  refine s_q rfl rfl (q_mv (.inl rfl) (is_sc rfl)) ?_
  refine s_q rfl rfl (q_call rfl rfl rfl rfl hp1) ?_
  refine s_q rfl rfl (q_bs rfl (pt_cons (by first | exact (rfl : _ = D.agg [_, _, _, _, _]) | exact rfl) (pt_cons (by first | exact (rfl : _ = D.agg [_, _, _, _, _]) | exact rfl) pt_nil)) (by decide) (by decide) (by exact (rfl : _ = some [_, _, _, _, _, _, _, _, _, _])) (by exact (rfl : _ = [_, _, _, _, _, _, _, _, _, _])) (by exact rfl) (by exact rfl)) ?_
  refine s_q rfl rfl (q_call rfl rfl rfl rfl hag) ?_
  refine s_q rfl rfl (q_mv (.inr rfl) (is_sc rfl)) ?_
  refine s_nil (n_n (w_ret ?_))
  -- end 0
  refine r_r (ra_tmp (is_sc rfl) ra_nil) (by exact (is_sc rfl)) (by exact rfl) sub_no ?_
  rfl


theorem pf_FnBitlshift (n k : Int) : PF Tryz.prog G 7 [i64 n, i64 k] (bl true) := by
  by_cases hn : (99999999999 < n ∨ n < -99999999999) <;> by_cases hk : (99999999999 < k ∨ k < -99999999999)
  · exact pf_FnBitlshiftQ3 n k hn hk
  · exact pf_FnBitlshiftQ1 n k hn hk
  · exact pf_FnBitlshiftQ2 n k hn hk
  · by_cases hn2 : n ≤ 1048576
    · by_cases hf : 0 ≤ k ∧ k ≤ 20
      · by_cases hb : n < 0
        · exact pf_FnBitlshiftE n k hn hk hn2 hf hb
        · by_cases hg : (99999999999 < shlI n k ∨ shlI n k < -99999999999)
          · exact pf_FnBitlshiftD n k hn hk hn2 hf hb hg
          · exact pf_FnBitlshiftN n k hn hk hn2 hf hb hg
      · exact pf_FnBitlshiftF2 n k hn hk hn2 hf
    · exact pf_FnBitlshiftF1 n k hn hk (by omega)

end Go.Proofs.YtjobmjfdlkjaoaaGreatDoor.Zz
