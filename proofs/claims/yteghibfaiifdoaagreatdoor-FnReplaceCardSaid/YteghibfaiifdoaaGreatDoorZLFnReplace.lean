/- Walks of the functions, printed by program, and the logic behind them: each theorem says what one function or one step answers. -/
import Derived.Test.YteghibfaiifdoaaGreatDoorZSpREPLACE
import Derived.Test.YteghibfaiifdoaaGreatDoorZPrREPLACE
import Derived.Test.YteghibfaiifdoaaGreatDoorZM
namespace Go.Proofs.YteghibfaiifdoaaGreatDoor.Zz
open Go.Abs
set_option maxRecDepth 100000
set_option linter.unusedVariables false
set_option linter.unusedSimpArgs false
set_option maxHeartbeats 4000000
variable {G : Nat → D}

theorem pf_replAgrees (s t : List UInt8) (n k : Int) (hs : s.length ≤ 1000) (ht : t.length ≤ 1000) : PF Tryz.prog G 9 [.fn 12 [] [], st [82, 69, 80, 76, 65, 67, 69], lst [strV s, intV n, intV k, strV t]] (bl true) := by
  by_cases hn : 99999999999 < n ∨ n < -99999999999
  · rw [intV_doubt hn]
    by_cases hk : 99999999999 < k ∨ k < -99999999999
    · rw [intV_doubt hk]
      exact pf_agreesT 12 [82, 69, 80, 76, 65, 67, 69] [⟨2, 0, 0, s⟩, ⟨6, 0, 0, []⟩, ⟨6, 0, 0, []⟩, ⟨2, 0, 0, t⟩] (by simp) (by simp) doubt (pf_Call_REPLACEQ3 s t n k hs ht) rfl
    · rw [intV_num hk]
      exact pf_agreesT 12 [82, 69, 80, 76, 65, 67, 69] [⟨2, 0, 0, s⟩, ⟨6, 0, 0, []⟩, ⟨1, k, 1, []⟩, ⟨2, 0, 0, t⟩] (by simp) (by simp) doubt (pf_Call_REPLACEQ1 s t n k hs ht) rfl
  rw [intV_num hn]
  by_cases hk : 99999999999 < k ∨ k < -99999999999
  · rw [intV_doubt hk]
    exact pf_agreesT 12 [82, 69, 80, 76, 65, 67, 69] [⟨2, 0, 0, s⟩, ⟨1, n, 1, []⟩, ⟨6, 0, 0, []⟩, ⟨2, 0, 0, t⟩] (by simp) (by simp) doubt (pf_Call_REPLACEQ2 s t n k hs ht) rfl
  rw [intV_num hk]
  by_cases hc : asciiB s = true ∧ (1 ≤ n ∧ n ≤ 1000000) ∧ (0 ≤ k ∧ k ≤ 1000000) ∧ asciiB t = true
  · obtain ⟨ha, hn1, hk1, hb⟩ := hc
    have hcall := pf_Call_REPLACEA (G := G) s t n k hs ht ha hb hn1 hk1
    obtain ⟨hq, hx, hqb⟩ := qV_whole hn
    obtain ⟨hq', hx', hqb'⟩ := qV_whole hk
    have hal := pf_all (G := G) [strV s, num n 1, num k 1, strV t] (by simp) inV (fun v hv => by
      simp only [List.mem_cons, List.mem_nil_iff, or_false] at hv
      rcases hv with rfl | rfl | rfl | rfl
      · exact pf_ofS s
      · exact pf_ofN n 1 _ hq
      · exact pf_ofN k 1 _ hq'
      · exact pf_ofS t)
    have hsm := pf_same (G := G) 2 2 0 0 (replS s n k t) (replS s n k t) (strV (replS s n k t)) (pf_ofS _)
    rw [sameS] at hsm
    exact pf_agreesS 12 [82, 69, 80, 76, 65, 67, 69] [⟨2, 0, 0, s⟩, ⟨1, n, 1, []⟩, ⟨1, k, 1, []⟩, ⟨2, 0, 0, t⟩] (by simp) (by simp) _ hcall rfl (pf_doubtP (strV (replS s n k t)) (by simp [strV])) [iStr s, iNum (qV (num n 1)), iNum (qV (num k 1)), iStr t] (iStr (replS s n k t)) hal (pf_ImplREPLACE s t _ _ n k hs ht hx hx' hn1 hk1) hsm
  · have hcall := pf_Call_REPLACEB (G := G) s t n k hs ht hc
    exact pf_agreesD 12 [82, 69, 80, 76, 65, 67, 69] [⟨2, 0, 0, s⟩, ⟨1, n, 1, []⟩, ⟨1, k, 1, []⟩, ⟨2, 0, 0, t⟩] (by simp) (by simp) doubt hcall rfl (pf_doubtP doubt (by simp [doubt]))


-- pub-tallysheet/laws.FnReplace
theorem pf_FnReplace (s : List UInt8) (n k : Int) (t : List UInt8) : PF Tryz.prog G 4 [st s, i64 n, i64 k, st t] (bl true) := by
  
  refine PC.intro rfl Tryz.func4 rfl (Nat.le_of_ble_eq_true rfl) rfl ?_
  refine w_seq (w_reg (s_q rfl rfl (q_mv (.inr rfl) (is_sc rfl)) ?_))
  refine s_nil (n_n (w_seq (w_seq (w_reg (s_q rfl rfl (q_mv (.inl rfl) (is_sc rfl)) ?_)))))
  refine s_q rfl rfl (q_lens rfl rfl) ?_
  refine s_q rfl rfl (q_gtr rfl rfl rfl) ?_
  refine s_q rfl rfl (q_mv (.inl rfl) (is_sc rfl)) ?_
  refine s_split 12 (is_scb rfl) (fun hsh => ?_) (fun hsh => ?_)
  · refine s_off rfl rfl ?_
    refine s_off rfl rfl ?_
    refine s_off rfl rfl ?_
    refine s_q rfl rfl (q_pickT rfl rfl (is_sc rfl)) ?_
    refine s_nil (n_n (w_ifT rfl (w_seq (w_reg (s_q rfl rfl (q_mv (.inr rfl) (is_sc rfl)) ?_)))))
    refine s_nil (n_n (w_ret (n_r ?_)))
    -- end 0
    refine r_r (ra_tmp (is_sc rfl) ra_nil) (by exact (is_sc rfl)) (by exact rfl) sub_no ?_
    rfl
  · refine s_q rfl rfl (q_mv (.inl rfl) (is_sc rfl)) ?_
    refine s_q rfl rfl (q_lens rfl rfl) ?_
    refine s_q rfl rfl (q_gtr rfl rfl rfl) ?_
    refine s_q rfl rfl (q_pickF rfl rfl (is_sc rfl)) ?_
    refine s_nil (n_n (w_if (is_scb rfl) (fun h1 => ?_) (fun h1 => ?_)))
    · refine w_seq (w_reg (s_q rfl rfl (q_mv (.inr rfl) (is_sc rfl)) ?_))
      refine s_nil (n_n (w_ret (n_r ?_)))
      -- end 1
      refine r_r (ra_tmp (is_sc rfl) ra_nil) (by exact (is_sc rfl)) (by exact rfl) sub_no ?_
      rfl
    · refine w_skip (n_n (w_seq (w_reg (s_q rfl rfl (q_mv (.inl rfl) (is_sc rfl)) ?_))))
      refine s_q rfl rfl (q_mv (.inl rfl) (is_sc rfl)) ?_
      refine s_q rfl rfl (q_bs rfl (pt_cons (is_sc rfl) (pt_cons (is_sc rfl) pt_nil)) (by decide) (by decide) (by exact (rfl : _ = some [_, _])) (by exact (rfl : _ = [_, _])) (by exact rfl) (by exact rfl)) ?_
      refine s_q rfl rfl (q_call rfl rfl rfl rfl (pf_shortTexts [s, t] (by simp only [List.length_cons, List.length_nil]; omega))) ?_
      refine s_q rfl rfl (q_not rfl rfl) ?_
      refine s_q rfl rfl (q_mv (.inl rfl) (is_sc rfl)) ?_
      refine s_split 22 (is_scb rfl) (fun hsh => ?_) (fun hsh => ?_)
      · refine s_off rfl rfl ?_
        refine s_off rfl rfl ?_
        refine s_off rfl rfl ?_
        refine s_off rfl rfl ?_
        refine s_off rfl rfl ?_
        refine s_off rfl rfl ?_
        refine s_off rfl rfl ?_
        refine s_off rfl rfl ?_
        refine s_off rfl rfl ?_
        refine s_off rfl rfl ?_
        refine s_q rfl rfl (q_pickT rfl rfl (is_sc rfl)) ?_
        refine s_q rfl rfl (q_mv (.inr rfl) (is_sc rfl)) ?_
        refine s_nil (n_n (w_ret ?_))
        -- end 2
        refine r_r (ra_tmp (is_sc rfl) ra_nil) (by exact (is_sc rfl)) (by exact rfl) sub_no ?_
        rfl
      · have hs : s.length ≤ 1000 ∧ t.length ≤ 1000 := by simpa using hsh
        refine s_q rfl rfl (q_mv (.inl rfl) (is_sc rfl)) ?_
        refine s_q rfl rfl (q_call rfl rfl rfl rfl (pf_str _)) ?_
        refine s_q rfl rfl (q_mv (.inl rfl) (is_sc rfl)) ?_
        refine s_q rfl rfl (q_call rfl rfl rfl rfl (pf_whole _)) ?_
        refine s_q rfl rfl (q_mv (.inl rfl) (is_sc rfl)) ?_
        refine s_q rfl rfl (q_call rfl rfl rfl rfl (pf_whole _)) ?_
        refine s_q rfl rfl (q_mv (.inl rfl) (is_sc rfl)) ?_
        refine s_q rfl rfl (q_call rfl rfl rfl rfl (pf_str _)) ?_
        refine s_q rfl rfl (q_bs rfl (pt_cons (by first | exact (rfl : _ = D.agg [_, _, _, _, _]) | exact rfl) (pt_cons (by first | exact (rfl : _ = D.agg [_, _, _, _, _]) | exact rfl) (pt_cons (by first | exact (rfl : _ = D.agg [_, _, _, _, _]) | exact rfl) (pt_cons (by first | exact (rfl : _ = D.agg [_, _, _, _, _]) | exact rfl) pt_nil)))) (by decide) (by decide) (by exact (rfl : _ = some [_, _, _, _, _, _, _, _, _, _, _, _, _, _, _, _, _, _, _, _])) (by exact (rfl : _ = [_, _, _, _, _, _, _, _, _, _, _, _, _, _, _, _, _, _, _, _])) (by exact rfl) (by exact rfl)) ?_
        refine s_q rfl rfl (q_call rfl rfl rfl rfl (pf_replAgrees s t n k hs.1 hs.2)) ?_
        refine s_q rfl rfl (q_pickF rfl rfl (is_sc rfl)) ?_
        refine s_q rfl rfl (q_mv (.inr rfl) (is_sc rfl)) ?_
        refine s_nil (n_n (w_ret ?_))
        -- end 3
        refine r_r (ra_tmp (is_sc rfl) ra_nil) (by exact (is_sc rfl)) (by exact rfl) sub_no ?_
        rfl

end Go.Proofs.YteghibfaiifdoaaGreatDoor.Zz
