/- Walks of the functions, printed by program, and the logic behind them: each theorem says what one function or one step answers. -/
import Derived.Test.YteghibfaiifdoaaGreatDoorZSpRIGHT
import Derived.Test.YteghibfaiifdoaaGreatDoorZPrRIGHT
import Derived.Test.YteghibfaiifdoaaGreatDoorZM
namespace Go.Proofs.YteghibfaiifdoaaGreatDoor.Zz
open Go.Abs
set_option maxRecDepth 100000
set_option linter.unusedVariables false
set_option linter.unusedSimpArgs false
set_option maxHeartbeats 4000000
variable {G : Nat → D}

theorem pf_rightAgrees (s : List UInt8) (n : Int) (hs : s.length ≤ 1000) : PF Tryz.prog G 9 [.fn 14 [] [], st [82, 73, 71, 72, 84], lst [strV s, intV n]] (bl true) := by
  have hl : s.length < 1000000000 := by omega
  by_cases hn : 99999999999 < n ∨ n < -99999999999
  · rw [intV_doubt hn]
    exact pf_agreesT 14 [82, 73, 71, 72, 84] [⟨2, 0, 0, s⟩, ⟨6, 0, 0, []⟩] (by simp) (by simp) doubt (pf_Call_RIGHTQ s hl) rfl
  rw [intV_num hn]
  by_cases ha : asciiB s = true
  · have hcall := pf_Call_RIGHTA (G := G) n s hl ha hn (by omega)
    obtain ⟨hq, hx, hqb⟩ := qV_whole hn
    have hal := pf_all (G := G) [strV s, num n 1] (by simp) inV (fun v hv => by
      simp only [List.mem_cons, List.mem_nil_iff, or_false] at hv
      rcases hv with rfl | rfl
      · exact pf_ofS s
      · exact pf_ofN n 1 _ hq)
    by_cases h0 : n < 0
    · rw [show rightV s n = errV [35, 86, 65, 76, 85, 69, 33] from if_pos h0] at hcall
      have hsm := pf_same (G := G) 4 4 0 0 [35, 86, 65, 76, 85, 69, 33] [35, 86, 65, 76, 85, 69, 33] (errV [35, 86, 65, 76, 85, 69, 33]) (pf_ofE _)
      rw [sameE] at hsm
      exact pf_agreesS 14 [82, 73, 71, 72, 84] [⟨2, 0, 0, s⟩, ⟨1, n, 1, []⟩] (by simp) (by simp) _ hcall rfl (pf_doubtP (errV [35, 86, 65, 76, 85, 69, 33]) (by simp [errV])) [iStr s, iNum (qV (num n 1))] (iErr [35, 86, 65, 76, 85, 69, 33]) hal (pf_ImplRIGHTE s _ n (by omega) (plain_of ha) hx h0) hsm
    · rw [show rightV s n = strV (s.drop (s.length - min n.toNat s.length)) from if_neg h0] at hcall
      have hsm := pf_same (G := G) 2 2 0 0 (s.drop (s.length - min n.toNat s.length)) (s.drop (s.length - min n.toNat s.length)) (strV (s.drop (s.length - min n.toNat s.length))) (pf_ofS _)
      rw [sameS] at hsm
      exact pf_agreesS 14 [82, 73, 71, 72, 84] [⟨2, 0, 0, s⟩, ⟨1, n, 1, []⟩] (by simp) (by simp) _ hcall rfl (pf_doubtP (strV (s.drop (s.length - min n.toNat s.length))) (by simp [strV])) [iStr s, iNum (qV (num n 1))] (iStr (s.drop (s.length - min n.toNat s.length))) hal (pf_ImplRIGHT s _ n (by omega) (plain_of ha) hx (by omega) (by omega)) hsm
  · have hcall := pf_Call_RIGHTB (G := G) n s hl (by simpa using ha) hn
    exact pf_agreesD 14 [82, 73, 71, 72, 84] [⟨2, 0, 0, s⟩, ⟨1, n, 1, []⟩] (by simp) (by simp) doubt hcall rfl (pf_doubtP doubt (by simp [doubt]))


-- pub-tallysheet/laws.FnRight
theorem pf_FnRight (s : List UInt8) (n : Int) : PF Tryz.prog G 5 [st s, i64 n] (bl true) := by
  
  refine PC.intro rfl Tryz.func5 rfl (Nat.le_of_ble_eq_true rfl) rfl ?_
  refine w_seq (w_reg (s_q rfl rfl (q_mv (.inr rfl) (is_sc rfl)) ?_))
  refine s_nil (n_n (w_seq (w_seq (w_reg (s_q rfl rfl (q_mv (.inl rfl) (is_sc rfl)) ?_)))))
  refine s_q rfl rfl (q_lens rfl rfl) ?_
  refine s_q rfl rfl (q_gtr rfl rfl rfl) ?_
  refine s_nil (n_n (w_if (is_scb rfl) (fun h1 => ?_) (fun h1 => ?_)))
  · refine w_seq (w_reg (s_q rfl rfl (q_mv (.inr rfl) (is_sc rfl)) ?_))
    refine s_nil (n_n (w_ret (n_r ?_)))
    -- end 0
    refine r_r (ra_tmp (is_sc rfl) ra_nil) (by exact (is_sc rfl)) (by exact rfl) sub_no ?_
    rfl
  · refine w_skip (n_n (w_seq (w_reg (s_q rfl rfl (q_mv (.inl rfl) (is_sc rfl)) ?_))))
    refine s_q rfl rfl (q_bs rfl (pt_cons (is_sc rfl) pt_nil) (by decide) (by decide) (by exact (rfl : _ = some [_])) (by exact (rfl : _ = [_])) (by exact rfl) (by exact rfl)) ?_
    refine s_q rfl rfl (q_call rfl rfl rfl rfl (pf_shortTexts [s] (by simp only [List.length_cons, List.length_nil]; omega))) ?_
    refine s_q rfl rfl (q_not rfl rfl) ?_
    refine s_q rfl rfl (q_mv (.inl rfl) (is_sc rfl)) ?_
    refine s_split 12 (is_scb rfl) (fun hsh => ?_) (fun hsh => ?_)
    · refine s_off rfl rfl ?_
      refine s_off rfl rfl ?_
      refine s_off rfl rfl ?_
      refine s_off rfl rfl ?_
      refine s_off rfl rfl ?_
      refine s_off rfl rfl ?_
      refine s_q rfl rfl (q_pickT rfl rfl (is_sc rfl)) ?_
      refine s_q rfl rfl (q_mv (.inr rfl) (is_sc rfl)) ?_
      refine s_nil (n_n (w_ret ?_))
      -- end 1
      refine r_r (ra_tmp (is_sc rfl) ra_nil) (by exact (is_sc rfl)) (by exact rfl) sub_no ?_
      rfl
    · have hs : s.length ≤ 1000 := by simpa using hsh
      refine s_q rfl rfl (q_mv (.inl rfl) (is_sc rfl)) ?_
      refine s_q rfl rfl (q_call rfl rfl rfl rfl (pf_str _)) ?_
      refine s_q rfl rfl (q_mv (.inl rfl) (is_sc rfl)) ?_
      refine s_q rfl rfl (q_call rfl rfl rfl rfl (pf_whole _)) ?_
      refine s_q rfl rfl (q_bs rfl (pt_cons (by first | exact (rfl : _ = D.agg [_, _, _, _, _]) | exact rfl) (pt_cons (by first | exact (rfl : _ = D.agg [_, _, _, _, _]) | exact rfl) pt_nil)) (by decide) (by decide) (by exact (rfl : _ = some [_, _, _, _, _, _, _, _, _, _])) (by exact (rfl : _ = [_, _, _, _, _, _, _, _, _, _])) (by exact rfl) (by exact rfl)) ?_
      refine s_q rfl rfl (q_call rfl rfl rfl rfl (pf_rightAgrees s n hs)) ?_
      refine s_q rfl rfl (q_pickF rfl rfl (is_sc rfl)) ?_
      refine s_q rfl rfl (q_mv (.inr rfl) (is_sc rfl)) ?_
      refine s_nil (n_n (w_ret ?_))
      -- end 2
      refine r_r (ra_tmp (is_sc rfl) ra_nil) (by exact (is_sc rfl)) (by exact rfl) sub_no ?_
      rfl

end Go.Proofs.YteghibfaiifdoaaGreatDoor.Zz
