/- Walks of the functions, printed by program, and the logic behind them: each theorem says what one function or one step answers. -/
import Derived.Test.YteghibfaiifdoaaGreatDoorZSpLOWER
import Derived.Test.YteghibfaiifdoaaGreatDoorZPrLOWER
import Derived.Test.YteghibfaiifdoaaGreatDoorZM
namespace Go.Proofs.YteghibfaiifdoaaGreatDoor.Zz
open Go.Abs
set_option maxRecDepth 100000
set_option linter.unusedVariables false
set_option linter.unusedSimpArgs false
set_option maxHeartbeats 4000000
variable {G : Nat → D}

theorem pf_lowerAgrees (s : List UInt8) (hs : s.length ≤ 1000) : PF Tryz.prog G 9 [.fn 10 [] [], st [76, 79, 87, 69, 82], lst [strV s]] (bl true) := by
  have hl : s.length < 1000000000 := by omega
  by_cases ha : asciiB s = true
  · have hcall := pf_Call_LOWERA (G := G) s hl ha
    have hal := pf_all (G := G) [strV s] (by simp) inV (fun v hv => by rw [List.mem_singleton.1 hv]; exact pf_ofS s)
    have hsm := pf_same (G := G) 2 2 0 0 (lowS s) (lowS s) (strV (lowS s)) (pf_ofS _)
    rw [sameS] at hsm
    exact pf_agreesS 10 [76, 79, 87, 69, 82] [⟨2, 0, 0, s⟩] (by simp) (by simp) (strV (lowS s)) hcall rfl (pf_doubtP (strV (lowS s)) (by simp [strV])) [iStr s] (iStr (lowS s)) hal (pf_ImplLOWER s (by omega) (plain_of ha)) hsm
  · have hcall := pf_Call_LOWERB (G := G) s hl (by simpa using ha)
    exact pf_agreesD 10 [76, 79, 87, 69, 82] [⟨2, 0, 0, s⟩] (by simp) (by simp) doubt hcall rfl (pf_doubtP doubt (by simp [doubt]))


-- pub-tallysheet/laws.FnLower
theorem pf_FnLower (s : List UInt8) : PF Tryz.prog G 3 [st s] (bl true) := by
  
  refine PC.intro rfl Tryz.func3 rfl (Nat.le_of_ble_eq_true rfl) rfl ?_
  refine w_seq (w_reg (s_q rfl rfl (q_mv (.inr rfl) (is_sc rfl)) ?_))
  refine s_nil (n_n (w_seq (w_seq (w_reg (s_q rfl rfl (q_mv (.inl rfl) (is_sc rfl)) ?_)))))
  refine s_q rfl rfl (q_lens rfl rfl) ?_
  refine s_q rfl rfl (q_gtr rfl rfl rfl) ?_
  refine s_nil (n_n (w_if (is_scb rfl) (fun h1 => ?_) (fun h1 => ?_)))
  · refine w_seq (w_reg (s_q rfl rfl (q_mv (.inr rfl) (is_sc rfl)) ?_))
    refine s_nil (n_n (w_ret (n_r ?_)))
    -- end 0
    refine r_r (ra_tmp (is_sc rfl) ra_nil) (by exact (is_sc rfl)) (by exact rfl) sub_no ?_
    rfl
  · refine w_skip (n_n (w_seq (w_reg (s_q rfl rfl (q_mv (.inl rfl) (is_sc rfl)) ?_))))
    refine s_q rfl rfl (q_bs rfl (pt_cons (is_sc rfl) pt_nil) (by decide) (by decide) (by exact (rfl : _ = some [_])) (by exact (rfl : _ = [_])) (by exact rfl) (by exact rfl)) ?_
    refine s_q rfl rfl (q_call rfl rfl rfl rfl (pf_shortTexts [s] (by simp only [List.length_cons, List.length_nil]; omega))) ?_
    refine s_q rfl rfl (q_not rfl rfl) ?_
    refine s_q rfl rfl (q_mv (.inl rfl) (is_sc rfl)) ?_
    refine s_split 10 (is_scb rfl) (fun hsh => ?_) (fun hsh => ?_)
    · refine s_off rfl rfl ?_
      refine s_off rfl rfl ?_
      refine s_off rfl rfl ?_
      refine s_off rfl rfl ?_
      refine s_q rfl rfl (q_pickT rfl rfl (is_sc rfl)) ?_
      refine s_q rfl rfl (q_mv (.inr rfl) (is_sc rfl)) ?_
      refine s_nil (n_n (w_ret ?_))
      -- end 1
      refine r_r (ra_tmp (is_sc rfl) ra_nil) (by exact (is_sc rfl)) (by exact rfl) sub_no ?_
      rfl
    · have hs : s.length ≤ 1000 := by simpa using hsh
      refine s_q rfl rfl (q_mv (.inl rfl) (is_sc rfl)) ?_
      refine s_q rfl rfl (q_call rfl rfl rfl rfl (pf_str _)) ?_
      refine s_q rfl rfl (q_bs rfl (pt_cons (by first | exact (rfl : _ = D.agg [_, _, _, _, _]) | exact rfl) pt_nil) (by decide) (by decide) (by exact (rfl : _ = some [_, _, _, _, _])) (by exact (rfl : _ = [_, _, _, _, _])) (by exact rfl) (by exact rfl)) ?_
      refine s_q rfl rfl (q_call rfl rfl rfl rfl (pf_lowerAgrees s hs)) ?_
      refine s_q rfl rfl (q_pickF rfl rfl (is_sc rfl)) ?_
      refine s_q rfl rfl (q_mv (.inr rfl) (is_sc rfl)) ?_
      refine s_nil (n_n (w_ret ?_))
      -- end 2
      refine r_r (ra_tmp (is_sc rfl) ra_nil) (by exact (is_sc rfl)) (by exact rfl) sub_no ?_
      rfl

end Go.Proofs.YteghibfaiifdoaaGreatDoor.Zz
