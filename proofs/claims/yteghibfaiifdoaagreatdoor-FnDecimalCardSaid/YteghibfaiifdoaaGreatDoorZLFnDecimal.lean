/- Walks of the functions, printed by program, and the logic behind them: each theorem says what one function or one step answers. -/
import Derived.Test.YteghibfaiifdoaaGreatDoorZSpDECIMAL
import Derived.Test.YteghibfaiifdoaaGreatDoorZPrDECIMAL
import Derived.Test.YteghibfaiifdoaaGreatDoorZM
namespace Go.Proofs.YteghibfaiifdoaaGreatDoor.Zz
open Go.Abs
set_option maxRecDepth 100000
set_option linter.unusedVariables false
set_option linter.unusedSimpArgs false
set_option maxHeartbeats 4000000
variable {G : Nat → D}

theorem pf_decAgrees (s : List UInt8) (b : Int) (hs : s.length ≤ 1000) : PF Tryz.prog G 9 [.fn 18 [] [], st [68, 69, 67, 73, 77, 65, 76], lst [strV s, intV b]] (bl true) := by
  have hl : s.length < 1000000000 := by omega
  by_cases hn : 99999999999 < b ∨ b < -99999999999
  · rw [intV_doubt hn]
    exact pf_agreesT 18 [68, 69, 67, 73, 77, 65, 76] [⟨2, 0, 0, s⟩, ⟨6, 0, 0, []⟩] (by simp) (by simp) doubt (pf_Call_DECIMALQ s hl) rfl
  rw [intV_num hn]
  by_cases hc : asciiB s = true ∧ (2 ≤ b ∧ b ≤ 36)
  · have hcall := pf_Call_DECIMALA (G := G) b s hl hc.1 hc.2
    by_cases hd : s = [] ∨ 255 < s.length
    · rw [show decV s b = doubt from if_pos hd] at hcall
      exact pf_agreesD 18 [68, 69, 67, 73, 77, 65, 76] [⟨2, 0, 0, s⟩, ⟨1, b, 1, []⟩] (by simp) (by simp) doubt hcall rfl (pf_doubtP doubt (by simp [doubt]))
    have he : ¬ s = [] := fun e => hd (.inl e)
    have hlong : ¬ 255 < s.length := fun e => hd (.inr e)
    cases hD : decL b s 0 0 with
    | none =>
      rw [dec_none he hlong hD] at hcall
      exact pf_agreesD 18 [68, 69, 67, 73, 77, 65, 76] [⟨2, 0, 0, s⟩, ⟨1, b, 1, []⟩] (by simp) (by simp) doubt hcall rfl (pf_doubtP doubt (by simp [doubt]))
    | some m =>
      have hm := dec_le hc.2 (N := m) (s := s) s.length 0 0 rfl (by omega) (by omega) (by simpa using hD)
      have hm' : ¬ (99999999999 < m ∨ m < -99999999999) := by omega
      rw [dec_some he hlong hD, intV_num hm'] at hcall
      obtain ⟨hq, hx, hqb⟩ := qV_whole hn
      obtain ⟨hq3, hx3, _⟩ := qV_whole hm'
      have hal := pf_all (G := G) [strV s, num b 1] (by simp) inV (fun v hv => by
        simp only [List.mem_cons, List.mem_nil_iff, or_false] at hv
        rcases hv with rfl | rfl
        · exact pf_ofS s
        · exact pf_ofN b 1 _ hq)
      have hr : Fx (clean (FloatKind.f64.nearest m)) (m * (unit : Nat)) := fx_clean (fv_nearest (by omega))
      have hsm := pf_same (G := G) 1 1 (clean (FloatKind.f64.nearest m)) (qV (num m 1)) [] [] (num m 1) (pf_ofN _ _ _ hq3)
      rw [sameN hr hx3] at hsm
      exact pf_agreesS 18 [68, 69, 67, 73, 77, 65, 76] [⟨2, 0, 0, s⟩, ⟨1, b, 1, []⟩] (by simp) (by simp) _ hcall rfl (pf_doubtP (num m 1) (by simp [num])) [iStr s, iNum (qV (num b 1))] (iNum (clean (FloatKind.f64.nearest m))) hal (pf_ImplDECIMAL s _ b m hs he hx hc.2 hD hm) hsm
  · have hcall := pf_Call_DECIMALB (G := G) b s hl hc
    exact pf_agreesD 18 [68, 69, 67, 73, 77, 65, 76] [⟨2, 0, 0, s⟩, ⟨1, b, 1, []⟩] (by simp) (by simp) doubt hcall rfl (pf_doubtP doubt (by simp [doubt]))


-- pub-tallysheet/laws.FnDecimal
theorem pf_FnDecimal (s : List UInt8) (n : Int) : PF Tryz.prog G 7 [st s, i64 n] (bl true) := by
  
  refine PC.intro rfl Tryz.func7 rfl (Nat.le_of_ble_eq_true rfl) rfl ?_
  refine w_seq (w_reg (s_q rfl rfl (q_mv (.inr rfl) (is_sc rfl)) ?_))
  refine s_nil (n_n (w_seq (w_seq (w_reg (s_q rfl rfl (q_mv (.inl rfl) (is_sc rfl)) ?_)))))
  refine s_q rfl rfl (q_lens rfl rfl) ?_
  refine s_q rfl rfl (q_gtr rfl rfl rfl) ?_
  refine s_nil (n_n (w_if (is_scb rfl) (fun h1 => ?_) (fun h1 => ?_)))
  · refine w_seq (w_reg (s_q rfl rfl (q_mv (.inr rfl) (is_sc rfl)) ?_))
    refine s_nil (n_n (w_ret (n_r ?_)))
    -- end 0
    refine r_r (ra_tmp (is_sc rfl) ra_nil) (by exact (is_sc rfl)) (by exact rfl) sub_no ?_
    rfl
  · refine w_skip (n_n (w_seq (w_reg (s_q rfl rfl (q_mv (.inl rfl) (is_sc rfl)) ?_))))
    refine s_q rfl rfl (q_bs rfl (pt_cons (is_sc rfl) pt_nil) (by decide) (by decide) (by exact (rfl : _ = some [_])) (by exact (rfl : _ = [_])) (by exact rfl) (by exact rfl)) ?_
    refine s_q rfl rfl (q_call rfl rfl rfl rfl (pf_shortTexts [s] (by simp only [List.length_cons, List.length_nil]; omega))) ?_
    refine s_q rfl rfl (q_not rfl rfl) ?_
    refine s_q rfl rfl (q_mv (.inl rfl) (is_sc rfl)) ?_
    refine s_split 12 (is_scb rfl) (fun hsh => ?_) (fun hsh => ?_)
    · refine s_off rfl rfl ?_
      refine s_off rfl rfl ?_
      refine s_off rfl rfl ?_
      refine s_off rfl rfl ?_
      refine s_off rfl rfl ?_
      refine s_off rfl rfl ?_
      refine s_q rfl rfl (q_pickT rfl rfl (is_sc rfl)) ?_
      refine s_q rfl rfl (q_mv (.inr rfl) (is_sc rfl)) ?_
      refine s_nil (n_n (w_ret ?_))
      -- end 1
      refine r_r (ra_tmp (is_sc rfl) ra_nil) (by exact (is_sc rfl)) (by exact rfl) sub_no ?_
      rfl
    · have hs : s.length ≤ 1000 := by simpa using hsh
      refine s_q rfl rfl (q_mv (.inl rfl) (is_sc rfl)) ?_
      refine s_q rfl rfl (q_call rfl rfl rfl rfl (pf_str _)) ?_
      refine s_q rfl rfl (q_mv (.inl rfl) (is_sc rfl)) ?_
      refine s_q rfl rfl (q_call rfl rfl rfl rfl (pf_whole _)) ?_
      refine s_q rfl rfl (q_bs rfl (pt_cons (by first | exact (rfl : _ = D.agg [_, _, _, _, _]) | exact rfl) (pt_cons (by first | exact (rfl : _ = D.agg [_, _, _, _, _]) | exact rfl) pt_nil)) (by decide) (by decide) (by exact (rfl : _ = some [_, _, _, _, _, _, _, _, _, _])) (by exact (rfl : _ = [_, _, _, _, _, _, _, _, _, _])) (by exact rfl) (by exact rfl)) ?_
      refine s_q rfl rfl (q_call rfl rfl rfl rfl (pf_decAgrees s n hs)) ?_
      refine s_q rfl rfl (q_pickF rfl rfl (is_sc rfl)) ?_
      refine s_q rfl rfl (q_mv (.inr rfl) (is_sc rfl)) ?_
      refine s_nil (n_n (w_ret ?_))
      -- end 2
      refine r_r (ra_tmp (is_sc rfl) ra_nil) (by exact (is_sc rfl)) (by exact rfl) sub_no ?_
      rfl

end Go.Proofs.YteghibfaiifdoaaGreatDoor.Zz
