/- Walks of the functions, printed by program: each theorem says what one function answers. -/
import Derived.Test.YtjobmjfdlkjaoaaGreatDoorZSpEVEN
import Derived.Test.YtjobmjfdlkjaoaaGreatDoorZPrEVEN
namespace Go.Proofs.YtjobmjfdlkjaoaaGreatDoor.Zz
open Go.Abs
set_option maxRecDepth 100000
set_option linter.unusedVariables false
set_option linter.unusedSimpArgs false
set_option maxHeartbeats 4000000
variable {G : Nat → D}

-- pub-tallysheet/laws.FnEven
theorem pf_FnEvenQ (n : Int) (h : sixV (clampI n) = doubt) : PF Tryz.prog G 4 [i64 n] (bl true) := by
  have hp0 : PF Tryz.prog G 11 [i64 n] doubt.d := by
    have := pf_argPart (G := G) n
    rw [h] at this; exact this
  have hag := pf_agreesT (G := G) 12 [69, 86, 69, 78] [⟨6, 0, 0, []⟩] (by simp) (by simp) doubt (pf_Call_EVENQ) rfl
  refine PC.intro rfl Tryz.func4 rfl (Nat.le_of_ble_eq_true rfl) rfl ?_
  refine w_seq (w_reg (s_q rfl rfl (q_mv (.inr rfl) (is_sc rfl)) ?_))
  refine s_nil (n_n (w_seq (w_reg (s_q rfl rfl (q_mv (.inl rfl) (is_sc rfl)) ?_))))
  refine s_q rfl rfl (q_call rfl rfl rfl rfl hp0) ?_
  refine s_q rfl rfl (q_bs rfl (pt_cons (by first | exact (rfl : _ = D.agg [_, _, _, _, _]) | exact rfl) pt_nil) (by decide) (by decide) (by exact (rfl : _ = some [_, _, _, _, _])) (by exact (rfl : _ = [_, _, _, _, _])) (by exact rfl) (by exact rfl)) ?_
  refine s_q rfl rfl (q_call rfl rfl rfl rfl hag) ?_
  refine s_q rfl rfl (q_mv (.inr rfl) (is_sc rfl)) ?_
  refine s_nil (n_n (w_ret ?_))
  -- end 0
  refine r_r (ra_tmp (is_sc rfl) ra_nil) (by exact (is_sc rfl)) (by exact rfl) sub_no ?_
  rfl


-- pub-tallysheet/laws.FnEven
theorem pf_FnEvenD (n m d : Int) (h : sixV (clampI n) = num m d) (hs : Six (clampI n) m d) (hg : (99999999999 < (2 * awayI m (2 * d)) ∨ (2 * awayI m (2 * d)) < -99999999999)) : PF Tryz.prog G 4 [i64 n] (bl true) := by
  have hp0 : PF Tryz.prog G 11 [i64 n] (num m d).d := by
    have := pf_argPart (G := G) n
    rw [h] at this; exact this
  have hag := pf_agreesD (G := G) 12 [69, 86, 69, 78] [⟨1, m, d, []⟩] (by simp) (by simp) doubt (by have := pf_Call_EVEN (G := G) m d _ hs; rw [intV_doubt hg] at this; exact this) rfl (pf_doubtP doubt (by simp [doubt]))
  refine PC.intro rfl Tryz.func4 rfl (Nat.le_of_ble_eq_true rfl) rfl ?_
  refine w_seq (w_reg (s_q rfl rfl (q_mv (.inr rfl) (is_sc rfl)) ?_))
  refine s_nil (n_n (w_seq (w_reg (s_q rfl rfl (q_mv (.inl rfl) (is_sc rfl)) ?_))))
  refine s_q rfl rfl (q_call rfl rfl rfl rfl hp0) ?_
  refine s_q rfl rfl (q_bs rfl (pt_cons (by first | exact (rfl : _ = D.agg [_, _, _, _, _]) | exact rfl) pt_nil) (by decide) (by decide) (by exact (rfl : _ = some [_, _, _, _, _])) (by exact (rfl : _ = [_, _, _, _, _])) (by exact rfl) (by exact rfl)) ?_
  refine s_q rfl rfl (q_call rfl rfl rfl rfl hag) ?_
  refine s_q rfl rfl (q_mv (.inr rfl) (is_sc rfl)) ?_
  refine s_nil (n_n (w_ret ?_))
  -- end 0
  refine r_r (ra_tmp (is_sc rfl) ra_nil) (by exact (is_sc rfl)) (by exact rfl) sub_no ?_
  rfl


-- pub-tallysheet/laws.FnEven
theorem pf_FnEvenN (n m d : Int) (h : sixV (clampI n) = num m d) (hs : Six (clampI n) m d) (hg : ¬ (99999999999 < (2 * awayI m (2 * d)) ∨ (2 * awayI m (2 * d)) < -99999999999)) : PF Tryz.prog G 4 [i64 n] (bl true) := by
  have hp0 : PF Tryz.prog G 11 [i64 n] (num m d).d := by
    have := pf_argPart (G := G) n
    rw [h] at this; exact this
  obtain ⟨q, hq, hx⟩ := ofSix hs
  have ha := pf_all (G := G) [num m d] (by simp) (fun _ => iNum q) (fun v hv => by rw [List.mem_singleton.1 hv]; exact pf_ofN m d q hq)
  obtain ⟨r, hr, hi⟩ := impl_EVEN (G := G) (bits_lt hq) hx hs
  have hs2 : Six ((2 * awayI m (2 * d)) * 16) (2 * awayI m (2 * d)) 1 := sixWhole (by omega)
  obtain ⟨q2, hq2, hx2⟩ := ofSix hs2
  have hsm := pf_same (G := G) 1 1 r q2 [] [] (num (2 * awayI m (2 * d)) 1) (pf_ofN _ _ q2 hq2)
  rw [same_six hr hx2] at hsm
  have hag := pf_agreesS (G := G) 12 [69, 86, 69, 78] [⟨1, m, d, []⟩] (by simp) (by simp) (num (2 * awayI m (2 * d)) 1) (by have := pf_Call_EVEN (G := G) m d _ hs; rw [intV_num hg] at this; exact this) rfl (pf_doubtP (num (2 * awayI m (2 * d)) 1) (by simp [num, errV])) [iNum q] (iNum r) ha hi hsm
  refine PC.intro rfl Tryz.func4 rfl (Nat.le_of_ble_eq_true rfl) rfl ?_
  refine w_seq (w_reg (s_q rfl rfl (q_mv (.inr rfl) (is_sc rfl)) ?_))
  refine s_nil (n_n (w_seq (w_reg (s_q rfl rfl (q_mv (.inl rfl) (is_sc rfl)) ?_))))
  refine s_q rfl rfl (q_call rfl rfl rfl rfl hp0) ?_
  refine s_q rfl rfl (q_bs rfl (pt_cons (by first | exact (rfl : _ = D.agg [_, _, _, _, _]) | exact rfl) pt_nil) (by decide) (by decide) (by exact (rfl : _ = some [_, _, _, _, _])) (by exact (rfl : _ = [_, _, _, _, _])) (by exact rfl) (by exact rfl)) ?_
  refine s_q rfl rfl (q_call rfl rfl rfl rfl hag) ?_
  refine s_q rfl rfl (q_mv (.inr rfl) (is_sc rfl)) ?_
  refine s_nil (n_n (w_ret ?_))
  -- end 0
  refine r_r (ra_tmp (is_sc rfl) ra_nil) (by exact (is_sc rfl)) (by exact rfl) sub_no ?_
  rfl


theorem pf_FnEven (n : Int) : PF Tryz.prog G 4 [i64 n] (bl true) := by
  rcases sixV_cases (clampI n) with h | ⟨m, d, h, hs⟩
  · exact pf_FnEvenQ n h
  · by_cases hg : (99999999999 < (2 * awayI m (2 * d)) ∨ (2 * awayI m (2 * d)) < -99999999999)
    · exact pf_FnEvenD n m d h hs hg
    · exact pf_FnEvenN n m d h hs hg

end Go.Proofs.YtjobmjfdlkjaoaaGreatDoor.Zz
