/- Walks of the functions, printed by program: each theorem says what one function answers. -/
import Derived.Test.YtfbjpaolingfdaaGreatDoorZLib
import Derived.Test.YtfbjpaolingfdaaGreatDoorZW5
import Derived.Test.YtfbjpaolingfdaaGreatDoorZW6
namespace Go.Proofs.YtfbjpaolingfdaaGreatDoor.Zz
open Go.Abs
set_option maxRecDepth 100000
set_option linter.unusedVariables false
set_option linter.unusedSimpArgs false
set_option maxHeartbeats 4000000
variable {G : Nat → D}


theorem pf_doubtT (r : List U) (h : r.length < 1000000000) (hk : ∀ u ∈ r, ¬ u.kind = 5) : PF Tryz.prog G 18 [(tabV [r]).d] (bl ((r.map U.v).any (isK 6))) := by
  have e : flatV [tabV [r]] = r.map U.v := by rw [flatV_one]; simp [tabV]
  have hO : Ok [tabV [r]] := ⟨by simp, by rw [e]; simpa using h, fun v hv _ => by
    rw [List.mem_singleton.1 hv]
    exact ⟨by simp [tabV], fun x hx => by rw [List.mem_singleton.1 hx]; exact ⟨h, hk⟩⟩⟩
  have := pf_doubtful_step (G := G) (tabV [r]) (flatV [tabV [r]]) hO.flat (pf_flat [tabV [r]] hO)
  rw [e] at this; exact this
theorem pf_doubtP (v : V) (hk : ¬ v.kind = 5) : PF Tryz.prog G 18 [v.d] (bl (isK 6 v)) := by
  have := pf_doubtful_step (G := G) v [v] (by simp) (pf_flatP [v] (by simp) (by simpa using hk))
  simpa using this


-- pub-tallysheet/laws.agrees
theorem pf_agrees_UNICHARS (n : Int) (h1 : 32 ≤ n) (h2 : n ≤ 126) : PF Tryz.prog G 8 [.fn 13 [] [], st [85, 78, 73, 67, 72, 65, 82], lst [(⟨1, n, 1, []⟩ : U).v]] (bl true) := by
  obtain ⟨q, hq, hx⟩ := ofNum (n := n) (by omega)
  have hcall : PF Tryz.prog G 17 [st [85, 78, 73, 67, 72, 65, 82], lst [num n 1]] (strV [UInt8.ofNat n.toNat]).d := by
    have := pf_Call_UNICHAR (G := G) n
    rw [show callUnichar n = strV [UInt8.ofNat n.toNat] by simp only [callUnichar, unicharV]; simp; rw [if_pos (by omega), if_pos (by omega)]] at this; exact this
  refine PC.intro rfl Tryz.func8 rfl (Nat.le_of_ble_eq_true rfl) rfl ?_
  refine w_seq (w_reg (s_q rfl rfl (q_mv (.inr rfl) (is_sc rfl)) ?_))
  refine s_nil (n_n (w_seq (w_reg (s_q rfl rfl (q_mv (.inl rfl) (is_sc rfl)) ?_))))
  refine s_q rfl rfl (q_mv (.inl rfl) (by first | exact is_im rfl | exact is_gs rfl | exact is_lit rfl | exact is_ms rfl | exact is_sc rfl | exact rfl)) ?_
  refine s_q rfl rfl (q_call rfl rfl rfl rfl hcall) ?_
  refine s_s rfl rfl (as_alloc0 (id := 0) rfl rfl (by exact (rfl : _ = [_, _, _, _, _]))) ?_
  refine s_u rfl rfl (as_st rfl rfl (by first | exact (rfl : _ = D.agg [_, _, _, _, _]) | exact rfl) rfl (by exact rfl) (by exact rfl) (by exact Nat.le_of_ble_eq_true rfl) (by exact (rfl : _ = [_, _, _, _, _]))) ?_
  refine s_nil (n_n (w_seq (w_seq (w_reg (s_q rfl rfl (q_mv (.inl rfl) (by first | exact is_im rfl | exact is_gs rfl | exact is_lit rfl | exact is_ms rfl | exact is_sc rfl | exact rfl)) ?_)))))
  refine s_q rfl rfl (q_bs rfl (pt_cons (by first | exact is_im rfl | exact is_gs rfl | exact is_lit rfl | exact is_ms rfl | exact is_sc rfl | exact rfl) pt_nil) (by decide) (by decide) (by exact (rfl : _ = some [_])) (by exact (rfl : _ = [_])) (by exact rfl) (by exact rfl)) ?_
  refine s_q rfl rfl (q_call rfl rfl rfl rfl (pf_table [[⟨1, n, 1, []⟩]])) ?_
  refine s_q rfl rfl (q_call rfl rfl rfl rfl (pf_doubtT [⟨1, n, 1, []⟩] (by simp only [List.length_cons, List.length_nil]; omega) (by intro u hu; simp only [List.mem_cons, List.mem_nil_iff, or_false] at hu; subst hu; simp))) ?_
  refine s_q rfl rfl (q_mv (.inl rfl) (is_sc rfl)) ?_
  refine s_q rfl rfl (q_load rfl rfl (by exact (rfl : _ = some (D.agg [_, _, _, _, _])))) ?_
  refine s_q rfl rfl (q_call rfl rfl rfl rfl (pf_doubtP (strV [UInt8.ofNat n.toNat]) (by simp [strV]))) ?_
  refine s_q rfl rfl (q_pickF rfl rfl (is_sc rfl)) ?_
  refine s_nil (n_n (w_ifF rfl (w_skip (n_n (w_seq (w_draw [0, 0, 2, 7, 0, 31, 63] [0, 0, 0, 0, 1, 0, 0] rfl ?_))))))
  refine d_q0 rfl rfl (q_mv (.inl rfl) (by first | exact is_fn rfl | exact rfl)) ?_
  refine d_q0 rfl rfl (q_mv (.inl rfl) (by first | exact is_im rfl | exact is_gs rfl | exact is_lit rfl | exact is_ms rfl | exact is_sc rfl | exact rfl)) ?_
  refine d_q0 rfl rfl (q_call rfl rfl rfl rfl (pf_all [num n 1] (by simp) (fun _ => iNum q) (fun v hv => by rw [List.mem_singleton.1 hv]; exact pf_ofN n 1 q hq))) ?_
  refine d_q0 rfl rfl (q_call rfl rfl rfl rfl (pf_ImplUNICHARS q n hx h1 h2)) ?_
  refine d_q1 rfl rfl (q_load rfl rfl (by exact (rfl : _ = some (D.agg [_, _, _, _, _])))) ?_
  refine d_q0 rfl rfl (q_call rfl rfl rfl rfl (pf_same 2 2 0 0 [UInt8.ofNat n.toNat] [UInt8.ofNat n.toNat] (strV [UInt8.ofNat n.toNat]) (pf_ofS [UInt8.ofNat n.toNat]))) ?_
  refine d_q0 rfl rfl (q_mv (.inr rfl) (is_sc rfl)) ?_
  refine d_nil (n_n (w_ret ?_))
  -- end 0
  refine r_r (ra_tmp (is_sc rfl) ra_nil) (by exact (is_sc rfl)) (by exact rfl) sub_no ?_
  show bl (sameI _ _) = bl true
  rw [show sameI ⟨2, 0, [UInt8.ofNat n.toNat], []⟩ ⟨2, 0, [UInt8.ofNat n.toNat], []⟩ = true by simp [sameI]; decide]


-- pub-tallysheet/laws.agrees
theorem pf_agrees_UNICHARE (n : Int) (h0 : -99999999999 ≤ n) (h1 : n ≤ 0) : PF Tryz.prog G 8 [.fn 13 [] [], st [85, 78, 73, 67, 72, 65, 82], lst [(⟨1, n, 1, []⟩ : U).v]] (bl true) := by
  obtain ⟨q, hq, hx⟩ := ofNum (n := n) (by omega)
  have hcall : PF Tryz.prog G 17 [st [85, 78, 73, 67, 72, 65, 82], lst [num n 1]] (errV [35, 86, 65, 76, 85, 69, 33]).d := by
    have := pf_Call_UNICHAR (G := G) n
    rw [show callUnichar n = errV [35, 86, 65, 76, 85, 69, 33] by simp only [callUnichar, unicharV]; simp; rw [if_pos (by omega), if_neg (by omega), if_pos h1]] at this; exact this
  refine PC.intro rfl Tryz.func8 rfl (Nat.le_of_ble_eq_true rfl) rfl ?_
  refine w_seq (w_reg (s_q rfl rfl (q_mv (.inr rfl) (is_sc rfl)) ?_))
  refine s_nil (n_n (w_seq (w_reg (s_q rfl rfl (q_mv (.inl rfl) (is_sc rfl)) ?_))))
  refine s_q rfl rfl (q_mv (.inl rfl) (by first | exact is_im rfl | exact is_gs rfl | exact is_lit rfl | exact is_ms rfl | exact is_sc rfl | exact rfl)) ?_
  refine s_q rfl rfl (q_call rfl rfl rfl rfl hcall) ?_
  refine s_s rfl rfl (as_alloc0 (id := 0) rfl rfl (by exact (rfl : _ = [_, _, _, _, _]))) ?_
  refine s_u rfl rfl (as_st rfl rfl (by first | exact (rfl : _ = D.agg [_, _, _, _, _]) | exact rfl) rfl (by exact rfl) (by exact rfl) (by exact Nat.le_of_ble_eq_true rfl) (by exact (rfl : _ = [_, _, _, _, _]))) ?_
  refine s_nil (n_n (w_seq (w_seq (w_reg (s_q rfl rfl (q_mv (.inl rfl) (by first | exact is_im rfl | exact is_gs rfl | exact is_lit rfl | exact is_ms rfl | exact is_sc rfl | exact rfl)) ?_)))))
  refine s_q rfl rfl (q_bs rfl (pt_cons (by first | exact is_im rfl | exact is_gs rfl | exact is_lit rfl | exact is_ms rfl | exact is_sc rfl | exact rfl) pt_nil) (by decide) (by decide) (by exact (rfl : _ = some [_])) (by exact (rfl : _ = [_])) (by exact rfl) (by exact rfl)) ?_
  refine s_q rfl rfl (q_call rfl rfl rfl rfl (pf_table [[⟨1, n, 1, []⟩]])) ?_
  refine s_q rfl rfl (q_call rfl rfl rfl rfl (pf_doubtT [⟨1, n, 1, []⟩] (by simp only [List.length_cons, List.length_nil]; omega) (by intro u hu; simp only [List.mem_cons, List.mem_nil_iff, or_false] at hu; subst hu; simp))) ?_
  refine s_q rfl rfl (q_mv (.inl rfl) (is_sc rfl)) ?_
  refine s_q rfl rfl (q_load rfl rfl (by exact (rfl : _ = some (D.agg [_, _, _, _, _])))) ?_
  refine s_q rfl rfl (q_call rfl rfl rfl rfl (pf_doubtP (errV [35, 86, 65, 76, 85, 69, 33]) (by simp [errV]))) ?_
  refine s_q rfl rfl (q_pickF rfl rfl (is_sc rfl)) ?_
  refine s_nil (n_n (w_ifF rfl (w_skip (n_n (w_seq (w_draw [0, 0, 2, 7, 0, 31, 63] [0, 0, 0, 0, 1, 0, 0] rfl ?_))))))
  refine d_q0 rfl rfl (q_mv (.inl rfl) (by first | exact is_fn rfl | exact rfl)) ?_
  refine d_q0 rfl rfl (q_mv (.inl rfl) (by first | exact is_im rfl | exact is_gs rfl | exact is_lit rfl | exact is_ms rfl | exact is_sc rfl | exact rfl)) ?_
  refine d_q0 rfl rfl (q_call rfl rfl rfl rfl (pf_all [num n 1] (by simp) (fun _ => iNum q) (fun v hv => by rw [List.mem_singleton.1 hv]; exact pf_ofN n 1 q hq))) ?_
  refine d_q0 rfl rfl (q_call rfl rfl rfl rfl (pf_ImplUNICHARE q n hx h1)) ?_
  refine d_q1 rfl rfl (q_load rfl rfl (by exact (rfl : _ = some (D.agg [_, _, _, _, _])))) ?_
  refine d_q0 rfl rfl (q_call rfl rfl rfl rfl (pf_same 4 4 0 0 [35, 86, 65, 76, 85, 69, 33] [35, 86, 65, 76, 85, 69, 33] (errV [35, 86, 65, 76, 85, 69, 33]) (pf_ofE [35, 86, 65, 76, 85, 69, 33]))) ?_
  refine d_q0 rfl rfl (q_mv (.inr rfl) (is_sc rfl)) ?_
  refine d_nil (n_n (w_ret ?_))
  -- end 0
  refine r_r (ra_tmp (is_sc rfl) ra_nil) (by exact (is_sc rfl)) (by exact rfl) sub_no ?_
  show bl (sameI _ _) = bl true
  rw [show sameI ⟨4, 0, [35, 86, 65, 76, 85, 69, 33], []⟩ ⟨4, 0, [35, 86, 65, 76, 85, 69, 33], []⟩ = true by simp [sameI]; decide]


-- pub-tallysheet/laws.agrees
theorem pf_agrees_UNICHARD (n : Int) (h : ¬ (32 ≤ n ∧ n ≤ 126)) (h1 : 0 < n) : PF Tryz.prog G 8 [.fn 13 [] [], st [85, 78, 73, 67, 72, 65, 82], lst [(⟨1, n, 1, []⟩ : U).v]] (bl true) := by
  have hcall : PF Tryz.prog G 17 [st [85, 78, 73, 67, 72, 65, 82], lst [num n 1]] (doubt).d := by
    have := pf_Call_UNICHAR (G := G) n
    rw [show callUnichar n = doubt by simp only [callUnichar, unicharV]; (repeat' split) <;> first | rfl | (exfalso; omega)] at this; exact this
  refine PC.intro rfl Tryz.func8 rfl (Nat.le_of_ble_eq_true rfl) rfl ?_
  refine w_seq (w_reg (s_q rfl rfl (q_mv (.inr rfl) (is_sc rfl)) ?_))
  refine s_nil (n_n (w_seq (w_reg (s_q rfl rfl (q_mv (.inl rfl) (is_sc rfl)) ?_))))
  refine s_q rfl rfl (q_mv (.inl rfl) (by first | exact is_im rfl | exact is_gs rfl | exact is_lit rfl | exact is_ms rfl | exact is_sc rfl | exact rfl)) ?_
  refine s_q rfl rfl (q_call rfl rfl rfl rfl hcall) ?_
  refine s_s rfl rfl (as_alloc0 (id := 0) rfl rfl (by exact (rfl : _ = [_, _, _, _, _]))) ?_
  refine s_u rfl rfl (as_st rfl rfl (by first | exact (rfl : _ = D.agg [_, _, _, _, _]) | exact rfl) rfl (by exact rfl) (by exact rfl) (by exact Nat.le_of_ble_eq_true rfl) (by exact (rfl : _ = [_, _, _, _, _]))) ?_
  refine s_nil (n_n (w_seq (w_seq (w_reg (s_q rfl rfl (q_mv (.inl rfl) (by first | exact is_im rfl | exact is_gs rfl | exact is_lit rfl | exact is_ms rfl | exact is_sc rfl | exact rfl)) ?_)))))
  refine s_q rfl rfl (q_bs rfl (pt_cons (by first | exact is_im rfl | exact is_gs rfl | exact is_lit rfl | exact is_ms rfl | exact is_sc rfl | exact rfl) pt_nil) (by decide) (by decide) (by exact (rfl : _ = some [_])) (by exact (rfl : _ = [_])) (by exact rfl) (by exact rfl)) ?_
  refine s_q rfl rfl (q_call rfl rfl rfl rfl (pf_table [[⟨1, n, 1, []⟩]])) ?_
  refine s_q rfl rfl (q_call rfl rfl rfl rfl (pf_doubtT [⟨1, n, 1, []⟩] (by simp only [List.length_cons, List.length_nil]; omega) (by intro u hu; simp only [List.mem_cons, List.mem_nil_iff, or_false] at hu; subst hu; simp))) ?_
  refine s_q rfl rfl (q_mv (.inl rfl) (is_sc rfl)) ?_
  refine s_q rfl rfl (q_load rfl rfl (by exact (rfl : _ = some (D.agg [_, _, _, _, _])))) ?_
  refine s_q rfl rfl (q_call rfl rfl rfl rfl (pf_doubtP doubt (by simp [doubt]))) ?_
  refine s_q rfl rfl (q_pickF rfl rfl (is_sc rfl)) ?_
  refine s_nil (n_n (w_ifT rfl (w_seq (w_reg (s_q rfl rfl (q_mv (.inr rfl) (is_sc rfl)) ?_)))))
  refine s_nil (n_n (w_ret (n_r ?_)))
  -- end 0
  refine r_r (ra_tmp (is_sc rfl) ra_nil) (by exact (is_sc rfl)) (by exact rfl) sub_no ?_
  rfl


-- pub-tallysheet/laws.agrees
theorem pf_agrees_UNICHARQ  : PF Tryz.prog G 8 [.fn 13 [] [], st [85, 78, 73, 67, 72, 65, 82], lst [(⟨6, 0, 0, []⟩ : U).v]] (bl true) := by
  skip
  refine PC.intro rfl Tryz.func8 rfl (Nat.le_of_ble_eq_true rfl) rfl ?_
  refine w_seq (w_reg (s_q rfl rfl (q_mv (.inr rfl) (is_sc rfl)) ?_))
  refine s_nil (n_n (w_seq (w_reg (s_q rfl rfl (q_mv (.inl rfl) (is_sc rfl)) ?_))))
  refine s_q rfl rfl (q_mv (.inl rfl) (by first | exact is_im rfl | exact is_gs rfl | exact is_lit rfl | exact is_ms rfl | exact is_sc rfl | exact rfl)) ?_
  refine s_q rfl rfl (q_call rfl rfl rfl rfl pf_Call_UNICHARQ) ?_
  refine s_s rfl rfl (as_alloc0 (id := 0) rfl rfl (by exact (rfl : _ = [_, _, _, _, _]))) ?_
  refine s_u rfl rfl (as_st rfl rfl (by first | exact (rfl : _ = D.agg [_, _, _, _, _]) | exact rfl) rfl (by exact rfl) (by exact rfl) (by exact Nat.le_of_ble_eq_true rfl) (by exact (rfl : _ = [_, _, _, _, _]))) ?_
  refine s_nil (n_n (w_seq (w_seq (w_reg (s_q rfl rfl (q_mv (.inl rfl) (by first | exact is_im rfl | exact is_gs rfl | exact is_lit rfl | exact is_ms rfl | exact is_sc rfl | exact rfl)) ?_)))))
  refine s_q rfl rfl (q_bs rfl (pt_cons (by first | exact is_im rfl | exact is_gs rfl | exact is_lit rfl | exact is_ms rfl | exact is_sc rfl | exact rfl) pt_nil) (by decide) (by decide) (by exact (rfl : _ = some [_])) (by exact (rfl : _ = [_])) (by exact rfl) (by exact rfl)) ?_
  refine s_q rfl rfl (q_call rfl rfl rfl rfl (pf_table [[⟨6, 0, 0, []⟩]])) ?_
  refine s_q rfl rfl (q_call rfl rfl rfl rfl (pf_doubtT [⟨6, 0, 0, []⟩] (by simp only [List.length_cons, List.length_nil]; omega) (by intro u hu; simp only [List.mem_cons, List.mem_nil_iff, or_false] at hu; subst hu; simp))) ?_
  refine s_q rfl rfl (q_mv (.inl rfl) (is_sc rfl)) ?_
  refine s_off rfl rfl ?_
  refine s_off rfl rfl ?_
  refine s_q rfl rfl (q_pickT rfl rfl (is_sc rfl)) ?_
  refine s_nil (n_n (w_ifT rfl (w_seq (w_reg (s_q rfl rfl (q_mv (.inr rfl) (is_sc rfl)) ?_)))))
  refine s_nil (n_n (w_ret (n_r ?_)))
  -- end 0
  refine r_r (ra_tmp (is_sc rfl) ra_nil) (by exact (is_sc rfl)) (by exact rfl) sub_no ?_
  rfl


-- pub-tallysheet/laws.FnUnichar
theorem pf_FnUnicharS (n : Int) (h1 : 32 ≤ n) (h2 : n ≤ 126) : PF Tryz.prog G 4 [i64 n] (bl true) := by
  have hg : ¬ (99999999999 < n ∨ n < -99999999999) := by omega
  have hw : PF Tryz.prog G 14 [i64 n] (num n 1).d := by
    have := pf_whole (G := G) n
    rw [show intV n = num n 1 from if_neg hg] at this; exact this
  refine PC.intro rfl Tryz.func4 rfl (Nat.le_of_ble_eq_true rfl) rfl ?_
  refine w_seq (w_reg (s_q rfl rfl (q_mv (.inr rfl) (is_sc rfl)) ?_))
  refine s_nil (n_n (w_seq (w_reg (s_q rfl rfl (q_mv (.inl rfl) (is_sc rfl)) ?_))))
  refine s_q rfl rfl (q_call rfl rfl rfl rfl hw) ?_
  refine s_q rfl rfl (q_bs rfl (pt_cons (by first | exact (rfl : _ = D.agg [_, _, _, _, _]) | exact rfl) pt_nil) (by decide) (by decide) (by exact (rfl : _ = some [_, _, _, _, _])) (by exact (rfl : _ = [_, _, _, _, _])) (by exact rfl) (by exact rfl)) ?_
  refine s_q rfl rfl (q_call rfl rfl rfl rfl (pf_agrees_UNICHARS n h1 h2)) ?_
  refine s_q rfl rfl (q_mv (.inr rfl) (is_sc rfl)) ?_
  refine s_nil (n_n (w_ret ?_))
  -- end 0
  refine r_r (ra_tmp (is_sc rfl) ra_nil) (by exact (is_sc rfl)) (by exact rfl) sub_no ?_
  rfl


-- pub-tallysheet/laws.FnUnichar
theorem pf_FnUnicharE (n : Int) (h0 : -99999999999 ≤ n) (h1 : n ≤ 0) : PF Tryz.prog G 4 [i64 n] (bl true) := by
  have hg : ¬ (99999999999 < n ∨ n < -99999999999) := by omega
  have hw : PF Tryz.prog G 14 [i64 n] (num n 1).d := by
    have := pf_whole (G := G) n
    rw [show intV n = num n 1 from if_neg hg] at this; exact this
  refine PC.intro rfl Tryz.func4 rfl (Nat.le_of_ble_eq_true rfl) rfl ?_
  refine w_seq (w_reg (s_q rfl rfl (q_mv (.inr rfl) (is_sc rfl)) ?_))
  refine s_nil (n_n (w_seq (w_reg (s_q rfl rfl (q_mv (.inl rfl) (is_sc rfl)) ?_))))
  refine s_q rfl rfl (q_call rfl rfl rfl rfl hw) ?_
  refine s_q rfl rfl (q_bs rfl (pt_cons (by first | exact (rfl : _ = D.agg [_, _, _, _, _]) | exact rfl) pt_nil) (by decide) (by decide) (by exact (rfl : _ = some [_, _, _, _, _])) (by exact (rfl : _ = [_, _, _, _, _])) (by exact rfl) (by exact rfl)) ?_
  refine s_q rfl rfl (q_call rfl rfl rfl rfl (pf_agrees_UNICHARE n h0 h1)) ?_
  refine s_q rfl rfl (q_mv (.inr rfl) (is_sc rfl)) ?_
  refine s_nil (n_n (w_ret ?_))
  -- end 0
  refine r_r (ra_tmp (is_sc rfl) ra_nil) (by exact (is_sc rfl)) (by exact rfl) sub_no ?_
  rfl


-- pub-tallysheet/laws.FnUnichar
theorem pf_FnUnicharD (n : Int) (hg : ¬ (99999999999 < n ∨ n < -99999999999)) (h : ¬ (32 ≤ n ∧ n ≤ 126)) (h1 : 0 < n) : PF Tryz.prog G 4 [i64 n] (bl true) := by
  have hw : PF Tryz.prog G 14 [i64 n] (num n 1).d := by
    have := pf_whole (G := G) n
    rw [show intV n = num n 1 from if_neg hg] at this; exact this
  refine PC.intro rfl Tryz.func4 rfl (Nat.le_of_ble_eq_true rfl) rfl ?_
  refine w_seq (w_reg (s_q rfl rfl (q_mv (.inr rfl) (is_sc rfl)) ?_))
  refine s_nil (n_n (w_seq (w_reg (s_q rfl rfl (q_mv (.inl rfl) (is_sc rfl)) ?_))))
  refine s_q rfl rfl (q_call rfl rfl rfl rfl hw) ?_
  refine s_q rfl rfl (q_bs rfl (pt_cons (by first | exact (rfl : _ = D.agg [_, _, _, _, _]) | exact rfl) pt_nil) (by decide) (by decide) (by exact (rfl : _ = some [_, _, _, _, _])) (by exact (rfl : _ = [_, _, _, _, _])) (by exact rfl) (by exact rfl)) ?_
  refine s_q rfl rfl (q_call rfl rfl rfl rfl (pf_agrees_UNICHARD n h h1)) ?_
  refine s_q rfl rfl (q_mv (.inr rfl) (is_sc rfl)) ?_
  refine s_nil (n_n (w_ret ?_))
  -- end 0
  refine r_r (ra_tmp (is_sc rfl) ra_nil) (by exact (is_sc rfl)) (by exact rfl) sub_no ?_
  rfl


-- pub-tallysheet/laws.FnUnichar
theorem pf_FnUnicharQ (n : Int) (hg : 99999999999 < n ∨ n < -99999999999) : PF Tryz.prog G 4 [i64 n] (bl true) := by
  have hw : PF Tryz.prog G 14 [i64 n] doubt.d := by
    have := pf_whole (G := G) n
    rw [show intV n = doubt from if_pos hg] at this; exact this
  refine PC.intro rfl Tryz.func4 rfl (Nat.le_of_ble_eq_true rfl) rfl ?_
  refine w_seq (w_reg (s_q rfl rfl (q_mv (.inr rfl) (is_sc rfl)) ?_))
  refine s_nil (n_n (w_seq (w_reg (s_q rfl rfl (q_mv (.inl rfl) (is_sc rfl)) ?_))))
  refine s_q rfl rfl (q_call rfl rfl rfl rfl hw) ?_
  refine s_q rfl rfl (q_bs rfl (pt_cons (by first | exact (rfl : _ = D.agg [_, _, _, _, _]) | exact rfl) pt_nil) (by decide) (by decide) (by exact (rfl : _ = some [_, _, _, _, _])) (by exact (rfl : _ = [_, _, _, _, _])) (by exact rfl) (by exact rfl)) ?_
  refine s_q rfl rfl (q_call rfl rfl rfl rfl pf_agrees_UNICHARQ) ?_
  refine s_q rfl rfl (q_mv (.inr rfl) (is_sc rfl)) ?_
  refine s_nil (n_n (w_ret ?_))
  -- end 0
  refine r_r (ra_tmp (is_sc rfl) ra_nil) (by exact (is_sc rfl)) (by exact rfl) sub_no ?_
  rfl


theorem pf_FnUnichar (n : Int) : PF Tryz.prog G 4 [i64 n] (bl true) := by
  by_cases hg : 99999999999 < n ∨ n < -99999999999
  · exact pf_FnUnicharQ n hg
  · by_cases h1 : n ≤ 0
    · exact pf_FnUnicharE n (by omega) h1
    · by_cases h : 32 ≤ n ∧ n ≤ 126
      · exact pf_FnUnicharS n h.1 h.2
      · exact pf_FnUnicharD n hg h (by omega)

end Go.Proofs.YtfbjpaolingfdaaGreatDoor.Zz
