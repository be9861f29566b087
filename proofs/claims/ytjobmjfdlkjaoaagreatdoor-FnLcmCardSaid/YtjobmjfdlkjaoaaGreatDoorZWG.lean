/- Walks of the functions, printed by program: each theorem says what one function answers. -/
import Derived.Test.YtjobmjfdlkjaoaaGreatDoorZWF
namespace Go.Proofs.YtjobmjfdlkjaoaaGreatDoor.Zz
open Go.Abs
set_option maxRecDepth 100000
set_option linter.unusedVariables false
set_option linter.unusedSimpArgs false
set_option maxHeartbeats 4000000
variable {G : Nat → D}

theorem pf_doubtT (r : List U) (h : r.length < 1000000000) (hk : ∀ u ∈ r, ¬ u.kind = 5) : PF Tryz.prog G 20 [(tabV [r]).d] (bl ((r.map U.v).any (isK 6))) := by
  have e : flatV [tabV [r]] = r.map U.v := by rw [flatV_one]; simp [tabV]
  have hO : Ok [tabV [r]] := ⟨by simp, by rw [e]; simpa using h, fun v hv _ => by
    rw [List.mem_singleton.1 hv]
    exact ⟨by simp [tabV], fun x hx => by rw [List.mem_singleton.1 hx]; exact ⟨h, hk⟩⟩⟩
  have := pf_doubtful_step (G := G) (tabV [r]) (flatV [tabV [r]]) hO.flat (pf_flat [tabV [r]] hO)
  rw [e] at this; exact this
theorem pf_doubtP (v : V) (hk : ¬ v.kind = 5) : PF Tryz.prog G 20 [v.d] (bl (isK 6 v)) := by
  have := pf_doubtful_step (G := G) v [v] (by simp) (pf_flatP [v] (by simp) (by simpa using hk))
  simpa using this


-- pub-tallysheet/laws.agrees
theorem pf_agreesT (f : FuncId) [FN Tryz.prog f] (nm : List UInt8) (us : List U) (hl : us.length < 1000000000) (hk : ∀ u ∈ us, ¬ u.kind = 5) (want : V) (hc : PF Tryz.prog G 19 [st nm, lstU us] want.d) (hd : (us.map U.v).any (isK 6) = true) : PF Tryz.prog G 9 [.fn f [] [], st nm, lstU us] (bl true) := by
  have hdt := pf_doubtT (G := G) us hl hk
  rw [hd] at hdt
  refine PC.intro rfl Tryz.func9 rfl (Nat.le_of_ble_eq_true rfl) rfl ?_
  refine w_seq (w_reg (s_q rfl rfl (q_mv (.inr rfl) (is_sc rfl)) ?_))
  refine s_nil (n_n (w_seq (w_reg (s_q rfl rfl (q_mv (.inl rfl) (is_sc rfl)) ?_))))
  refine s_q rfl rfl (q_mv (.inl rfl) (by first | exact is_im rfl | exact is_gs rfl | exact is_lit rfl | exact is_ms rfl | exact is_sc rfl | exact rfl)) ?_
  refine s_q rfl rfl (q_call rfl rfl rfl rfl hc) ?_
  refine s_s rfl rfl (as_alloc0 (id := 0) rfl rfl (by exact (rfl : _ = [_, _, _, _, _]))) ?_
  refine s_u rfl rfl (as_st rfl rfl (by first | exact (rfl : _ = D.agg [_, _, _, _, _]) | exact rfl) rfl (by exact rfl) (by exact rfl) (by exact Nat.le_of_ble_eq_true rfl) (by exact (rfl : _ = [_, _, _, _, _]))) ?_
  refine s_nil (n_n (w_seq (w_seq (w_reg (s_q rfl rfl (q_mv (.inl rfl) (by first | exact is_im rfl | exact is_gs rfl | exact is_lit rfl | exact is_ms rfl | exact is_sc rfl | exact rfl)) ?_)))))
  refine s_q rfl rfl (q_bs rfl (pt_cons (by first | exact is_im rfl | exact is_gs rfl | exact is_lit rfl | exact is_ms rfl | exact is_sc rfl | exact rfl) pt_nil) (by decide) (by decide) (by exact (rfl : _ = some [_])) (by exact (rfl : _ = [_])) (by exact rfl) (by exact rfl)) ?_
  refine s_q rfl rfl (q_call rfl rfl rfl rfl (pf_table [us])) ?_
  refine s_q rfl rfl (q_call rfl rfl rfl rfl hdt) ?_
  refine s_q rfl rfl (q_mv (.inl rfl) (is_sc rfl)) ?_
  refine s_off rfl rfl ?_
  refine s_off rfl rfl ?_
  refine s_q rfl rfl (q_pickT rfl rfl (is_sc rfl)) ?_
  refine s_nil (n_n (w_ifT rfl (w_seq (w_reg (s_q rfl rfl (q_mv (.inr rfl) (is_sc rfl)) ?_)))))
  refine s_nil (n_n (w_ret (n_r ?_)))
  -- end 0
  refine r_r (ra_tmp (is_sc rfl) ra_nil) (by exact (is_sc rfl)) (by exact rfl) sub_no ?_
  rfl


-- pub-tallysheet/laws.agrees
theorem pf_agreesD (f : FuncId) [FN Tryz.prog f] (nm : List UInt8) (us : List U) (hl : us.length < 1000000000) (hk : ∀ u ∈ us, ¬ u.kind = 5) (want : V) (hc : PF Tryz.prog G 19 [st nm, lstU us] want.d) (hd : (us.map U.v).any (isK 6) = false) (hw : PF Tryz.prog G 20 [want.d] (bl true)) : PF Tryz.prog G 9 [.fn f [] [], st nm, lstU us] (bl true) := by
  have hdt := pf_doubtT (G := G) us hl hk
  rw [hd] at hdt
  refine PC.intro rfl Tryz.func9 rfl (Nat.le_of_ble_eq_true rfl) rfl ?_
  refine w_seq (w_reg (s_q rfl rfl (q_mv (.inr rfl) (is_sc rfl)) ?_))
  refine s_nil (n_n (w_seq (w_reg (s_q rfl rfl (q_mv (.inl rfl) (is_sc rfl)) ?_))))
  refine s_q rfl rfl (q_mv (.inl rfl) (by first | exact is_im rfl | exact is_gs rfl | exact is_lit rfl | exact is_ms rfl | exact is_sc rfl | exact rfl)) ?_
  refine s_q rfl rfl (q_call rfl rfl rfl rfl hc) ?_
  refine s_s rfl rfl (as_alloc0 (id := 0) rfl rfl (by exact (rfl : _ = [_, _, _, _, _]))) ?_
  refine s_u rfl rfl (as_st rfl rfl (by first | exact (rfl : _ = D.agg [_, _, _, _, _]) | exact rfl) rfl (by exact rfl) (by exact rfl) (by exact Nat.le_of_ble_eq_true rfl) (by exact (rfl : _ = [_, _, _, _, _]))) ?_
  refine s_nil (n_n (w_seq (w_seq (w_reg (s_q rfl rfl (q_mv (.inl rfl) (by first | exact is_im rfl | exact is_gs rfl | exact is_lit rfl | exact is_ms rfl | exact is_sc rfl | exact rfl)) ?_)))))
  refine s_q rfl rfl (q_bs rfl (pt_cons (by first | exact is_im rfl | exact is_gs rfl | exact is_lit rfl | exact is_ms rfl | exact is_sc rfl | exact rfl) pt_nil) (by decide) (by decide) (by exact (rfl : _ = some [_])) (by exact (rfl : _ = [_])) (by exact rfl) (by exact rfl)) ?_
  refine s_q rfl rfl (q_call rfl rfl rfl rfl (pf_table [us])) ?_
  refine s_q rfl rfl (q_call rfl rfl rfl rfl hdt) ?_
  refine s_q rfl rfl (q_mv (.inl rfl) (is_sc rfl)) ?_
  refine s_q rfl rfl (q_load rfl rfl (by exact (rfl : _ = some (D.agg [_, _, _, _, _])))) ?_
  refine s_q rfl rfl (q_call rfl rfl rfl rfl hw) ?_
  refine s_q rfl rfl (q_pickF rfl rfl (is_sc rfl)) ?_
  refine s_nil (n_n (w_ifT rfl (w_seq (w_reg (s_q rfl rfl (q_mv (.inr rfl) (is_sc rfl)) ?_)))))
  refine s_nil (n_n (w_ret (n_r ?_)))
  -- end 0
  refine r_r (ra_tmp (is_sc rfl) ra_nil) (by exact (is_sc rfl)) (by exact rfl) sub_no ?_
  rfl


-- pub-tallysheet/laws.agrees
theorem pf_agreesS (f : FuncId) [FN Tryz.prog f] (nm : List UInt8) (us : List U) (hl : us.length < 1000000000) (hk : ∀ u ∈ us, ¬ u.kind = 5) (want : V) (hc : PF Tryz.prog G 19 [st nm, lstU us] want.d) (hd : (us.map U.v).any (isK 6) = false) (hw : PF Tryz.prog G 20 [want.d] (bl false)) (ivs : List IV) (res : IV) (ha : PF Tryz.prog G 23 [lstU us] (ilst ivs)) (hi : PF Tryz.prog G f [ilst ivs] res.d) (hs : PF Tryz.prog G 22 [res.d, want.d] (bl true)) : PF Tryz.prog G 9 [.fn f [] [], st nm, lstU us] (bl true) := by
  have hdt := pf_doubtT (G := G) us hl hk
  rw [hd] at hdt
  refine PC.intro rfl Tryz.func9 rfl (Nat.le_of_ble_eq_true rfl) rfl ?_
  refine w_seq (w_reg (s_q rfl rfl (q_mv (.inr rfl) (is_sc rfl)) ?_))
  refine s_nil (n_n (w_seq (w_reg (s_q rfl rfl (q_mv (.inl rfl) (is_sc rfl)) ?_))))
  refine s_q rfl rfl (q_mv (.inl rfl) (by first | exact is_im rfl | exact is_gs rfl | exact is_lit rfl | exact is_ms rfl | exact is_sc rfl | exact rfl)) ?_
  refine s_q rfl rfl (q_call rfl rfl rfl rfl hc) ?_
  refine s_s rfl rfl (as_alloc0 (id := 0) rfl rfl (by exact (rfl : _ = [_, _, _, _, _]))) ?_
  refine s_u rfl rfl (as_st rfl rfl (by first | exact (rfl : _ = D.agg [_, _, _, _, _]) | exact rfl) rfl (by exact rfl) (by exact rfl) (by exact Nat.le_of_ble_eq_true rfl) (by exact (rfl : _ = [_, _, _, _, _]))) ?_
  refine s_nil (n_n (w_seq (w_seq (w_reg (s_q rfl rfl (q_mv (.inl rfl) (by first | exact is_im rfl | exact is_gs rfl | exact is_lit rfl | exact is_ms rfl | exact is_sc rfl | exact rfl)) ?_)))))
  refine s_q rfl rfl (q_bs rfl (pt_cons (by first | exact is_im rfl | exact is_gs rfl | exact is_lit rfl | exact is_ms rfl | exact is_sc rfl | exact rfl) pt_nil) (by decide) (by decide) (by exact (rfl : _ = some [_])) (by exact (rfl : _ = [_])) (by exact rfl) (by exact rfl)) ?_
  refine s_q rfl rfl (q_call rfl rfl rfl rfl (pf_table [us])) ?_
  refine s_q rfl rfl (q_call rfl rfl rfl rfl hdt) ?_
  refine s_q rfl rfl (q_mv (.inl rfl) (is_sc rfl)) ?_
  refine s_q rfl rfl (q_load rfl rfl (by exact (rfl : _ = some (D.agg [_, _, _, _, _])))) ?_
  refine s_q rfl rfl (q_call rfl rfl rfl rfl hw) ?_
  refine s_q rfl rfl (q_pickF rfl rfl (is_sc rfl)) ?_
  refine s_nil (n_n (w_ifF rfl (w_skip (n_n (w_seq (w_draw [0, 0, 2, 7, 0, 31, 63] [0, 0, 0, 0, 1, 0, 0] rfl ?_))))))
  refine d_q0 rfl rfl (q_mv (.inl rfl) (by first | exact is_fn rfl | exact rfl)) ?_
  refine d_q0 rfl rfl (q_mv (.inl rfl) (by first | exact is_im rfl | exact is_gs rfl | exact is_lit rfl | exact is_ms rfl | exact is_sc rfl | exact rfl)) ?_
  refine d_q0 rfl rfl (q_call rfl rfl rfl rfl ha) ?_
  refine d_q0 rfl rfl (q_call rfl rfl rfl rfl hi) ?_
  refine d_q1 rfl rfl (q_load rfl rfl (by exact (rfl : _ = some (D.agg [_, _, _, _, _])))) ?_
  refine d_q0 rfl rfl (q_call rfl rfl rfl rfl hs) ?_
  refine d_q0 rfl rfl (q_mv (.inr rfl) (is_sc rfl)) ?_
  refine d_nil (n_n (w_ret ?_))
  -- end 0
  refine r_r (ra_tmp (is_sc rfl) ra_nil) (by exact (is_sc rfl)) (by exact rfl) sub_no ?_
  rfl

end Go.Proofs.YtjobmjfdlkjaoaaGreatDoor.Zz
