/- Walks of the functions, printed by program, and the logic behind them: each theorem says what one function or one step answers. -/
import Derived.Test.YtopgbalmdocboaaGreatDoorZAny
namespace Go.Proofs.YtopgbalmdocboaaGreatDoor.Zz
open Go.Abs
set_option maxRecDepth 100000
set_option linter.unusedVariables false
set_option linter.unusedSimpArgs false
set_option maxHeartbeats 4000000
variable {G : Nat → D}

-- (*pub-tallysheet/pub/excelize.formulaFuncs).ISLOGICAL
theorem pf_ISLA {f : F} {tx : List UInt8} (h : Heap) (kf k : Nat) (es : List (Nat × D)) (H : IsList h k es) (hes : es.map (·.2) = [.ifc 75 (f).d]) (hv : PF Tryz.prog G 61 [f.d] (st tx)) (h1 : PF Tryz.prog G 62 [st wTrue, st tx] (bl true)) : ACall Tryz.prog G 44 true [.hp kf 0, .hp k 0] h (fun ret _ => ret = (fBool true).d) := by
  obtain ⟨e0, rfl⟩ := el1 hes
  refine ACall.intro rfl Tryz.func44 rfl (Nat.le_of_ble_eq_true rfl) rfl ?_
  refine w_seq (w_reg (s_s rfl rfl (as_alloc0 (id := 0) rfl rfl (by exact (rfl : _ = [_, _, _, _, _, _, _, _, _, _]))) ?_))
  refine s_nil (n_n (w_seq (w_seq (w_reg (s_q rfl rfl (q_mv (.inl rfl) (by first | exact is_box rfl | exact is_hp rfl | exact is_pin rfl | exact is_sc rfl | exact rfl)) ?_)))))
  refine s_o rfl rfl (ao_callH rfl rfl rfl rfl (pf_Len _ k _ H) fun vln Hvln hvln => ?_)
  obtain ⟨rfl, rfl⟩ := hvln
  refine s_q rfl rfl (q_neq rfl rfl rfl) ?_
  refine s_nil (n_n (w_ifF rfl (w_skip (n_n (w_seq (w_reg (s_q rfl rfl (q_mv (.inl rfl) (by first | exact is_box rfl | exact is_hp rfl | exact is_pin rfl | exact is_sc rfl | exact rfl)) ?_)))))))
  refine s_o rfl rfl (ao_callH rfl rfl rfl rfl (pf_Front _ k _ H (by simp) (by simp)) fun vfr Hvfr hvfr => ?_)
  obtain ⟨e_, rfl⟩ := hvfr
  replace e_ : vfr = D.hp e0 0 := e_
  subst e_
  refine s_q rfl rfl (q_nil rfl rfl rfl) ?_
  refine s_q rfl rfl (q_field rfl rfl (by exact rfl)) ?_
  refine s_q rfl rfl (q_loadH rfl rfl (d := .ifc 75 (f).d) (by exact H.val (e0, .ifc 75 (f).d) (by simp))) ?_
  refine s_q rfl rfl (q_asr rfl rfl) ?_
  refine s_q rfl rfl (q_call rfl rfl rfl rfl hv) ?_
  refine s_q rfl rfl (q_mv (.inr rfl) (is_sc rfl)) ?_
  refine s_nil (n_n (w_seq (w_seq (w_reg (s_q rfl rfl (q_mv (.inl rfl) (is_sc rfl)) ?_)))))
  refine s_q rfl rfl (q_call rfl rfl rfl rfl h1) ?_
  refine s_q rfl rfl (q_mv (.inl rfl) (is_sc rfl)) ?_
  refine s_off rfl rfl ?_
  refine s_off rfl rfl ?_
  refine s_q rfl rfl (q_pickT rfl rfl (is_sc rfl)) ?_
  refine s_nil (n_n (w_ifT rfl (w_seq (w_reg (s_q rfl rfl (q_call rfl rfl rfl rfl (pf_newBool _)) ?_)))))
  refine s_u rfl rfl (as_st rfl rfl (by first | exact (rfl : _ = D.agg [_, _, _, _, _, _, _, _, _, _]) | exact rfl) rfl (by exact rfl) (by exact rfl) (by exact Nat.le_of_ble_eq_true rfl) (by exact (rfl : _ = [_, _, _, _, _, _, _, _, _, _]))) ?_
  refine s_nil (n_n (w_ret (n_r ?_)))
  -- end 0
  refine r_r (ra_cell (by exact (rfl : _ = some (D.agg [_, _, _, _, _, _, _, _, _, _]))) ra_nil) (by first | exact (rfl : _ = D.agg [_, _, _, _, _, _, _, _, _, _]) | exact rfl) (by exact rfl) (Sub.refl _) ?_
  rfl


-- pub-tallysheet/pub/excelize.DoorISLOGICAL
theorem pf_DoorISLOGICALA (iv : IV) (f : F) (tx : List UInt8) (hr : iv.rows = []) (hi : PF Tryz.prog G 66 [iv.d] f.d) (hv : PF Tryz.prog G 61 [f.d] (st tx)) (h1 : PF Tryz.prog G 62 [st wTrue, st tx] (bl true)) (hin : PF Tryz.prog G 27 [ilst [iv]] (ilst [iv])) (hout : PF Tryz.prog G 25 [(iBool (if true then 4607182418800017408 else 0)).d] (iBool (if true then 4607182418800017408 else 0)).d) : PF Tryz.prog G 26 [ilst [iv]] (iBool (if true then 4607182418800017408 else 0)).d := by
  refine PC.intro rfl Tryz.func26 rfl (Nat.le_of_ble_eq_true rfl) rfl ?_
  refine w_seq (w_reg (s_s rfl rfl (as_alloc0 (id := 0) rfl rfl (by exact (rfl : _ = [_, _, _, _]))) ?_))
  refine s_nil (n_n (w_seq (w_reg (s_o rfl rfl (ao_callH rfl rfl rfl rfl (pf_doorFuncs _) fun v3 Hv3 hv3 => ?_)))))
  obtain ⟨kf, rfl⟩ := hv3
  refine s_q rfl rfl (q_mv (.inl rfl) (by first | exact is_im rfl | exact is_gs rfl | exact is_lit rfl | exact is_ms rfl | exact is_sc rfl | exact rfl)) ?_
  refine s_o rfl rfl (ao_callH rfl rfl rfl rfl (pf_innerList _ [iv] (by simp only [List.length_cons, List.length_nil]; omega) (fun _ => f) (fun v hv => by rw [List.mem_singleton.1 hv]; exact hi)) fun v5 Hv5 hv5 => ?_)
  obtain ⟨kl, es, rfl, hL, hes⟩ := hv5
  refine s_o rfl rfl (ao_callH rfl rfl rfl rfl (pf_ISLA _ kf kl es hL hes hv h1) fun v6 Hv6 hv6 => ?_)
  obtain rfl := hv6
  refine s_q rfl rfl (q_call rfl rfl rfl rfl (pf_doorB _)) ?_
  refine s_u rfl rfl (as_st rfl rfl (by first | exact (rfl : _ = D.agg [_, _, _, _]) | exact rfl) rfl (by exact rfl) (by exact rfl) (by exact Nat.le_of_ble_eq_true rfl) (by exact (rfl : _ = [_, _, _, _]))) ?_
  refine s_nil (n_n (w_ret ?_))
  -- end 0
  refine r_r (ra_cell (by exact (rfl : _ = some (D.agg [_, _, _, _]))) ra_nil) (by first | exact (rfl : _ = D.agg [_, _, _, _]) | exact rfl) (by exact rfl) sub_no ?_
  rfl


-- pub-tallysheet/impl.ISLOGICAL
theorem pf_ImplISLOGICALA (iv : IV) (f : F) (tx : List UInt8) (hr : iv.rows = []) (hi : PF Tryz.prog G 66 [iv.d] f.d) (hv : PF Tryz.prog G 61 [f.d] (st tx)) (h1 : PF Tryz.prog G 62 [st wTrue, st tx] (bl true)) (hin : PF Tryz.prog G 27 [ilst [iv]] (ilst [iv])) (hout : PF Tryz.prog G 25 [(iBool (if true then 4607182418800017408 else 0)).d] (iBool (if true then 4607182418800017408 else 0)).d) : PF Tryz.prog G 9 [ilst [iv]] (iBool (if true then 4607182418800017408 else 0)).d := by
  refine PC.intro rfl Tryz.func9 rfl (Nat.le_of_ble_eq_true rfl) rfl ?_
  refine w_seq (w_reg (s_s rfl rfl (as_alloc0 (id := 0) rfl rfl (by exact (rfl : _ = [_, _, _, _]))) ?_))
  refine s_nil (n_n (w_seq (w_reg (s_q rfl rfl (q_mv (.inl rfl) (by first | exact is_im rfl | exact is_gs rfl | exact is_lit rfl | exact is_ms rfl | exact is_sc rfl | exact rfl)) ?_))))
  refine s_q rfl rfl (q_call rfl rfl rfl rfl hin) ?_
  refine s_q rfl rfl (q_call rfl rfl rfl rfl (pf_DoorISLOGICALA iv f tx hr hi hv h1 hin hout)) ?_
  refine s_q rfl rfl (q_call rfl rfl rfl rfl hout) ?_
  refine s_u rfl rfl (as_st rfl rfl (by first | exact (rfl : _ = D.agg [_, _, _, _]) | exact rfl) rfl (by exact rfl) (by exact rfl) (by exact Nat.le_of_ble_eq_true rfl) (by exact (rfl : _ = [_, _, _, _]))) ?_
  refine s_nil (n_n (w_ret ?_))
  -- end 0
  refine r_r (ra_cell (by exact (rfl : _ = some (D.agg [_, _, _, _]))) ra_nil) (by first | exact (rfl : _ = D.agg [_, _, _, _]) | exact rfl) (by exact rfl) sub_no ?_
  rfl


-- (*pub-tallysheet/pub/excelize.formulaFuncs).ISLOGICAL
theorem pf_ISLB {f : F} {tx : List UInt8} (h : Heap) (kf k : Nat) (es : List (Nat × D)) (H : IsList h k es) (hes : es.map (·.2) = [.ifc 75 (f).d]) (hv : PF Tryz.prog G 61 [f.d] (st tx)) (h1 : PF Tryz.prog G 62 [st wTrue, st tx] (bl false)) (h2 : PF Tryz.prog G 62 [st wFalse, st tx] (bl true)) : ACall Tryz.prog G 44 true [.hp kf 0, .hp k 0] h (fun ret _ => ret = (fBool true).d) := by
  obtain ⟨e0, rfl⟩ := el1 hes
  refine ACall.intro rfl Tryz.func44 rfl (Nat.le_of_ble_eq_true rfl) rfl ?_
  refine w_seq (w_reg (s_s rfl rfl (as_alloc0 (id := 0) rfl rfl (by exact (rfl : _ = [_, _, _, _, _, _, _, _, _, _]))) ?_))
  refine s_nil (n_n (w_seq (w_seq (w_reg (s_q rfl rfl (q_mv (.inl rfl) (by first | exact is_box rfl | exact is_hp rfl | exact is_pin rfl | exact is_sc rfl | exact rfl)) ?_)))))
  refine s_o rfl rfl (ao_callH rfl rfl rfl rfl (pf_Len _ k _ H) fun vln Hvln hvln => ?_)
  obtain ⟨rfl, rfl⟩ := hvln
  refine s_q rfl rfl (q_neq rfl rfl rfl) ?_
  refine s_nil (n_n (w_ifF rfl (w_skip (n_n (w_seq (w_reg (s_q rfl rfl (q_mv (.inl rfl) (by first | exact is_box rfl | exact is_hp rfl | exact is_pin rfl | exact is_sc rfl | exact rfl)) ?_)))))))
  refine s_o rfl rfl (ao_callH rfl rfl rfl rfl (pf_Front _ k _ H (by simp) (by simp)) fun vfr Hvfr hvfr => ?_)
  obtain ⟨e_, rfl⟩ := hvfr
  replace e_ : vfr = D.hp e0 0 := e_
  subst e_
  refine s_q rfl rfl (q_nil rfl rfl rfl) ?_
  refine s_q rfl rfl (q_field rfl rfl (by exact rfl)) ?_
  refine s_q rfl rfl (q_loadH rfl rfl (d := .ifc 75 (f).d) (by exact H.val (e0, .ifc 75 (f).d) (by simp))) ?_
  refine s_q rfl rfl (q_asr rfl rfl) ?_
  refine s_q rfl rfl (q_call rfl rfl rfl rfl hv) ?_
  refine s_q rfl rfl (q_mv (.inr rfl) (is_sc rfl)) ?_
  refine s_nil (n_n (w_seq (w_seq (w_reg (s_q rfl rfl (q_mv (.inl rfl) (is_sc rfl)) ?_)))))
  refine s_q rfl rfl (q_call rfl rfl rfl rfl h1) ?_
  refine s_q rfl rfl (q_mv (.inl rfl) (is_sc rfl)) ?_
  refine s_q rfl rfl (q_mv (.inl rfl) (is_sc rfl)) ?_
  refine s_q rfl rfl (q_call rfl rfl rfl rfl h2) ?_
  refine s_q rfl rfl (q_pickF rfl rfl (is_sc rfl)) ?_
  refine s_nil (n_n (w_ifT rfl (w_seq (w_reg (s_q rfl rfl (q_call rfl rfl rfl rfl (pf_newBool _)) ?_)))))
  refine s_u rfl rfl (as_st rfl rfl (by first | exact (rfl : _ = D.agg [_, _, _, _, _, _, _, _, _, _]) | exact rfl) rfl (by exact rfl) (by exact rfl) (by exact Nat.le_of_ble_eq_true rfl) (by exact (rfl : _ = [_, _, _, _, _, _, _, _, _, _]))) ?_
  refine s_nil (n_n (w_ret (n_r ?_)))
  -- end 0
  refine r_r (ra_cell (by exact (rfl : _ = some (D.agg [_, _, _, _, _, _, _, _, _, _]))) ra_nil) (by first | exact (rfl : _ = D.agg [_, _, _, _, _, _, _, _, _, _]) | exact rfl) (by exact rfl) (Sub.refl _) ?_
  rfl


-- pub-tallysheet/pub/excelize.DoorISLOGICAL
theorem pf_DoorISLOGICALB (iv : IV) (f : F) (tx : List UInt8) (hr : iv.rows = []) (hi : PF Tryz.prog G 66 [iv.d] f.d) (hv : PF Tryz.prog G 61 [f.d] (st tx)) (h1 : PF Tryz.prog G 62 [st wTrue, st tx] (bl false)) (h2 : PF Tryz.prog G 62 [st wFalse, st tx] (bl true)) (hin : PF Tryz.prog G 27 [ilst [iv]] (ilst [iv])) (hout : PF Tryz.prog G 25 [(iBool (if true then 4607182418800017408 else 0)).d] (iBool (if true then 4607182418800017408 else 0)).d) : PF Tryz.prog G 26 [ilst [iv]] (iBool (if true then 4607182418800017408 else 0)).d := by
  refine PC.intro rfl Tryz.func26 rfl (Nat.le_of_ble_eq_true rfl) rfl ?_
  refine w_seq (w_reg (s_s rfl rfl (as_alloc0 (id := 0) rfl rfl (by exact (rfl : _ = [_, _, _, _]))) ?_))
  refine s_nil (n_n (w_seq (w_reg (s_o rfl rfl (ao_callH rfl rfl rfl rfl (pf_doorFuncs _) fun v3 Hv3 hv3 => ?_)))))
  obtain ⟨kf, rfl⟩ := hv3
  refine s_q rfl rfl (q_mv (.inl rfl) (by first | exact is_im rfl | exact is_gs rfl | exact is_lit rfl | exact is_ms rfl | exact is_sc rfl | exact rfl)) ?_
  refine s_o rfl rfl (ao_callH rfl rfl rfl rfl (pf_innerList _ [iv] (by simp only [List.length_cons, List.length_nil]; omega) (fun _ => f) (fun v hv => by rw [List.mem_singleton.1 hv]; exact hi)) fun v5 Hv5 hv5 => ?_)
  obtain ⟨kl, es, rfl, hL, hes⟩ := hv5
  refine s_o rfl rfl (ao_callH rfl rfl rfl rfl (pf_ISLB _ kf kl es hL hes hv h1 h2) fun v6 Hv6 hv6 => ?_)
  obtain rfl := hv6
  refine s_q rfl rfl (q_call rfl rfl rfl rfl (pf_doorB _)) ?_
  refine s_u rfl rfl (as_st rfl rfl (by first | exact (rfl : _ = D.agg [_, _, _, _]) | exact rfl) rfl (by exact rfl) (by exact rfl) (by exact Nat.le_of_ble_eq_true rfl) (by exact (rfl : _ = [_, _, _, _]))) ?_
  refine s_nil (n_n (w_ret ?_))
  -- end 0
  refine r_r (ra_cell (by exact (rfl : _ = some (D.agg [_, _, _, _]))) ra_nil) (by first | exact (rfl : _ = D.agg [_, _, _, _]) | exact rfl) (by exact rfl) sub_no ?_
  rfl


-- pub-tallysheet/impl.ISLOGICAL
theorem pf_ImplISLOGICALB (iv : IV) (f : F) (tx : List UInt8) (hr : iv.rows = []) (hi : PF Tryz.prog G 66 [iv.d] f.d) (hv : PF Tryz.prog G 61 [f.d] (st tx)) (h1 : PF Tryz.prog G 62 [st wTrue, st tx] (bl false)) (h2 : PF Tryz.prog G 62 [st wFalse, st tx] (bl true)) (hin : PF Tryz.prog G 27 [ilst [iv]] (ilst [iv])) (hout : PF Tryz.prog G 25 [(iBool (if true then 4607182418800017408 else 0)).d] (iBool (if true then 4607182418800017408 else 0)).d) : PF Tryz.prog G 9 [ilst [iv]] (iBool (if true then 4607182418800017408 else 0)).d := by
  refine PC.intro rfl Tryz.func9 rfl (Nat.le_of_ble_eq_true rfl) rfl ?_
  refine w_seq (w_reg (s_s rfl rfl (as_alloc0 (id := 0) rfl rfl (by exact (rfl : _ = [_, _, _, _]))) ?_))
  refine s_nil (n_n (w_seq (w_reg (s_q rfl rfl (q_mv (.inl rfl) (by first | exact is_im rfl | exact is_gs rfl | exact is_lit rfl | exact is_ms rfl | exact is_sc rfl | exact rfl)) ?_))))
  refine s_q rfl rfl (q_call rfl rfl rfl rfl hin) ?_
  refine s_q rfl rfl (q_call rfl rfl rfl rfl (pf_DoorISLOGICALB iv f tx hr hi hv h1 h2 hin hout)) ?_
  refine s_q rfl rfl (q_call rfl rfl rfl rfl hout) ?_
  refine s_u rfl rfl (as_st rfl rfl (by first | exact (rfl : _ = D.agg [_, _, _, _]) | exact rfl) rfl (by exact rfl) (by exact rfl) (by exact Nat.le_of_ble_eq_true rfl) (by exact (rfl : _ = [_, _, _, _]))) ?_
  refine s_nil (n_n (w_ret ?_))
  -- end 0
  refine r_r (ra_cell (by exact (rfl : _ = some (D.agg [_, _, _, _]))) ra_nil) (by first | exact (rfl : _ = D.agg [_, _, _, _]) | exact rfl) (by exact rfl) sub_no ?_
  rfl


-- (*pub-tallysheet/pub/excelize.formulaFuncs).ISLOGICAL
theorem pf_ISLN {f : F} {tx : List UInt8} (h : Heap) (kf k : Nat) (es : List (Nat × D)) (H : IsList h k es) (hes : es.map (·.2) = [.ifc 75 (f).d]) (hv : PF Tryz.prog G 61 [f.d] (st tx)) (h1 : PF Tryz.prog G 62 [st wTrue, st tx] (bl false)) (h2 : PF Tryz.prog G 62 [st wFalse, st tx] (bl false)) : ACall Tryz.prog G 44 true [.hp kf 0, .hp k 0] h (fun ret _ => ret = (fBool false).d) := by
  obtain ⟨e0, rfl⟩ := el1 hes
  refine ACall.intro rfl Tryz.func44 rfl (Nat.le_of_ble_eq_true rfl) rfl ?_
  refine w_seq (w_reg (s_s rfl rfl (as_alloc0 (id := 0) rfl rfl (by exact (rfl : _ = [_, _, _, _, _, _, _, _, _, _]))) ?_))
  refine s_nil (n_n (w_seq (w_seq (w_reg (s_q rfl rfl (q_mv (.inl rfl) (by first | exact is_box rfl | exact is_hp rfl | exact is_pin rfl | exact is_sc rfl | exact rfl)) ?_)))))
  refine s_o rfl rfl (ao_callH rfl rfl rfl rfl (pf_Len _ k _ H) fun vln Hvln hvln => ?_)
  obtain ⟨rfl, rfl⟩ := hvln
  refine s_q rfl rfl (q_neq rfl rfl rfl) ?_
  refine s_nil (n_n (w_ifF rfl (w_skip (n_n (w_seq (w_reg (s_q rfl rfl (q_mv (.inl rfl) (by first | exact is_box rfl | exact is_hp rfl | exact is_pin rfl | exact is_sc rfl | exact rfl)) ?_)))))))
  refine s_o rfl rfl (ao_callH rfl rfl rfl rfl (pf_Front _ k _ H (by simp) (by simp)) fun vfr Hvfr hvfr => ?_)
  obtain ⟨e_, rfl⟩ := hvfr
  replace e_ : vfr = D.hp e0 0 := e_
  subst e_
  refine s_q rfl rfl (q_nil rfl rfl rfl) ?_
  refine s_q rfl rfl (q_field rfl rfl (by exact rfl)) ?_
  refine s_q rfl rfl (q_loadH rfl rfl (d := .ifc 75 (f).d) (by exact H.val (e0, .ifc 75 (f).d) (by simp))) ?_
  refine s_q rfl rfl (q_asr rfl rfl) ?_
  refine s_q rfl rfl (q_call rfl rfl rfl rfl hv) ?_
  refine s_q rfl rfl (q_mv (.inr rfl) (is_sc rfl)) ?_
  refine s_nil (n_n (w_seq (w_seq (w_reg (s_q rfl rfl (q_mv (.inl rfl) (is_sc rfl)) ?_)))))
  refine s_q rfl rfl (q_call rfl rfl rfl rfl h1) ?_
  refine s_q rfl rfl (q_mv (.inl rfl) (is_sc rfl)) ?_
  refine s_q rfl rfl (q_mv (.inl rfl) (is_sc rfl)) ?_
  refine s_q rfl rfl (q_call rfl rfl rfl rfl h2) ?_
  refine s_q rfl rfl (q_pickF rfl rfl (is_sc rfl)) ?_
  refine s_nil (n_n (w_ifF rfl (w_skip (n_n (w_seq (w_reg (s_q rfl rfl (q_call rfl rfl rfl rfl (pf_newBool _)) ?_)))))))
  refine s_u rfl rfl (as_st rfl rfl (by first | exact (rfl : _ = D.agg [_, _, _, _, _, _, _, _, _, _]) | exact rfl) rfl (by exact rfl) (by exact rfl) (by exact Nat.le_of_ble_eq_true rfl) (by exact (rfl : _ = [_, _, _, _, _, _, _, _, _, _]))) ?_
  refine s_nil (n_n (w_ret ?_))
  -- end 0
  refine r_r (ra_cell (by exact (rfl : _ = some (D.agg [_, _, _, _, _, _, _, _, _, _]))) ra_nil) (by first | exact (rfl : _ = D.agg [_, _, _, _, _, _, _, _, _, _]) | exact rfl) (by exact rfl) (Sub.refl _) ?_
  rfl


-- pub-tallysheet/pub/excelize.DoorISLOGICAL
theorem pf_DoorISLOGICALN (iv : IV) (f : F) (tx : List UInt8) (hr : iv.rows = []) (hi : PF Tryz.prog G 66 [iv.d] f.d) (hv : PF Tryz.prog G 61 [f.d] (st tx)) (h1 : PF Tryz.prog G 62 [st wTrue, st tx] (bl false)) (h2 : PF Tryz.prog G 62 [st wFalse, st tx] (bl false)) (hin : PF Tryz.prog G 27 [ilst [iv]] (ilst [iv])) (hout : PF Tryz.prog G 25 [(iBool (if false then 4607182418800017408 else 0)).d] (iBool (if false then 4607182418800017408 else 0)).d) : PF Tryz.prog G 26 [ilst [iv]] (iBool (if false then 4607182418800017408 else 0)).d := by
  refine PC.intro rfl Tryz.func26 rfl (Nat.le_of_ble_eq_true rfl) rfl ?_
  refine w_seq (w_reg (s_s rfl rfl (as_alloc0 (id := 0) rfl rfl (by exact (rfl : _ = [_, _, _, _]))) ?_))
  refine s_nil (n_n (w_seq (w_reg (s_o rfl rfl (ao_callH rfl rfl rfl rfl (pf_doorFuncs _) fun v3 Hv3 hv3 => ?_)))))
  obtain ⟨kf, rfl⟩ := hv3
  refine s_q rfl rfl (q_mv (.inl rfl) (by first | exact is_im rfl | exact is_gs rfl | exact is_lit rfl | exact is_ms rfl | exact is_sc rfl | exact rfl)) ?_
  refine s_o rfl rfl (ao_callH rfl rfl rfl rfl (pf_innerList _ [iv] (by simp only [List.length_cons, List.length_nil]; omega) (fun _ => f) (fun v hv => by rw [List.mem_singleton.1 hv]; exact hi)) fun v5 Hv5 hv5 => ?_)
  obtain ⟨kl, es, rfl, hL, hes⟩ := hv5
  refine s_o rfl rfl (ao_callH rfl rfl rfl rfl (pf_ISLN _ kf kl es hL hes hv h1 h2) fun v6 Hv6 hv6 => ?_)
  obtain rfl := hv6
  refine s_q rfl rfl (q_call rfl rfl rfl rfl (pf_doorB _)) ?_
  refine s_u rfl rfl (as_st rfl rfl (by first | exact (rfl : _ = D.agg [_, _, _, _]) | exact rfl) rfl (by exact rfl) (by exact rfl) (by exact Nat.le_of_ble_eq_true rfl) (by exact (rfl : _ = [_, _, _, _]))) ?_
  refine s_nil (n_n (w_ret ?_))
  -- end 0
  refine r_r (ra_cell (by exact (rfl : _ = some (D.agg [_, _, _, _]))) ra_nil) (by first | exact (rfl : _ = D.agg [_, _, _, _]) | exact rfl) (by exact rfl) sub_no ?_
  rfl


-- pub-tallysheet/impl.ISLOGICAL
theorem pf_ImplISLOGICALN (iv : IV) (f : F) (tx : List UInt8) (hr : iv.rows = []) (hi : PF Tryz.prog G 66 [iv.d] f.d) (hv : PF Tryz.prog G 61 [f.d] (st tx)) (h1 : PF Tryz.prog G 62 [st wTrue, st tx] (bl false)) (h2 : PF Tryz.prog G 62 [st wFalse, st tx] (bl false)) (hin : PF Tryz.prog G 27 [ilst [iv]] (ilst [iv])) (hout : PF Tryz.prog G 25 [(iBool (if false then 4607182418800017408 else 0)).d] (iBool (if false then 4607182418800017408 else 0)).d) : PF Tryz.prog G 9 [ilst [iv]] (iBool (if false then 4607182418800017408 else 0)).d := by
  refine PC.intro rfl Tryz.func9 rfl (Nat.le_of_ble_eq_true rfl) rfl ?_
  refine w_seq (w_reg (s_s rfl rfl (as_alloc0 (id := 0) rfl rfl (by exact (rfl : _ = [_, _, _, _]))) ?_))
  refine s_nil (n_n (w_seq (w_reg (s_q rfl rfl (q_mv (.inl rfl) (by first | exact is_im rfl | exact is_gs rfl | exact is_lit rfl | exact is_ms rfl | exact is_sc rfl | exact rfl)) ?_))))
  refine s_q rfl rfl (q_call rfl rfl rfl rfl hin) ?_
  refine s_q rfl rfl (q_call rfl rfl rfl rfl (pf_DoorISLOGICALN iv f tx hr hi hv h1 h2 hin hout)) ?_
  refine s_q rfl rfl (q_call rfl rfl rfl rfl hout) ?_
  refine s_u rfl rfl (as_st rfl rfl (by first | exact (rfl : _ = D.agg [_, _, _, _]) | exact rfl) rfl (by exact rfl) (by exact rfl) (by exact Nat.le_of_ble_eq_true rfl) (by exact (rfl : _ = [_, _, _, _]))) ?_
  refine s_nil (n_n (w_ret ?_))
  -- end 0
  refine r_r (ra_cell (by exact (rfl : _ = some (D.agg [_, _, _, _]))) ra_nil) (by first | exact (rfl : _ = D.agg [_, _, _, _]) | exact rfl) (by exact rfl) sub_no ?_
  rfl

end Go.Proofs.YtopgbalmdocboaaGreatDoor.Zz
