/- Walks of the functions, printed by program, and the logic behind them: each theorem says what one function or one step answers. -/
import Derived.Test.YtpjckdhgefbonaaGreatDoorZSx
import Derived.Test.YtpjckdhgefbonaaGreatDoorZDrCOUNT
import Derived.Test.YtpjckdhgefbonaaGreatDoorZItm
import Derived.Test.YtpjckdhgefbonaaGreatDoorZAgL
import Derived.Test.YtpjckdhgefbonaaGreatDoorZTab
import Derived.Test.YtpjckdhgefbonaaGreatDoorZCn
import Derived.Test.YtpjckdhgefbonaaGreatDoorZNum
namespace Go.Proofs.YtpjckdhgefbonaaGreatDoor.Zz
open Go.Abs
set_option maxRecDepth 100000
set_option linter.unusedVariables false
set_option linter.unusedSimpArgs false
set_option maxHeartbeats 4000000
variable {G : Nat → D}

theorem pf_cntAgrees (l : List It) (cols : Int) (more : List It) : PF Tryz.prog G 11 [.fn 20 [] [], st [67, 79, 85, 78, 84], lst (cntA l cols more)] (bl true) := by
  obtain ⟨T, hT⟩ : ∃ T, tabU l cols = T := ⟨_, rfl⟩
  obtain ⟨us, hus⟩ : ∃ us, (more.take 10).map itU = us := ⟨_, rfl⟩
  have hul : us.length ≤ 10 := by rw [← hus, List.length_map, List.length_take]; omega
  have hu5 : ∀ u ∈ us, ¬ u.v.kind = 5 := fun u hu => by
    rw [← hus] at hu
    obtain ⟨x, _, rfl⟩ := List.mem_map.1 hu
    rw [itU_v]; exact (sort_it x).five
  obtain ⟨hTl, hTn⟩ := tab_len l cols
  have hTr : ∀ r ∈ T, r.length ≤ 6 ∧ ∀ u ∈ r, ∃ n, u = cellU (l.take 120) n := fun r hr => tab_row (hT ▸ hr)
  have hTf := tab_flat l cols
  rw [hT] at hTl hTn hTf
  have hargs : cntA l cols more = tabV T :: us.map U.v := by unfold cntA; rw [hT, ← hus, List.map_map]; rfl
  rw [hargs]
  have hfl : flatV (tabV T :: us.map U.v) = T.flatten.map U.v ++ us.map U.v := by
    have e : flatV (tabV T :: us.map U.v) = flatV [tabV T] ++ flatV (us.map U.v) := by simp [flatV]
    rw [e, flatV_one, if_pos (show (tabV T).kind = 5 from rfl), flatV_plain (fun v hv => by obtain ⟨u, hu, rfl⟩ := List.mem_map.1 hv; exact hu5 u hu)]
    rfl
  have hO : Ok (tabV T :: us.map U.v) := ⟨by simp only [List.length_cons, List.length_map]; omega, by rw [hfl, List.length_append, List.length_map, List.length_map]; omega, fun v hv e => by
    rcases List.mem_cons.1 hv with rfl | hv
    · refine ⟨by show T.length < _; omega, fun r hr => ⟨by have := (hTr r hr).1; omega, fun u hu => ?_⟩⟩
      obtain ⟨n, rfl⟩ := (hTr r hr).2 u hu
      exact cell_five _ _
    · obtain ⟨u, hu, rfl⟩ := List.mem_map.1 hv
      exact absurd e (hu5 u hu)⟩
  have hcall := pf_Call_COUNT (G := G) T (us.map U.v) hO
  have hdt := pf_doubtL (G := G) (tabV T :: us.map U.v) hO
  cases hd : (flatV (tabV T :: us.map U.v)).any (isK 6) with
  | true => rw [hd] at hdt; exact pf_agreesLT 20 [67, 79, 85, 78, 84] _ _ hcall hdt
  | false =>
    rw [hd] at hdt
    by_cases hall : (tabV T :: us.map U.v).all okC = true
    · have hok := List.all_eq_true.1 hall
      have hcells : ∀ r ∈ T, ∀ u ∈ r, Sort2 u.v := fun r hr u hu => by
        have h1 := hok (tabV T) List.mem_cons_self
        have h2 : (T.flatten.map U.v).all kOKv = true := by simpa [okC, tabV] using h1
        have h3 := List.all_eq_true.1 h2 u.v (List.mem_map.2 ⟨u, List.mem_flatten.2 ⟨r, hr, hu⟩, rfl⟩)
        obtain ⟨n, rfl⟩ := (hTr r hr).2 u hu
        exact sort2_cell _ _ h3
      have hone : ∀ u ∈ us, u.v.kind = 1 ∨ u.v.kind = 3 := fun u hu => by
        have h1 := hok u.v (List.mem_cons_of_mem _ (List.mem_map.2 ⟨u, hu, rfl⟩))
        simp only [okC, Bool.or_eq_true, Bool.and_eq_true, decide_eq_true_eq] at h1
        rcases h1 with (h1 | h1) | h1
        · exact .inl h1
        · exact .inr h1
        · exact absurd h1.1 (hu5 u hu)
      have hsing : ∀ u ∈ us, Sort2 u.v := fun u hu => by
        have h1 := hone u hu
        have h2 : kOKv u.v = true := by simp only [kOKv, Bool.or_eq_true, decide_eq_true_eq]; omega
        have hu' := hu
        rw [← hus] at hu'
        obtain ⟨x, _, rfl⟩ := List.mem_map.1 hu'
        exact sort2_it x h2
      have hall2 : ∀ r ∈ T, PF Tryz.prog G 32 [lstU r] (ilstU (r.map cvX)) := fun r hr => by
        have := pf_all (G := G) (r.map U.v) (by have := (hTr r hr).1; rw [List.length_map]; omega) ivX (fun v hv => by
          obtain ⟨u, hu, rfl⟩ := List.mem_map.1 hv
          exact pf_of2 (hcells r hr u hu))
        rw [lst_U, List.map_map] at this
        have e : r.map (ivX ∘ U.v) = (r.map cvX).map IU.v := by
          rw [List.map_map]; exact List.map_congr_left fun u hu => (cvX_v (hcells r hr u hu)).symm
        rw [e, ilst_U] at this
        exact this
      have hot := pf_ofTab (G := G) T cvX (by omega) hall2
      have hal := pf_all (G := G) (tabV T :: us.map U.v) hO.len gX (fun v hv => by
        rcases List.mem_cons.1 hv with rfl | hv
        · exact hot
        · obtain ⟨u, hu, rfl⟩ := List.mem_map.1 hv
          unfold gX
          rw [if_neg (hu5 u hu)]
          exact pf_of2 (hsing u hu))
      have eal : (tabV T :: us.map U.v).map gX = tabI (T.map (·.map cvX)) :: us.map fun u => ivX u.v := by
        rw [List.map_cons, List.map_map]
        congr 1
        exact List.map_congr_left fun u hu => by show gX u.v = _; unfold gX; rw [if_neg (hu5 u hu)]
      rw [eal] at hal
      have eflat : ((T.map (·.map cvX)).map (·.map fun u => innX (IU.v u))).flatten = T.flatten.map fun u => innX (IU.v (cvX u)) := by
        rw [List.map_map, List.map_flatten]
        congr 1
        exact List.map_congr_left fun r _ => by simp [Function.comp_def]
      have hflc : ∀ u ∈ T.flatten, Sort2 u.v := fun u hu => by
        obtain ⟨r, hr, hur⟩ := List.mem_flatten.1 hu
        exact hcells r hr u hur
      have hi := pf_ImplCOUNT (G := G) (T.map (·.map cvX)) (us.map fun u => ivX u.v) (by rw [List.length_map]; omega) (by rw [List.length_map]; omega) (fun e => hTn (List.map_eq_nil_iff.1 e))
        (fun r hr => by obtain ⟨r0, h0, rfl⟩ := List.mem_map.1 hr; have := (hTr r0 h0).1; rw [List.length_map]; omega)
        (fun r hr u hu => by
          obtain ⟨r0, h0, rfl⟩ := List.mem_map.1 hr
          obtain ⟨u0, hu0, rfl⟩ := List.mem_map.1 hu
          rw [cvX_v (hcells r0 h0 u0 hu0)]; exact pf_inn2 (hcells r0 h0 u0 hu0))
        (fun v hv => by obtain ⟨u, hu, rfl⟩ := List.mem_map.1 hv; exact pf_inn2 (hsing u hu))
        (by rw [eflat, List.length_map]; omega)
        (fun f hf => by
          rw [eflat] at hf
          obtain ⟨u, hu, rfl⟩ := List.mem_map.1 hf
          rw [cvX_v (hflc u hu)]; exact (hflc u hu).cell)
        (fun v hv => by obtain ⟨u, hu, rfl⟩ := List.mem_map.1 hv; exact (hsing u hu).one (hone u hu))
        (fun v hv => by obtain ⟨u, hu, rfl⟩ := List.mem_map.1 hv; exact (hsing u hu).rows)
      have htot : cFs ((T.map (·.map cvX)).map (·.map fun u => innX (IU.v u))).flatten + (us.map fun u => ivX u.v).length = cntL (tabV T :: us.map U.v) := by
        rw [eflat, cfs_c1 hflc, cnt_args, cnt_singles hone, List.length_map]
      rw [htot] at hi
      have hcn := cnt_le (tabV T :: us.map U.v)
      rw [hfl, List.length_append, List.length_map, List.length_map] at hcn
      have hm : ¬ (99999999999 < ((cntL (tabV T :: us.map U.v) : Nat) : Int) ∨ ((cntL (tabV T :: us.map U.v) : Nat) : Int) < -99999999999) := by omega
      rw [show countV (tabV T :: us.map U.v) = num ((cntL (tabV T :: us.map U.v) : Nat) : Int) 1 from (if_pos hall).trans (intV_num hm)] at hcall
      obtain ⟨hq3, hx3, _⟩ := qV_whole hm
      have hr : Fx (clean (FloatKind.f64.nearest ((cntL (tabV T :: us.map U.v) : Nat) : Int))) (((cntL (tabV T :: us.map U.v) : Nat) : Int) * (unit : Nat)) := fx_clean (fv_nearest (by omega))
      have hsm := pf_same (G := G) 1 1 (clean (FloatKind.f64.nearest ((cntL (tabV T :: us.map U.v) : Nat) : Int))) (qV (num ((cntL (tabV T :: us.map U.v) : Nat) : Int) 1)) [] [] (num ((cntL (tabV T :: us.map U.v) : Nat) : Int) 1) (pf_ofN _ _ _ hq3)
      rw [sameN hr hx3] at hsm
      exact pf_agreesLS 20 [67, 79, 85, 78, 84] _ _ hcall hdt (pf_doubtP (num ((cntL (tabV T :: us.map U.v) : Nat) : Int) 1) (by simp [num])) _ (iNum (clean (FloatKind.f64.nearest ((cntL (tabV T :: us.map U.v) : Nat) : Int)))) hal hi hsm
    · rw [show countV (tabV T :: us.map U.v) = doubt from if_neg hall] at hcall
      exact pf_agreesLD 20 [67, 79, 85, 78, 84] _ doubt hcall hdt (pf_doubtP doubt (by simp [doubt]))


theorem fits1_len {l : List It} (h : fits1 l = true) : l.length ≤ 2147483647 := by
  unfold fits1 at h
  rw [Bool.and_eq_true] at h
  exact of_decide_eq_true h.1


-- pub-tallysheet/laws.FnCount
theorem pf_FnCount (l : List It) (cols : Int) (more : List It) : PF Tryz.prog G 5 [itL l, i64 cols, itL more] (bl true) := by
  refine PC.intro rfl Tryz.func5 rfl (Nat.le_of_ble_eq_true rfl) rfl ?_
  refine w_seq (w_reg (s_q rfl rfl (q_mv (.inr rfl) (is_sc rfl)) ?_))
  refine s_nil (n_n (w_seq (w_seq (w_reg (s_q rfl rfl (q_mv (.inl rfl) (by first | exact is_im rfl | exact is_gs rfl | exact is_lit rfl | exact is_ms rfl | exact is_sc rfl | exact rfl)) ?_)))))
  refine s_q rfl rfl (q_call rfl rfl rfl rfl (pf_zzFits1 l)) ?_
  refine s_q rfl rfl (q_not rfl rfl) ?_
  refine s_q rfl rfl (q_mv (.inl rfl) (is_sc rfl)) ?_
  refine s_split 10 (is_scb rfl) (fun h10 => ?_) (fun h10 => ?_)
  · refine s_off rfl rfl ?_
    refine s_off rfl rfl ?_
    refine s_off rfl rfl ?_
    refine s_q rfl rfl (q_pickT rfl rfl (is_sc rfl)) ?_
    refine s_nil (n_n (w_ifT rfl (w_seq (w_reg (s_q rfl rfl (q_mv (.inr rfl) (is_sc rfl)) ?_)))))
    refine s_nil (n_n (w_ret (n_r ?_)))
    -- end 0
    refine r_r (ra_tmp (is_sc rfl) ra_nil) (by exact (is_sc rfl)) (by exact rfl) sub_no ?_
    rfl
  · have hf1 := fits1_len (show fits1 l = true by simpa using h10)
    refine s_q rfl rfl (q_mv (.inl rfl) (by first | exact is_im rfl | exact is_gs rfl | exact is_lit rfl | exact is_ms rfl | exact is_sc rfl | exact rfl)) ?_
    refine s_q rfl rfl (q_call rfl rfl rfl rfl (pf_zzFits1 more)) ?_
    refine s_q rfl rfl (q_not rfl rfl) ?_
    refine s_q rfl rfl (q_pickF rfl rfl (is_sc rfl)) ?_
    refine s_nil (n_n (w_if (is_scb rfl) (fun h14 => ?_) (fun h14 => ?_)))
    · refine w_seq (w_reg (s_q rfl rfl (q_mv (.inr rfl) (is_sc rfl)) ?_))
      refine s_nil (n_n (w_ret (n_r ?_)))
      -- end 1
      refine r_r (ra_tmp (is_sc rfl) ra_nil) (by exact (is_sc rfl)) (by exact rfl) sub_no ?_
      rfl
    · have hf2 := fits1_len (show fits1 more = true by simpa using h14)
      refine w_skip (n_n (w_seq (w_reg (s_q rfl rfl (q_mv (.inl rfl) (by first | exact is_im rfl | exact is_gs rfl | exact is_lit rfl | exact is_ms rfl | exact is_sc rfl | exact rfl)) ?_))))
      refine s_q rfl rfl (q_mv (.inl rfl) (is_sc rfl)) ?_
      refine s_q rfl rfl (q_mv (.inl rfl) (by first | exact is_im rfl | exact is_gs rfl | exact is_lit rfl | exact is_ms rfl | exact is_sc rfl | exact rfl)) ?_
      refine s_q rfl rfl (q_call rfl rfl rfl rfl (pf_with l cols more hf1 hf2)) ?_
      refine s_q rfl rfl (q_call rfl rfl rfl rfl (pf_cntAgrees l cols more)) ?_
      refine s_q rfl rfl (q_mv (.inr rfl) (is_sc rfl)) ?_
      refine s_nil (n_n (w_ret ?_))
      -- end 2
      refine r_r (ra_tmp (is_sc rfl) ra_nil) (by exact (is_sc rfl)) (by exact rfl) sub_no ?_
      rfl

end Go.Proofs.YtpjckdhgefbonaaGreatDoor.Zz
