/- Walks of the functions, printed by program, and the logic behind them: each theorem says what one function or one step answers. -/
import Derived.Test.YtopgbalmdocboaaGreatDoorZSpMEDIAN
import Derived.Test.YtopgbalmdocboaaGreatDoorZDrMEDIAN
import Derived.Test.YtopgbalmdocboaaGreatDoorZItm
import Derived.Test.YtopgbalmdocboaaGreatDoorZLm
import Derived.Test.YtopgbalmdocboaaGreatDoorZSm
import Derived.Test.YtopgbalmdocboaaGreatDoorZNu
import Derived.Test.YtopgbalmdocboaaGreatDoorZSrt
namespace Go.Proofs.YtopgbalmdocboaaGreatDoor.Zz
open Go.Abs
set_option maxRecDepth 100000
set_option linter.unusedVariables false
set_option linter.unusedSimpArgs false
set_option maxHeartbeats 4000000
variable {G : Nat → D}

theorem pf_medAgrees (l : List It) (cols : Int) (more : List It) (ht1 : ∀ x ∈ l, x.text.length ≤ 2147483647) (ht2 : ∀ x ∈ more, x.text.length ≤ 2147483647) : PF Tryz.prog G 8 [.fn 15 [] [], st [77, 69, 68, 73, 65, 78], lst (cntA l cols more)] (bl true) := by
  obtain ⟨T, hT⟩ : ∃ T, tabU l cols = T := ⟨_, rfl⟩
  obtain ⟨us, hus⟩ : ∃ us, (more.take 10).map itU = us := ⟨_, rfl⟩
  have hul : us.length ≤ 10 := by rw [← hus, List.length_map, List.length_take]; omega
  have hu5 : ∀ u ∈ us, ¬ u.v.kind = 5 := fun u hu => by
    rw [← hus] at hu
    obtain ⟨x, _, rfl⟩ := List.mem_map.1 hu
    rw [itU_v]; exact (sort_it x).five
  obtain ⟨hTl, hTn⟩ := tab_len l cols
  have hTr : ∀ r ∈ T, r.length ≤ 6 ∧ ∀ u ∈ r, ∃ n, u = cellU (l.take 120) n := fun r hr => tab_row (hT ▸ hr)
  have hTf := tab_flat l cols
  rw [hT] at hTl hTn hTf
  have hargs : cntA l cols more = tabV T :: us.map U.v := by unfold cntA; rw [hT, ← hus, List.map_map]; rfl
  rw [hargs]
  have hfl : flatV (tabV T :: us.map U.v) = T.flatten.map U.v ++ us.map U.v := by
    have e : flatV (tabV T :: us.map U.v) = flatV [tabV T] ++ flatV (us.map U.v) := by simp [flatV]
    rw [e, flatV_one, if_pos (show (tabV T).kind = 5 from rfl), flatV_plain (fun v hv => by obtain ⟨u, hu, rfl⟩ := List.mem_map.1 hv; exact hu5 u hu)]
    rfl
  have hO : Ok (tabV T :: us.map U.v) := ⟨by simp only [List.length_cons, List.length_map]; omega, by rw [hfl, List.length_append, List.length_map, List.length_map]; omega, fun v hv e => by
    rcases List.mem_cons.1 hv with rfl | hv
    · refine ⟨by show T.length < _; omega, fun r hr => ⟨by have := (hTr r hr).1; omega, fun u hu => ?_⟩⟩
      obtain ⟨n, rfl⟩ := (hTr r hr).2 u hu
      exact cell_five _ _
    · obtain ⟨u, hu, rfl⟩ := List.mem_map.1 hv
      exact absurd e (hu5 u hu)⟩
  have hmem : ∀ v ∈ flatV (tabV T :: us.map U.v), (∃ n, v = (cellU (l.take 120) n).v) ∨ ∃ x ∈ more, v = itV x := fun v hv => by
    rw [hfl] at hv
    rcases List.mem_append.1 hv with hv | hv
    · obtain ⟨u, hu, rfl⟩ := List.mem_map.1 hv
      obtain ⟨r, hr, hur⟩ := List.mem_flatten.1 hu
      obtain ⟨n, rfl⟩ := (hTr r hr).2 u hur
      exact .inl ⟨n, rfl⟩
    · obtain ⟨u, hu, rfl⟩ := List.mem_map.1 hv
      rw [← hus] at hu
      obtain ⟨x, hx, rfl⟩ := List.mem_map.1 hu
      exact .inr ⟨x, List.mem_of_mem_take hx, itU_v x⟩
  have hl9 : (flatV (tabV T :: us.map U.v)).length ≤ 100000 := by rw [hfl, List.length_append, List.length_map, List.length_map]; omega
  have hTx : ∀ v ∈ flatV (tabV T :: us.map U.v), v.text.length < 4000000000 := fun v hv => by
    rcases hmem v hv with ⟨n, rfl⟩ | ⟨x, hx, rfl⟩
    · exact cell_text _ _ fun x hx => ht1 x (List.mem_of_mem_take hx)
    · exact it_text x (ht2 x hx)
  have h6 : ∀ v ∈ numsV (tabV T :: us.map U.v), IsSix v := fun v hv => by
    obtain ⟨h1, h2⟩ := List.mem_filter.1 hv
    have hk : v.kind = 1 := of_decide_eq_true h2
    rcases hmem v h1 with ⟨n, rfl⟩ | ⟨x, hx, rfl⟩
    · exact cell_six _ _ hk
    · exact it_six x hk
  have hcall := pf_Call_MEDIAN (G := G) T (us.map U.v) hO hl9 hTx h6
  have hdt := pf_doubtL (G := G) (tabV T :: us.map U.v) hO
  cases hd : (flatV (tabV T :: us.map U.v)).any (isK 6) with
  | true => rw [hd] at hdt; exact pf_agreesLT 15 [77, 69, 68, 73, 65, 78] _ _ hcall hdt
  | false =>
    rw [hd] at hdt
    by_cases hall : (tabV T :: us.map U.v).all okM = true
    · have hok := List.all_eq_true.1 hall
      have hcells0 : ∀ r ∈ T, ∀ u ∈ r, kOKv u.v = true ∧ ¬ u.v.kind = 3 := fun r hr u hu => by
        have h1 := hok (tabV T) List.mem_cons_self
        have h2 : (T.flatten.map U.v).all okMc = true := by simpa [okM, tabV] using h1
        exact ok_kok (List.all_eq_true.1 h2 u.v (List.mem_map.2 ⟨u, List.mem_flatten.2 ⟨r, hr, hu⟩, rfl⟩))
      have hcells : ∀ r ∈ T, ∀ u ∈ r, Sort2 u.v := fun r hr u hu => by
        have h3 := (hcells0 r hr u hu).1
        obtain ⟨n, rfl⟩ := (hTr r hr).2 u hu
        exact sort2_cell _ _ h3
      have hone : ∀ u ∈ us, u.v.kind = 1 := fun u hu => by
        have h1 := hok u.v (List.mem_cons_of_mem _ (List.mem_map.2 ⟨u, hu, rfl⟩))
        simp only [okM, Bool.or_eq_true, Bool.and_eq_true, decide_eq_true_eq] at h1
        rcases h1 with h1 | h1
        · exact h1
        · exact absurd h1.1 (hu5 u hu)
      have hsing : ∀ u ∈ us, Sort2 u.v := fun u hu => by
        have h1 := hone u hu
        have h2 : kOKv u.v = true := by simp only [kOKv, Bool.or_eq_true, decide_eq_true_eq]; omega
        have hu' := hu
        rw [← hus] at hu'
        obtain ⟨x, _, rfl⟩ := List.mem_map.1 hu'
        exact sort2_it x h2
      have hall2 : ∀ r ∈ T, PF Tryz.prog G 24 [lstU r] (ilstU (r.map cvX)) := fun r hr => by
        have := pf_all (G := G) (r.map U.v) (by have := (hTr r hr).1; rw [List.length_map]; omega) ivX (fun v hv => by
          obtain ⟨u, hu, rfl⟩ := List.mem_map.1 hv
          exact pf_of2 (hcells r hr u hu))
        rw [lst_U, List.map_map] at this
        have e : r.map (ivX ∘ U.v) = (r.map cvX).map IU.v := by
          rw [List.map_map]; exact List.map_congr_left fun u hu => (cvX_v (hcells r hr u hu)).symm
        rw [e, ilst_U] at this
        exact this
      have hot := pf_ofTab (G := G) T cvX (by omega) hall2
      have hal := pf_all (G := G) (tabV T :: us.map U.v) hO.len gX (fun v hv => by
        rcases List.mem_cons.1 hv with rfl | hv
        · exact hot
        · obtain ⟨u, hu, rfl⟩ := List.mem_map.1 hv
          unfold gX
          rw [if_neg (hu5 u hu)]
          exact pf_of2 (hsing u hu))
      have eal : (tabV T :: us.map U.v).map gX = tabI (T.map (·.map cvX)) :: us.map fun u => ivX u.v := by
        rw [List.map_cons, List.map_map]
        congr 1
        exact List.map_congr_left fun u hu => by show gX u.v = _; unfold gX; rw [if_neg (hu5 u hu)]
      rw [eal] at hal
      have eflat : ((T.map (·.map cvX)).map (·.map fun u => innX (IU.v u))).flatten = T.flatten.map fun u => innX (IU.v (cvX u)) := by
        rw [List.map_map, List.map_flatten]
        congr 1
        exact List.map_congr_left fun r _ => by simp [Function.comp_def]
      have hflc : ∀ u ∈ T.flatten, Sort2 u.v ∧ ¬ u.v.kind = 3 := fun u hu => by
        obtain ⟨r, hr, hur⟩ := List.mem_flatten.1 hu
        exact ⟨hcells r hr u hur, (hcells0 r hr u hur).2⟩
      have esing : (us.map fun u => ivX u.v).map innX = us.map fun u => innX (IU.v (cvX u)) := by
        rw [List.map_map]
        exact List.map_congr_left fun u hu => by show innX (ivX u.v) = _; rw [cvX_v (hsing u hu)]
      obtain ⟨S, hSb, hSx, hSB⟩ := six_list h6
      have hS : S.map S6.b = numF ((T.map (·.map cvX)).map (·.map fun u => innX (IU.v u))).flatten ++ numF ((us.map fun u => ivX u.v).map innX) := by
        rw [hSb, eflat, esing, cells_num hflc, cells_num (fun u hu => ⟨hsing u hu, by have := hone u hu; omega⟩), ← List.map_append, nums_args T us hu5]
      obtain ⟨k, x, t, hm⟩ : ∃ k x t, medI S = ⟨k, x, t, []⟩ := by
        unfold medI
        split
        · exact ⟨_, _, _, rfl⟩
        · exact ⟨_, _, _, rfl⟩
      have hi := pf_ImplMEDIAN (G := G) (T.map (·.map cvX)) (us.map fun u => ivX u.v) (by rw [List.length_map]; omega) (by rw [List.length_map]; omega) (fun e => hTn (List.map_eq_nil_iff.1 e))
        (fun r hr => by obtain ⟨r0, h0, rfl⟩ := List.mem_map.1 hr; have := (hTr r0 h0).1; rw [List.length_map]; omega)
        (fun r hr u hu => by
          obtain ⟨r0, h0, rfl⟩ := List.mem_map.1 hr
          obtain ⟨u0, hu0, rfl⟩ := List.mem_map.1 hu
          rw [cvX_v (hcells r0 h0 u0 hu0)]; exact pf_inn2 (hcells r0 h0 u0 hu0))
        (fun v hv => by obtain ⟨u, hu, rfl⟩ := List.mem_map.1 hv; exact pf_inn2 (hsing u hu))
        (by rw [eflat, List.length_map]; omega)
        (fun v hv => by
          obtain ⟨u, hu, rfl⟩ := List.mem_map.1 hv
          rcases (hsing u hu).one (.inl (hone u hu)) with h1 | ⟨c, h1⟩
          · exact h1
          · have h2 := hone u hu
            have h3 := hsing u hu
            generalize u.v = w at *
            cases h3 with
            | none => simp [noV] at h2
            | num n d x hq hx => exact ⟨_, rfl⟩
            | txt s => simp [strV] at h2
            | bool c => simp [boolV] at h2)
        (fun v hv => by obtain ⟨u, hu, rfl⟩ := List.mem_map.1 hv; exact (hsing u hu).rows)
        S hS hSB k x t hm
      have hlen : S.length = (numsV (tabV T :: us.map U.v)).length := by have := congrArg List.length hSx; simpa using this
      rw [show calmV (tabV T :: us.map U.v) = medianV (numsV (tabV T :: us.map U.v)) from if_pos hall] at hcall
      by_cases hz : (numsV (tabV T :: us.map U.v)).length = 0
      · rw [medianV_zero hz] at hcall
        have hsm := pf_same (G := G) 4 4 0 0 NUM_ NUM_ (errV NUM_) (pf_ofE _)
        rw [sameE] at hsm
        have e : (⟨k, x, t, []⟩ : IV) = iErr NUM_ := by rw [← hm]; exact if_pos (by omega)
        rw [e] at hi
        exact pf_agreesLS 15 [77, 69, 68, 73, 65, 78] _ (errV NUM_) hcall hdt (pf_doubtP (errV NUM_) (by simp [errV])) _ (iErr NUM_) hal hi hsm
      · rcases median_ok h6 hz with e | ⟨x6, n, dd, e, hx6, hmw⟩
        · rw [e] at hcall
          exact pf_agreesLD 15 [77, 69, 68, 73, 65, 78] _ doubt hcall hdt (pf_doubtP doubt (by simp [doubt]))
        · rw [e] at hcall
          have e2 : (⟨k, x, t, []⟩ : IV) = iNum (clean (medC (S.map S6.x))) := by rw [← hm]; exact if_neg (by omega)
          rw [e2] at hi
          obtain ⟨hq1, hq2, _⟩ := qV_six hx6
          obtain ⟨rw_, hrw, hrm⟩ := med_some S (by omega) hSB
          have hf := hmw _ (by rw [← hSx]; exact (medC_spec hrw hrm).2.1)
          have hsm := pf_same (G := G) 1 1 (clean (medC (S.map S6.x))) (qV (num n dd)) [] [] (num n dd) (pf_ofN _ _ _ hq1)
          rw [same_six hf.clean hq2] at hsm
          exact pf_agreesLS 15 [77, 69, 68, 73, 65, 78] _ _ hcall hdt (pf_doubtP (num n dd) (by simp [num])) _ (iNum (clean (medC (S.map S6.x)))) hal hi hsm
    · rw [show calmV (tabV T :: us.map U.v) = doubt from if_neg hall] at hcall
      exact pf_agreesLD 15 [77, 69, 68, 73, 65, 78] _ doubt hcall hdt (pf_doubtP doubt (by simp [doubt]))


theorem fits1_len {l : List It} (h : fits1 l = true) : l.length ≤ 2147483647 ∧ ∀ x ∈ l, x.text.length ≤ 2147483647 := by
  unfold fits1 at h
  rw [Bool.and_eq_true] at h
  exact ⟨of_decide_eq_true h.1, fun x hx => of_decide_eq_true (List.all_eq_true.1 h.2 x hx)⟩


-- pub-tallysheet/laws.FnMedian
theorem pf_FnMedian (l : List It) (cols : Int) (more : List It) : PF Tryz.prog G 5 [itL l, i64 cols, itL more] (bl true) := by
  refine PC.intro rfl Tryz.func5 rfl (Nat.le_of_ble_eq_true rfl) rfl ?_
  refine w_seq (w_reg (s_q rfl rfl (q_mv (.inr rfl) (is_sc rfl)) ?_))
  refine s_nil (n_n (w_seq (w_seq (w_reg (s_q rfl rfl (q_mv (.inl rfl) (by first | exact is_im rfl | exact is_gs rfl | exact is_lit rfl | exact is_ms rfl | exact is_sc rfl | exact rfl)) ?_)))))
  refine s_q rfl rfl (q_call rfl rfl rfl rfl (pf_zzFits1 l)) ?_
  refine s_q rfl rfl (q_not rfl rfl) ?_
  refine s_q rfl rfl (q_mv (.inl rfl) (is_sc rfl)) ?_
  refine s_split 10 (is_scb rfl) (fun h10 => ?_) (fun h10 => ?_)
  · refine s_off rfl rfl ?_
    refine s_off rfl rfl ?_
    refine s_off rfl rfl ?_
    refine s_q rfl rfl (q_pickT rfl rfl (is_sc rfl)) ?_
    refine s_nil (n_n (w_ifT rfl (w_seq (w_reg (s_q rfl rfl (q_mv (.inr rfl) (is_sc rfl)) ?_)))))
    refine s_nil (n_n (w_ret (n_r ?_)))
    -- end 0
    refine r_r (ra_tmp (is_sc rfl) ra_nil) (by exact (is_sc rfl)) (by exact rfl) sub_no ?_
    rfl
  · have hf1 := fits1_len (show fits1 l = true by simpa using h10)
    refine s_q rfl rfl (q_mv (.inl rfl) (by first | exact is_im rfl | exact is_gs rfl | exact is_lit rfl | exact is_ms rfl | exact is_sc rfl | exact rfl)) ?_
    refine s_q rfl rfl (q_call rfl rfl rfl rfl (pf_zzFits1 more)) ?_
    refine s_q rfl rfl (q_not rfl rfl) ?_
    refine s_q rfl rfl (q_pickF rfl rfl (is_sc rfl)) ?_
    refine s_nil (n_n (w_if (is_scb rfl) (fun h14 => ?_) (fun h14 => ?_)))
    · refine w_seq (w_reg (s_q rfl rfl (q_mv (.inr rfl) (is_sc rfl)) ?_))
      refine s_nil (n_n (w_ret (n_r ?_)))
      -- end 1
      refine r_r (ra_tmp (is_sc rfl) ra_nil) (by exact (is_sc rfl)) (by exact rfl) sub_no ?_
      rfl
    · have hf2 := fits1_len (show fits1 more = true by simpa using h14)
      refine w_skip (n_n (w_seq (w_reg (s_q rfl rfl (q_mv (.inl rfl) (by first | exact is_im rfl | exact is_gs rfl | exact is_lit rfl | exact is_ms rfl | exact is_sc rfl | exact rfl)) ?_))))
      refine s_q rfl rfl (q_mv (.inl rfl) (is_sc rfl)) ?_
      refine s_q rfl rfl (q_mv (.inl rfl) (by first | exact is_im rfl | exact is_gs rfl | exact is_lit rfl | exact is_ms rfl | exact is_sc rfl | exact rfl)) ?_
      refine s_q rfl rfl (q_call rfl rfl rfl rfl (pf_with l cols more hf1.1 hf2.1)) ?_
      refine s_q rfl rfl (q_call rfl rfl rfl rfl (pf_medAgrees l cols more hf1.2 hf2.2)) ?_
      refine s_q rfl rfl (q_mv (.inr rfl) (is_sc rfl)) ?_
      refine s_nil (n_n (w_ret ?_))
      -- end 2
      refine r_r (ra_tmp (is_sc rfl) ra_nil) (by exact (is_sc rfl)) (by exact rfl) sub_no ?_
      rfl

end Go.Proofs.YtopgbalmdocboaaGreatDoor.Zz
