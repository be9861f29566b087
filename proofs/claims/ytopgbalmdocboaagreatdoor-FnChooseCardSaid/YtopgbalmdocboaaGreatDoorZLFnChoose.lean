/- Walks of the functions, printed by program, and the logic behind them: each theorem says what one function or one step answers. -/
import Derived.Test.YtopgbalmdocboaaGreatDoorZSpCHOOSE
import Derived.Test.YtopgbalmdocboaaGreatDoorZPrCHOOSE
import Derived.Test.YtopgbalmdocboaaGreatDoorZM
import Derived.Test.YtopgbalmdocboaaGreatDoorZWe
import Derived.Test.YtopgbalmdocboaaGreatDoorZItm
import Derived.Test.YtopgbalmdocboaaGreatDoorZSm
namespace Go.Proofs.YtopgbalmdocboaaGreatDoor.Zz
open Go.Abs
set_option maxRecDepth 100000
set_option linter.unusedVariables false
set_option linter.unusedSimpArgs false
set_option maxHeartbeats 4000000
variable {G : Nat → D}

theorem thruI (x : It) (h6 : ¬ (itU x).v.kind = 6) : PF Tryz.prog G 41 [(itU x).v.d] (ivX (itU x).v).d ∧ PF Tryz.prog G 66 [(ivX (itU x).v).d] (innX (ivX (itU x).v)).d := by
  rw [itU_v] at h6 ⊢
  rcases it_cases x with e | e | ⟨m, d, y, k, e, ok⟩ | e | ⟨c, e⟩ | ⟨k, hk, e⟩ <;> rw [e] at h6 ⊢
  · exact ⟨pf_of0, pf_inner0⟩
  · exact absurd rfl h6
  · exact ⟨pf_ofN m d _ ok.q, pf_innerN _ _ ok.fx⟩
  · exact ⟨pf_ofS _, pf_innerS _⟩
  · have hi := pf_innerB (G := G) (FloatKind.f64.nearest (if c then 1 else 0))
    exact ⟨pf_ofB c, hi⟩
  · exact ⟨pf_ofE _, pf_innerE _⟩
theorem thruV (x : It) (h0 : ¬ (itU x).v.kind = 0) (h6 : ¬ (itU x).v.kind = 6) : ∃ r : IV, PF Tryz.prog G 42 [(innX (ivX (itU x).v)).d] r.d ∧ PF Tryz.prog G 23 [r.d, (itU x).v.d] (bl true) ∧ PF Tryz.prog G 25 [r.d] r.d := by
  rw [itU_v] at h0 h6 ⊢
  rcases it_cases x with e | e | ⟨m, d, y, k, e, ok⟩ | e | ⟨c, e⟩ | ⟨k, hk, e⟩ <;> rw [e] at h0 h6 ⊢
  · exact absurd rfl h0
  · exact absurd rfl h6
  · refine ⟨iNum (clean (qV (num m d))), pf_doorN _, ?_, pf_out _ _ _⟩
    have hsm := pf_same (G := G) 1 1 (clean (qV (num m d))) (qV (num m d)) [] [] (num m d) (pf_ofN m d _ ok.q)
    rw [sameN (fx_clean ok.fx) ok.fx] at hsm; exact hsm
  · refine ⟨iStr x.text, pf_doorS _, ?_, pf_out _ _ _⟩
    have hsm := pf_same (G := G) 2 2 0 0 x.text x.text (strV x.text) (pf_ofS _)
    rw [sameS] at hsm; exact hsm
  · refine ⟨iBool (if c then 4607182418800017408 else 0), ?_, ?_, pf_out _ _ _⟩
    · have hd := pf_doorB (G := G) c
      have e2 : innX (ivX (boolV c)) = fBool c := by
        show fBool (fcmp .neq .f64 (FloatKind.f64.nearest (if c then 1 else 0)) 0) = _
        rw [innB]
      rw [e2]; exact hd
    · have hsm := pf_same (G := G) 3 3 (if c then 4607182418800017408 else 0) (FloatKind.f64.nearest (if c then 1 else 0)) [] [] (boolV c) (pf_ofB c)
      have hsb := same_bool c
      unfold iBool at hsb
      rw [hsb] at hsm; exact hsm
  · refine ⟨iErr (errsT[k]'hk), pf_doorE _ _, ?_, pf_out _ _ _⟩
    have hsm := pf_same (G := G) 4 4 0 0 (errsT[k]'hk) (errsT[k]'hk) (errV (errsT[k]'hk)) (pf_ofE _)
    rw [sameE] at hsm; exact hsm
abbrev restV (L : List It) : List V := L.map fun x => (itU x).v
theorem choose_rest (n : Int) (L : List It) (hL : L.length ≤ 20) (hn : ¬ (99999999999 < n ∨ n < -99999999999)) (hkf : ∀ x ∈ L, x.text.length ≤ 2147483647) : ∃ want, PF Tryz.prog G 110 [lst (num n 1 :: restV L)] want.d ∧
    (want = doubt ∨ (want = errV [35, 86, 65, 76, 85, 69, 33] ∧ 0 < L.length ∧ 1 ≤ n ∧ n < 1000000 ∧ (L.length + 1 : Nat) ≤ n) ∨ ∃ m : Nat, ∃ h : m < L.length, n = (m + 1 : Nat) ∧ 1 ≤ n ∧ n < 1000000 ∧ want = (itU L[m]).v ∧ ¬ want.kind = 0) := by
  have hrl : (restV L).length = L.length := by simp [restV]
  by_cases hr : 0 < L.length
  · by_cases h1 : n < 1
    · exact ⟨doubt, pf_choose1 n (restV L) (by omega) h1, .inl rfl⟩
    by_cases h2 : n < 1000000
    · have hk : ∀ v ∈ num n 1 :: restV L, ¬ v.kind = 5 := fun v hv => by
        rcases List.mem_cons.1 hv with rfl | hv
        · simp [num]
        · obtain ⟨x, _, rfl⟩ := List.mem_map.1 hv
          exact it_five x
      have hfst := pf_first (G := G) (num n 1 :: restV L) (by rw [List.length_cons]; omega) hk
      have hcalm := pf_calmG (G := G) (num n 1 :: restV L) _ _ hfst
      cases hb : (firstV (num n 1 :: restV L)).2 with
      | true =>
        rw [hb] at hcalm
        exact ⟨doubt, pf_choose3 n (restV L) (by omega) (by omega) h2 hcalm, .inl rfl⟩
      | false =>
        rw [hb] at hcalm
        by_cases h4 : (L.length + 1 : Nat) ≤ n
        · exact ⟨_, pf_choose4 n (restV L) (by omega) (by omega) h2 hcalm (by omega), .inr (.inl ⟨rfl, hr, by omega, h2, h4⟩)⟩
        · obtain ⟨m, rfl⟩ : ∃ m : Nat, n = (m + 1 : Nat) := ⟨(n - 1).toNat, by omega⟩
          have hm : m < L.length := by omega
          have hlen : m + 1 < (num ((m + 1 : Nat) : Int) 1 :: restV L).length := by rw [List.length_cons]; omega
          have hel : (num ((m + 1 : Nat) : Int) 1 :: restV L)[m + 1] = (itU L[m]).v := by simp [restV]
          by_cases h0 : (itU L[m]).v.kind = 0
          · exact ⟨doubt, pf_choose6 (m + 1) (restV L) (by omega) (by omega) h2 hcalm hlen (by rw [hel]; exact h0), .inl rfl⟩
          · have h5 := pf_choose5 (G := G) (m + 1) (restV L) (by omega) (by omega) h2 hcalm hlen (by rw [hel]; exact h0)
            rw [hel] at h5
            exact ⟨_, h5, .inr (.inr ⟨m, hm, rfl, by omega, h2, rfl, h0⟩)⟩
    · exact ⟨doubt, pf_choose2 n (restV L) (by omega) (by omega) h2, .inl rfl⟩
  · obtain rfl : L = [] := List.length_eq_zero_iff.1 (by omega)
    exact ⟨doubt, pf_choose0 n, .inl rfl⟩
theorem pf_chooseAgrees (n : Int) (l : List It) (hf : fits1 l = true) (T : Tabs G) : PF Tryz.prog G 8 [.fn 14 [] [], st [67, 72, 79, 79, 83, 69], lst (intV n :: restV (l.take 20))] (bl true) := by
  obtain ⟨L, hLe⟩ : ∃ L, l.take 20 = L := ⟨_, rfl⟩
  have hL : L.length ≤ 20 := by rw [← hLe, List.length_take]; omega
  have htx : ∀ x ∈ L, x.text.length ≤ 2147483647 := fun x hx => by
    unfold fits1 at hf
    rw [Bool.and_eq_true, List.all_eq_true] at hf
    rw [← hLe] at hx
    exact of_decide_eq_true (hf.2 x (List.mem_of_mem_take hx))
  rw [hLe]
  clear hLe hf
  have fin : ∀ (u0 : U) (want : V), u0.v = intV n → u0.text = [] → ¬ u0.kind = 5 → PF Tryz.prog G 110 [lst (u0.v :: restV L)] want.d → PF Tryz.prog G 20 [st [67, 72, 79, 79, 83, 69], lstU (u0 :: L.map itU)] want.d := fun u0 want hu ht hk hch => by
    have hev := pf_every (G := G) ((u0 :: L.map itU).map U.v) (by simp; omega) 161 numW (fun v hv => by
      obtain ⟨u, hu2, rfl⟩ := List.mem_map.1 hv
      refine pf_numericU u ?_
      rcases List.mem_cons.1 hu2 with rfl | hu2
      · rw [ht]; decide
      · obtain ⟨x, hx, rfl⟩ := List.mem_map.1 hu2
        have := it_text (htx x hx); omega)
    have e : (u0 :: L.map itU).map U.v = u0.v :: restV L := by simp [restV]
    rw [e] at hev
    have hc := pf_Call_CHOOSE (G := G) (u0.v :: restV L) _ want hev hch
    rw [← e, lst_U] at hc; exact hc
  have hfive : ∀ (u0 : U), ¬ u0.kind = 5 → ∀ u ∈ u0 :: L.map itU, ¬ u.kind = 5 := fun u0 h0 u hu => by
    rcases List.mem_cons.1 hu with rfl | hu
    · exact h0
    · obtain ⟨x, _, rfl⟩ := List.mem_map.1 hu; exact it_five x
  have hlst : ∀ u0 : U, u0.v = intV n → lst (intV n :: restV L) = lstU (u0 :: L.map itU) := fun u0 h => by rw [← lst_U, ← h]; simp [restV]; rfl
  have hlen : ∀ u0 : U, (u0 :: L.map itU).length < 1000000000 := fun u0 => by simp; omega
  by_cases hn : 99999999999 < n ∨ n < -99999999999
  · have hu : (⟨6, 0, 0, []⟩ : U).v = intV n := by rw [intV_doubt hn]; rfl
    rw [hlst _ hu]
    exact pf_agreesT 14 [67, 72, 79, 79, 83, 69] _ (hlen _) (hfive _ (by simp)) doubt (fin _ doubt hu rfl (by simp) (pf_chooseQ (restV L))) rfl
  have hu : (⟨1, n, 1, []⟩ : U).v = intV n := by rw [intV_num hn]; rfl
  obtain ⟨want, hch, hw⟩ := choose_rest (G := G) n L hL hn htx
  have hcall := fin ⟨1, n, 1, []⟩ want hu rfl (by simp) hch
  rw [hlst _ hu]
  have h5 := hfive ⟨1, n, 1, []⟩ (by simp)
  cases hd : (((⟨1, n, 1, []⟩ : U) :: L.map itU).map U.v).any (isK 6) with
  | true => exact pf_agreesT 14 [67, 72, 79, 79, 83, 69] _ (hlen _) h5 want hcall hd
  | false =>
    rcases hw with rfl | hw
    · exact pf_agreesD 14 [67, 72, 79, 79, 83, 69] _ (hlen _) h5 doubt hcall hd (pf_doubtP doubt (by simp [doubt]))
    have h6 : ∀ x ∈ L, ¬ (itU x).v.kind = 6 := fun x hx e => by
      have := List.any_eq_false.1 hd (itU x).v (List.mem_map.2 ⟨itU x, List.mem_cons_of_mem _ (List.mem_map.2 ⟨x, hx, rfl⟩), rfl⟩)
      exact this (by simp [isK, e])
    obtain ⟨hq, hx, hqb⟩ := qV_whole hn
    have hal : PF Tryz.prog G 24 [lstU ((⟨1, n, 1, []⟩ : U) :: L.map itU)] (ilst (iNum (qV (num n 1)) :: L.map fun x => ivX (itU x).v)) := by
      have := pf_all (G := G) (((⟨1, n, 1, []⟩ : U) :: L.map itU).map U.v) (by simp; omega) ivX (fun v hv => by
        obtain ⟨u, hu2, rfl⟩ := List.mem_map.1 hv
        rcases List.mem_cons.1 hu2 with rfl | hu2
        · exact pf_ofN n 1 _ hq
        · obtain ⟨x, hx2, rfl⟩ := List.mem_map.1 hu2
          exact (thruI x (h6 x hx2)).1)
      rw [lst_U] at this
      have e : (((⟨1, n, 1, []⟩ : U) :: L.map itU).map U.v).map ivX = iNum (qV (num n 1)) :: L.map fun x => ivX (itU x).v := by simp; rfl
      rw [e] at this; exact this
    obtain ⟨ivs, hivs⟩ : ∃ ivs, (iNum (qV (num n 1)) :: L.map fun x => ivX (itU x).v) = ivs := ⟨_, rfl⟩
    have hil : ivs.length = L.length + 1 := by rw [← hivs]; simp
    have hrows : ∀ v ∈ ivs, v.rows = [] := fun v hv => by
      rw [← hivs] at hv
      rcases List.mem_cons.1 hv with rfl | hv
      · rfl
      · obtain ⟨x, _, rfl⟩ := List.mem_map.1 hv; exact ivX_rows _
    have hin0 : ∀ v ∈ ivs, PF Tryz.prog G 66 [v.d] (innX v).d := fun v hv => by
      rw [← hivs] at hv
      rcases List.mem_cons.1 hv with rfl | hv
      · exact pf_innerN _ _ hx
      · obtain ⟨x, hx2, rfl⟩ := List.mem_map.1 hv; exact (thruI x (h6 x hx2)).2
    have hin := pf_in (G := G) ivs (by omega) hrows
    have hgen : 0 < L.length → 1 ≤ n → n < 1000000 → ∃ m : Nat, n = m ∧ PF Tryz.prog G 61 [(fNum (clean (qV (num n 1)))).d] (st (Lib.decDigits m)) ∧ PF Tryz.prog G 67 [st (Lib.decDigits m)] (.tup [i64 m, .sc .nilIface]) := fun _ h1 h2 => by
      obtain ⟨m, rfl⟩ : ∃ m : Nat, n = m := ⟨n.toNat, by omega⟩
      have hok := num_whole_ok hn
      have hcw := clean_lt hqb
      have hcx := fx_clean hx
      have hup := unit_pos
      have hpos : (0 : Int) < (m : Int) * ((unit : Nat) : Int) := Int.mul_pos (by omega) (by omega)
      have hs := fx_sign hcw hcx (by omega)
      have hsg : clean (qV (num (m : Int) 1)) / 2 ^ 63 = 0 := by
        have h1 : ¬ clean (qV (num (m : Int) 1)) / 2 ^ 63 = 1 := fun e => by rw [hs] at e; omega
        omega
      have hval := pf_ValueN (G := G) (clean (qV (num (m : Int) 1))) (16 * m) _ hcw hcx (by have := hok.six; rwa [Int.natAbs_natCast] at this) (by omega) T
      rw [hsg, show decide (¬ ((0 : Nat) : Int) = 0) = false from rfl, txt_whole (by omega)] at hval
      have hnd := nDigits_le (u := m) 6 (by omega) (by omega)
      exact ⟨m, rfl, hval, pf_Atoi _ _ (by rw [Lib.decDigits_length]; omega) (atoi_dec m)⟩
    rw [hivs] at hal
    have hi0 : ∀ h : 0 < ivs.length, innX ivs[0] = fNum (clean (qV (num n 1))) := fun h => by subst hivs; rfl
    rcases hw with ⟨rfl, hl0, h1, h2, hle⟩ | ⟨m, hm, hnm, h1, h2, hwe, hw0⟩
    · obtain ⟨k, hk, hv, ha⟩ := hgen hl0 h1 h2
      have hsm := pf_same (G := G) 4 4 0 0 [35, 86, 65, 76, 85, 69, 33] [35, 86, 65, 76, 85, 69, 33] (errV [35, 86, 65, 76, 85, 69, 33]) (pf_ofE _)
      rw [sameE] at hsm
      exact pf_agreesS 14 [67, 72, 79, 79, 83, 69] _ (hlen _) h5 _ hcall hd (pf_doubtP (errV [35, 86, 65, 76, 85, 69, 33]) (by simp [errV])) ivs (iErr [35, 86, 65, 76, 85, 69, 33]) hal
        (pf_ImplCHOOSEE ivs _ k _ (by omega) (by omega) (hi0 (by omega)) hin0 hv ha (by omega) hin (pf_out _ _ _)) hsm
    · obtain ⟨k, hk, hv, ha⟩ := hgen (by omega) h1 h2
      obtain rfl : k = m + 1 := by omega
      have hmem : L[m] ∈ L := List.getElem_mem hm
      obtain ⟨r, hd1, hd2, hd3⟩ := thruV (G := G) L[m] (by rw [← hwe]; exact hw0) (h6 _ hmem)
      have hel : ivs[m + 1]'(by omega) = ivX (itU L[m]).v := by subst hivs; simp
      have hdw : PF Tryz.prog G 21 [want.d] (bl false) := by
        have := pf_doubtP (G := G) want (by rw [hwe]; exact it_five _)
        rw [show isK 6 want = false from decide_eq_false (by rw [hwe]; exact h6 _ hmem)] at this; exact this
      exact pf_agreesS 14 [67, 72, 79, 79, 83, 69] _ (hlen _) h5 want hcall hd hdw ivs r hal
        (pf_ImplCHOOSEV ivs _ (m + 1) _ (by omega) (by omega) (hi0 (by omega)) hin0 hv ha (by omega) r (by rw [hel]; exact hd1) hin hd3) (by rw [hwe]; exact hd2)


-- pub-tallysheet/laws.FnChoose
theorem pf_FnChoose (n : Int) (l : List It) (T : Tabs G) : PF Tryz.prog G 4 [i64 n, itL l] (bl true) := by
  refine PC.intro rfl Tryz.func4 rfl (Nat.le_of_ble_eq_true rfl) rfl ?_
  refine w_seq (w_reg (s_q rfl rfl (q_mv (.inr rfl) (is_sc rfl)) ?_))
  refine s_nil (n_n (w_seq (w_seq (w_reg (s_q rfl rfl (q_mv (.inl rfl) (by first | exact is_im rfl | exact is_gs rfl | exact is_lit rfl | exact is_ms rfl | exact is_sc rfl | exact rfl)) ?_)))))
  refine s_q rfl rfl (q_call rfl rfl rfl rfl (pf_zzFits1 _)) ?_
  refine s_q rfl rfl (q_not rfl rfl) ?_
  refine s_nil (n_n (w_if (is_scb rfl) (fun h9 => ?_) (fun h9 => ?_)))
  · refine w_seq (w_reg (s_q rfl rfl (q_mv (.inr rfl) (is_sc rfl)) ?_))
    refine s_nil (n_n (w_ret (n_r ?_)))
    -- end 0
    refine r_r (ra_tmp (is_sc rfl) ra_nil) (by exact (is_sc rfl)) (by exact rfl) sub_no ?_
    rfl
  · have hf : fits1 l = true := by simpa using h9
    refine w_skip (n_n (w_seq (w_reg (s_q rfl rfl (q_mv (.inl rfl) (is_sc rfl)) ?_))))
    refine s_q rfl rfl (q_call rfl rfl rfl rfl (pf_int _)) ?_
    refine s_q rfl rfl (q_bs rfl (pt_cons (by first | exact (rfl : _ = D.agg [_, _, _, _, _]) | exact rfl) pt_nil) (by decide) (by decide) (by exact (rfl : _ = some [_, _, _, _, _])) (by exact (rfl : _ = [_, _, _, _, _])) (by exact rfl) (by exact rfl)) ?_
    refine s_q rfl rfl (q_mv (.inr rfl) (by first | exact is_im rfl | exact is_gs rfl | exact is_lit rfl | exact is_ms rfl | exact is_sc rfl | exact rfl)) ?_
    refine s_nil (n_n (w_seq (w_seq (w_reg (s_q rfl rfl (q_mv (.inr rfl) (is_sc rfl)) ?_)))))
    refine s_nil (n_n (w_block ?_))
    refine w_loop (fun env A => ∃ (i : Nat) (dd : D) (live : Nat → Bool) (ln : Nat), i ≤ l.length ∧ i ≤ 20 ∧ Binds env [(1, itL l), (5, dd), (6, i64 i)] ∧ IsOwn2 A 27 dd (i + 1) ((intV n :: (l.take i).map fun x => (itU x).v).flatMap V.c) ∧ A = ⟨[], live, ln, noHeap⟩) (fun env _ => l.length - ctr (env 6)) ?_ ?_
    · exact ⟨0, _, _, _, Nat.zero_le _, Nat.zero_le _, ⟨rfl, rfl, rfl, trivial⟩, .inl rfl, rfl⟩
    · rintro env A ⟨i, dd, live, ln, hi, hi20, hB, hown, rfl⟩
      rw [hB.eq]; clear hB
      refine w_seq (w_seq (w_reg (s_q rfl rfl (q_mv (.inl rfl) (is_sc rfl)) ?_)))
      refine s_q rfl rfl (q_mv (.inl rfl) (by first | exact is_im rfl | exact is_gs rfl | exact is_lit rfl | exact is_ms rfl | exact is_sc rfl | exact rfl)) ?_
      refine s_q rfl rfl (q_len rfl rfl rfl) ?_
      refine s_q rfl rfl (q_lss rfl rfl rfl) ?_
      refine s_q rfl rfl (q_mv (.inl rfl) (is_sc rfl)) ?_
      refine s_split 17 (is_scb rfl) (fun h16 => ?_) (fun h16 => ?_)
      · have hlt : i < l.length := by have h' : (i : Int) < ((l.length : Nat) : Int) := of_decide_eq_true h16; omega
        refine s_q rfl rfl (q_mv (.inl rfl) (is_sc rfl)) ?_
        refine s_q rfl rfl (q_lss rfl rfl rfl) ?_
        refine s_q rfl rfl (q_pickT rfl rfl (is_sc rfl)) ?_
        refine s_nil (n_n (w_if (is_scb rfl) (fun h19 => ?_) (fun h19 => ?_)))
        · have hlt20 : i < 20 := by have h' : (i : Int) < 20 := of_decide_eq_true h19; omega
          refine w_skip (n_n (w_seq (w_block (w_reg (s_q rfl rfl (q_mv (.inl rfl) (by first | exact is_im rfl | exact is_gs rfl | exact is_lit rfl | exact is_ms rfl | exact is_sc rfl | exact rfl)) ?_)))))
          refine s_q rfl rfl (q_mv (.inl rfl) (by first | exact is_im rfl | exact is_gs rfl | exact is_lit rfl | exact is_ms rfl | exact is_sc rfl | exact rfl)) ?_
          refine s_q rfl rfl (q_mv (.inl rfl) (is_sc rfl)) ?_
          refine s_q rfl rfl (q_index rfl rfl rfl rfl (Int.natCast_nonneg _) (by omega)) ?_
          refine s_q rfl rfl (q_loadPin rfl rfl (by exact take_itl hlt)) ?_
          refine s_q rfl rfl (q_call rfl rfl rfl rfl (pf_val _)) ?_
          refine s_q rfl rfl (q_bs rfl (pt_cons (by first | exact (rfl : _ = D.agg [_, _, _, _, _]) | exact rfl) pt_nil) (by decide) (by decide) (by exact (rfl : _ = some [_, _, _, _, _])) (by exact (rfl : _ = [_, _, _, _, _])) (by exact rfl) (by exact rfl)) ?_
          refine s_o rfl rfl (ao_appendOwn2 (n := i + 1) (m := 1) (xs := ((intV n :: (l.take i).map fun x => (itU x).v).flatMap V.c)) rfl rfl hown rfl rfl (by decide) (by decide) (by rw [len_lst]; simp; omega) rfl (by show (i + 1 + 1) * 64 ≤ _; omega) (by show i + 1 + 1 ≤ 9223372036854775807; omega) fun A' e1 e2 e3 => ?_)
          obtain ⟨o2, live2, ln2, h2⟩ := A'
          replace e1 : o2 = [] := e1
          replace e2 : noHeap = h2 := e2.symm
          subst e1; subst e2
          refine s_q rfl rfl (q_mv (.inr rfl) (by first | exact is_im rfl | exact is_gs rfl | exact is_lit rfl | exact is_ms rfl | exact is_sc rfl | exact rfl)) ?_
          refine s_nil (b_n (n_n (w_reg (s_q rfl rfl (q_mv (.inl rfl) (is_sc rfl)) ?_))))
          refine s_q rfl rfl (q_add rfl rfl rfl) ?_
          refine s_q rfl rfl (q_mv (.inr rfl) (is_sc rfl)) ?_
          refine s_nil (n_n ?_)
          have hw : IntKind.i64.wrap ((i : Int) + 1) = ((i + 1 : Nat) : Int) := wrap_nat (by omega)
          refine ⟨⟨i + 1, _, live2, ln2, hlt, hlt20, ⟨rfl, rfl, i64_eq hw, trivial⟩, .inr ⟨ln, ?_, e3⟩, rfl⟩, ?_⟩
          · refine gs_eq ?_ rfl
            rw [List.take_succ_eq_append_getElem hlt, List.map_append, ← List.cons_append, List.flatMap_append]; rfl
          · show l.length - (IntKind.i64.wrap ((i : Int) + 1)).toNat < l.length - (i : Int).toNat
            rw [hw]; omega
        · have hi2 : i = 20 := by have h' : ¬ (i : Int) < 20 := of_decide_eq_false h19; omega
          have htk : l.take i = l.take 20 := by rw [hi2]
          refine w_exit (n_e (n_e (b_hit (n_n (w_seq (w_reg (s_q rfl rfl (q_mv (.inl rfl) (by first | exact is_im rfl | exact is_gs rfl | exact is_lit rfl | exact is_ms rfl | exact is_sc rfl | exact rfl)) ?_)))))))
          have hds : [D.fn 14 [] [], st [67, 72, 79, 79, 83, 69], fz dd] = [D.fn 14 [] [], st [67, 72, 79, 79, 83, 69], lst (intV n :: restV (l.take 20))] := by
            rw [own2_fz hown, htk]
            have hln : i + 1 = (intV n :: restV (l.take 20)).length := by rw [← htk]; simp [restV, List.length_take]; omega
            rw [hln]; rfl
          refine s_q rfl rfl (q_call (ds := [D.fn 14 [] [], st [67, 72, 79, 79, 83, 69], lst (intV n :: restV (l.take 20))]) rfl rfl hds rfl (pf_chooseAgrees n l hf T)) ?_
          refine s_q rfl rfl (q_mv (.inr rfl) (is_sc rfl)) ?_
          refine s_nil (n_n (w_ret ?_))
          -- end 1
          refine r_r (ra_tmp (is_sc rfl) ra_nil) (by exact (is_sc rfl)) (by exact rfl) sub_no ?_
          rfl
      · have hge : l.length ≤ i := by have h' : ¬ (i : Int) < ((l.length : Nat) : Int) := of_decide_eq_false h16; omega
        have htk : l.take i = l.take 20 := by rw [List.take_of_length_le hge, List.take_of_length_le (by omega)]
        refine s_off rfl rfl ?_
        refine s_off rfl rfl ?_
        refine s_q rfl rfl (q_pickF rfl rfl (is_sc rfl)) ?_
        refine s_nil (n_n (w_ifF rfl (w_exit (n_e (n_e (b_hit (n_n (w_seq (w_reg (s_q rfl rfl (q_mv (.inl rfl) (by first | exact is_im rfl | exact is_gs rfl | exact is_lit rfl | exact is_ms rfl | exact is_sc rfl | exact rfl)) ?_))))))))))
        have hds : [D.fn 14 [] [], st [67, 72, 79, 79, 83, 69], fz dd] = [D.fn 14 [] [], st [67, 72, 79, 79, 83, 69], lst (intV n :: restV (l.take 20))] := by
          rw [own2_fz hown, htk]
          have hln : i + 1 = (intV n :: restV (l.take 20)).length := by rw [← htk]; simp [restV, List.length_take]; omega
          rw [hln]; rfl
        refine s_q rfl rfl (q_call (ds := [D.fn 14 [] [], st [67, 72, 79, 79, 83, 69], lst (intV n :: restV (l.take 20))]) rfl rfl hds rfl (pf_chooseAgrees n l hf T)) ?_
        refine s_q rfl rfl (q_mv (.inr rfl) (is_sc rfl)) ?_
        refine s_nil (n_n (w_ret ?_))
        -- end 2
        refine r_r (ra_tmp (is_sc rfl) ra_nil) (by exact (is_sc rfl)) (by exact rfl) sub_no ?_
        rfl

end Go.Proofs.YtopgbalmdocboaaGreatDoor.Zz
