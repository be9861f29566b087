/- Walks of the functions, printed by program, and the logic behind them: each theorem says what one function or one step answers. -/
import Derived.Test.YtpjckdhgefbonaaGreatDoorZPrJoin
namespace Go.Proofs.YtpjckdhgefbonaaGreatDoor.Zz
open Go.Abs
set_option maxRecDepth 100000
set_option linter.unusedVariables false
set_option linter.unusedSimpArgs false
set_option maxHeartbeats 4000000
variable {G : Nat → D}

-- pub-tallysheet/pub/excelize.newBoolFormulaArg
theorem pf_newBool (c : Bool) : PF Tryz.prog G 87 [bl c] (fBool c).d := by
  refine PC.intro rfl Tryz.func87 rfl (Nat.le_of_ble_eq_true rfl) rfl ?_
  refine w_seq (w_reg (s_s rfl rfl (as_alloc0 (id := 0) rfl rfl (by exact (rfl : _ = [_, _, _, _, _, _, _, _, _, _]))) ?_))
  refine s_nil (n_n (w_seq (w_reg (s_q rfl rfl (q_mv (.inr rfl) (is_sc rfl)) ?_))))
  refine s_nil (n_n (w_seq (w_seq (w_reg (s_q rfl rfl (q_mv (.inl rfl) (is_sc rfl)) ?_)))))
  refine s_nil (n_n (w_if (is_scb rfl) (fun h4 => ?_) (fun h4 => ?_)))
  · refine w_reg (s_q rfl rfl (q_mv (.inr rfl) (is_sc rfl)) ?_)
    refine s_nil (n_n (w_seq (w_reg (s_q rfl rfl (q_mv (.inl rfl) (is_sc rfl)) ?_))))
    refine s_q rfl rfl (q_build rfl (pt_cons (is_sc rfl) (pt_cons (is_sc rfl) (pt_cons (is_sc rfl) pt_nil))) (by exact (rfl : _ = some [_, _, _, _, _, _, _, _, _, _]))) ?_
    refine s_u rfl rfl (as_st rfl rfl (by first | exact (rfl : _ = D.agg [_, _, _, _, _, _, _, _, _, _]) | exact rfl) rfl (by exact rfl) (by exact rfl) (by exact Nat.le_of_ble_eq_true rfl) (by exact (rfl : _ = [_, _, _, _, _, _, _, _, _, _]))) ?_
    refine s_nil (n_n (w_ret ?_))
    -- end 0
    refine r_r (ra_cell (by exact (rfl : _ = some (D.agg [_, _, _, _, _, _, _, _, _, _]))) ra_nil) (by first | exact (rfl : _ = D.agg [_, _, _, _, _, _, _, _, _, _]) | exact rfl) (by exact rfl) sub_no ?_
    obtain rfl : c = true := h4
    rfl
  · refine w_skip (n_n (w_seq (w_reg (s_q rfl rfl (q_mv (.inl rfl) (is_sc rfl)) ?_))))
    refine s_q rfl rfl (q_build rfl (pt_cons (is_sc rfl) (pt_cons (is_sc rfl) (pt_cons (is_sc rfl) pt_nil))) (by exact (rfl : _ = some [_, _, _, _, _, _, _, _, _, _]))) ?_
    refine s_u rfl rfl (as_st rfl rfl (by first | exact (rfl : _ = D.agg [_, _, _, _, _, _, _, _, _, _]) | exact rfl) rfl (by exact rfl) (by exact rfl) (by exact Nat.le_of_ble_eq_true rfl) (by exact (rfl : _ = [_, _, _, _, _, _, _, _, _, _]))) ?_
    refine s_nil (n_n (w_ret ?_))
    -- end 1
    refine r_r (ra_cell (by exact (rfl : _ = some (D.agg [_, _, _, _, _, _, _, _, _, _]))) ra_nil) (by first | exact (rfl : _ = D.agg [_, _, _, _, _, _, _, _, _, _]) | exact rfl) (by exact rfl) sub_no ?_
    obtain rfl : c = false := h4
    rfl


-- pub-tallysheet/pub/excelize.textJoin
theorem pf_textJoinP (h : Heap) (k : Nat) (es : List (Nat × D)) (H : IsList h k es) (b : List UInt8) (c : Bool) (l : List (List UInt8)) (hes : es.map (·.2) = .ifc 79 (fStr b).d :: .ifc 79 (fBool c).d :: l.map fun s => .ifc 79 (fStr s).d) (h20 : l.length ≤ 20) (hne : ¬ l = []) : ACall Tryz.prog G 72 true [.hp (es[2]'(by have := congrArg List.length hes; have := List.length_pos_iff.mpr hne; simp at *; omega)).1 0, .lit [] 0, bl c] h (fun v h' => v = .tup [.im ((keepL c l).map st) (keepL c l).length, (fBool true).d] ∧ h' = h) := by
  have hle : es.length = l.length + 2 := by have := congrArg List.length hes; simpa using this
  have hpos : 0 < l.length := List.length_pos_iff.mpr hne
  have hval : ∀ j (hj : j < l.length) (hj2 : j + 2 < es.length), Heap.get h es[j + 2].1 3 = some (.ifc 79 (fStr l[j]).d) := fun j hj hj2 => by
    rw [H.val _ (List.getElem_mem hj2)]
    have h1 : (es.map (·.2))[j + 2]'(by simpa using hj2) = es[j + 2].2 := by simp
    rw [← h1]; simp [hes]
  refine ACall.intro rfl Tryz.func72 rfl (Nat.le_of_ble_eq_true rfl) rfl ?_
  refine w_seq (w_reg (s_q rfl rfl (q_mv (.inr rfl) (by first | exact is_im rfl | exact is_gs rfl | exact is_lit rfl | exact is_ms rfl | exact is_sc rfl | exact rfl)) ?_))
  refine s_s rfl rfl (as_alloc0 (id := 0) rfl rfl (by exact (rfl : _ = [_, _, _, _, _, _, _, _, _, _]))) ?_
  refine s_nil (n_n (w_seq (w_seq (w_reg (s_q rfl rfl (q_mv (.inl rfl) (by first | exact is_box rfl | exact is_hp rfl | exact is_pin rfl | exact is_sc rfl | exact rfl)) ?_)))))
  refine s_o rfl rfl (ao_callH rfl rfl rfl rfl (pf_Next _ k es H 2 (by omega)) fun vn0 Hvn0 hvn0 => ?_)
  obtain ⟨rfl, e⟩ := hvn0
  rw [e]; clear e
  refine s_nil (n_n (w_block ?_))
  refine w_loop (fun env A => ∃ (j : Nat) (dd : D) (live : Nat → Bool) (ln : Nat), j ≤ l.length ∧ Binds env [(0, ptrAt es (j + 2)), (1, dd), (2, bl c), (7, .box 0 0)] ∧ IsOwn A 9 dd (keepL c (l.take j)).length ((keepL c (l.take j)).map st) ∧ A = ⟨[.cells [.sc (.string ⟨⟨[]⟩⟩), .sc (.float .f64 0), .sc (.string ⟨⟨[]⟩⟩), .sc (.slice none 0 0), .sc (.slice none 0 0), .sc (.bool false), .sc (.string ⟨⟨[]⟩⟩), .sc (.int .u8 0), .sc (.pointer none), .sc (.pointer none)]], live, ln, h⟩) (fun env _ => es.length - idxE es (env 0)) ?_ ?_
  · exact ⟨0, _, _, _, Nat.zero_le _, ⟨(ptrAt_lt (by omega)).symm, rfl, rfl, rfl, trivial⟩, .inl ⟨by simp [keepL], by simp [keepL], rfl⟩, rfl⟩
  · rintro env A ⟨j, dd, live, ln, hj, hB, hown, rfl⟩
    rw [hB.eq]; clear hB
    refine w_seq (w_seq (w_reg (s_q rfl rfl (q_mv (.inl rfl) (by first | exact is_box rfl | exact is_hp rfl | exact is_pin rfl | exact is_sc rfl | exact rfl)) ?_)))
    refine s_q rfl rfl (q_ptrAt rfl rfl rfl) ?_
    refine s_nil (n_n (w_if (is_scb rfl) (fun h19 => ?_) (fun h19 => ?_)))
    · have hlt : j + 2 < es.length := of_decide_eq_true h19
      have hj2 : j < l.length := by omega
      rw [ptrAt_lt hlt]
      have hkl : (keepL c (l.take j)).length ≤ 20 := by
        have h1 := keep_len c (l.take j)
        have h2 : (l.take j).length ≤ l.length := by rw [List.length_take]; exact Nat.min_le_right _ _
        omega
      refine w_skip (n_n (w_seq (w_block (w_seq (w_reg (s_q rfl rfl (q_mv (.inl rfl) (by first | exact is_box rfl | exact is_hp rfl | exact is_pin rfl | exact is_sc rfl | exact rfl)) ?_))))))
      refine s_q rfl rfl (q_nil rfl rfl rfl) ?_
      refine s_q rfl rfl (q_field rfl rfl (by exact rfl)) ?_
      refine s_q rfl rfl (q_loadH rfl rfl (d := .ifc 79 (fStr l[j]).d) (by exact hval j hj2 hlt)) ?_
      refine s_q rfl rfl (q_asr rfl rfl) ?_
      refine s_q rfl rfl (q_nth rfl rfl (by exact rfl)) ?_
      refine s_nil (n_n (w_block (w_seq (w_reg (s_q rfl rfl (q_eql rfl rfl rfl) ?_)))))
      refine s_q rfl rfl (q_mv (.inr rfl) (is_sc rfl)) ?_
      refine s_nil (n_n (w_ifF rfl (w_seq (w_seq (w_reg (s_q rfl rfl (q_eql rfl rfl rfl) ?_))))))
      refine s_q rfl rfl (q_mv (.inr rfl) (is_sc rfl)) ?_
      refine s_nil (n_n (w_ifT rfl (w_skip (n_n (w_ifT rfl (w_seq (w_reg (s_q rfl rfl (q_mv (.inl rfl) (by first | exact is_box rfl | exact is_hp rfl | exact is_pin rfl | exact is_sc rfl | exact rfl)) ?_))))))))
      refine s_q rfl rfl (q_nil rfl rfl rfl) ?_
      refine s_q rfl rfl (q_field rfl rfl (by exact rfl)) ?_
      refine s_q rfl rfl (q_loadH rfl rfl (d := .ifc 79 (fStr l[j]).d) (by exact hval j hj2 hlt)) ?_
      refine s_q rfl rfl (q_asr rfl rfl) ?_
      refine s_q rfl rfl (q_call rfl rfl rfl rfl (pf_ValueS _)) ?_
      refine s_q rfl rfl (q_mv (.inr rfl) (is_sc rfl)) ?_
      refine s_nil (n_n (w_seq (w_reg (s_q rfl rfl (q_mv (.inl rfl) (is_sc rfl)) ?_))))
      refine s_q rfl rfl (q_nes rfl rfl rfl) ?_
      refine s_q rfl rfl (q_mv (.inl rfl) (is_sc rfl)) ?_
      refine s_split 47 (is_scb rfl) (fun h47 => ?_) (fun h47 => ?_)
      · have hc : ¬ (l[j] = [] ∧ c = true) := fun x => (of_decide_eq_true h47) x.1
        refine s_off rfl rfl ?_
        refine s_off rfl rfl ?_
        refine s_q rfl rfl (q_pickT rfl rfl (is_sc rfl)) ?_
        refine s_nil (n_n (w_ifT rfl (w_reg (s_q rfl rfl (q_mv (.inl rfl) (by first | exact is_im rfl | exact is_gs rfl | exact is_lit rfl | exact is_ms rfl | exact is_sc rfl | exact rfl)) ?_))))
        refine s_q rfl rfl (q_mv (.inl rfl) (is_sc rfl)) ?_
        refine s_q rfl rfl (q_bs rfl (pt_cons (is_sc rfl) pt_nil) (by decide) (by decide) (by exact (rfl : _ = some [_])) (by exact (rfl : _ = [_])) (by exact rfl) (by exact rfl)) ?_
        refine s_o rfl rfl (ao_appendOwn (n := (keepL c (l.take j)).length) (m := 1) (xs := (keepL c (l.take j)).map st) (ys := [st l[j]]) rfl rfl hown rfl rfl (by decide) (by decide) (by simp) rfl (by show ((keepL c (l.take j)).length + 1) * 16 ≤ _; omega) (by show (keepL c (l.take j)).length + 1 ≤ 9223372036854775807; omega) fun A' e1 e2 e3 => ?_)
        obtain ⟨o2, live2, ln2, h2⟩ := A'
        replace e1 : o2 = [.cells [.sc (.string ⟨⟨[]⟩⟩), .sc (.float .f64 0), .sc (.string ⟨⟨[]⟩⟩), .sc (.slice none 0 0), .sc (.slice none 0 0), .sc (.bool false), .sc (.string ⟨⟨[]⟩⟩), .sc (.int .u8 0), .sc (.pointer none), .sc (.pointer none)]] := e1
        replace e2 : h = h2 := e2.symm
        subst e1; subst e2
        refine s_q rfl rfl (q_mv (.inr rfl) (by first | exact is_im rfl | exact is_gs rfl | exact is_lit rfl | exact is_ms rfl | exact is_sc rfl | exact rfl)) ?_
        refine s_nil (b_n (b_n (n_n (w_reg (s_q rfl rfl (q_mv (.inl rfl) (by first | exact is_box rfl | exact is_hp rfl | exact is_pin rfl | exact is_sc rfl | exact rfl)) ?_)))))
        refine s_o rfl rfl (ao_callH rfl rfl rfl rfl (pf_Next _ k es H (j + 2) hlt) fun vnx Hvnx hvnx => ?_)
        obtain ⟨rfl, e⟩ := hvnx
        rw [e]; clear e
        refine s_q rfl rfl (q_mv (.inr rfl) (by first | exact is_box rfl | exact is_hp rfl | exact is_pin rfl | exact is_sc rfl | exact rfl)) ?_
        refine s_nil (n_n ?_)
        have hk : keepL c (l.take (j + 1)) = (keepL c (l.take j)) ++ [l[j]] := by rw [keep_take hj2, if_neg hc]
        refine ⟨⟨j + 1, _, live2, ln2, hj2, ⟨rfl, rfl, rfl, rfl, trivial⟩, .inr ⟨ln, ?_, e3⟩, rfl⟩, mu_step H hlt⟩
        rw [hk, List.map_append, List.length_append]; rfl
      · have he : l[j] = [] := by have := of_decide_eq_false h47; exact Decidable.not_not.1 this
        refine s_q rfl rfl (q_mv (.inl rfl) (is_sc rfl)) ?_
        refine s_q rfl rfl (q_not rfl rfl) ?_
        refine s_q rfl rfl (q_pickF rfl rfl (is_sc rfl)) ?_
        refine s_nil (n_n (w_if (is_scb rfl) (fun h50 => ?_) (fun h50 => ?_)))
        · have hc : ¬ (l[j] = [] ∧ c = true) := fun x => by rw [x.2] at h50; cases h50
          refine w_reg (s_q rfl rfl (q_mv (.inl rfl) (by first | exact is_im rfl | exact is_gs rfl | exact is_lit rfl | exact is_ms rfl | exact is_sc rfl | exact rfl)) ?_)
          refine s_q rfl rfl (q_mv (.inl rfl) (is_sc rfl)) ?_
          refine s_q rfl rfl (q_bs rfl (pt_cons (is_sc rfl) pt_nil) (by decide) (by decide) (by exact (rfl : _ = some [_])) (by exact (rfl : _ = [_])) (by exact rfl) (by exact rfl)) ?_
          refine s_o rfl rfl (ao_appendOwn (n := (keepL c (l.take j)).length) (m := 1) (xs := (keepL c (l.take j)).map st) (ys := [st l[j]]) rfl rfl hown rfl rfl (by decide) (by decide) (by simp) rfl (by show ((keepL c (l.take j)).length + 1) * 16 ≤ _; omega) (by show (keepL c (l.take j)).length + 1 ≤ 9223372036854775807; omega) fun A' e1 e2 e3 => ?_)
          obtain ⟨o2, live2, ln2, h2⟩ := A'
          replace e1 : o2 = [.cells [.sc (.string ⟨⟨[]⟩⟩), .sc (.float .f64 0), .sc (.string ⟨⟨[]⟩⟩), .sc (.slice none 0 0), .sc (.slice none 0 0), .sc (.bool false), .sc (.string ⟨⟨[]⟩⟩), .sc (.int .u8 0), .sc (.pointer none), .sc (.pointer none)]] := e1
          replace e2 : h = h2 := e2.symm
          subst e1; subst e2
          refine s_q rfl rfl (q_mv (.inr rfl) (by first | exact is_im rfl | exact is_gs rfl | exact is_lit rfl | exact is_ms rfl | exact is_sc rfl | exact rfl)) ?_
          refine s_nil (b_n (b_n (n_n (w_reg (s_q rfl rfl (q_mv (.inl rfl) (by first | exact is_box rfl | exact is_hp rfl | exact is_pin rfl | exact is_sc rfl | exact rfl)) ?_)))))
          refine s_o rfl rfl (ao_callH rfl rfl rfl rfl (pf_Next _ k es H (j + 2) hlt) fun vnx Hvnx hvnx => ?_)
          obtain ⟨rfl, e⟩ := hvnx
          rw [e]; clear e
          refine s_q rfl rfl (q_mv (.inr rfl) (by first | exact is_box rfl | exact is_hp rfl | exact is_pin rfl | exact is_sc rfl | exact rfl)) ?_
          refine s_nil (n_n ?_)
          have hk : keepL c (l.take (j + 1)) = (keepL c (l.take j)) ++ [l[j]] := by rw [keep_take hj2, if_neg hc]
          refine ⟨⟨j + 1, _, live2, ln2, hj2, ⟨rfl, rfl, rfl, rfl, trivial⟩, .inr ⟨ln, ?_, e3⟩, rfl⟩, mu_step H hlt⟩
          rw [hk, List.map_append, List.length_append]; rfl
        · have hc : l[j] = [] ∧ c = true := ⟨he, by cases c with | true => rfl | false => cases h50⟩
          refine w_skip (b_n (b_n (n_n (w_reg (s_q rfl rfl (q_mv (.inl rfl) (by first | exact is_box rfl | exact is_hp rfl | exact is_pin rfl | exact is_sc rfl | exact rfl)) ?_)))))
          refine s_o rfl rfl (ao_callH rfl rfl rfl rfl (pf_Next _ k es H (j + 2) hlt) fun vnx Hvnx hvnx => ?_)
          obtain ⟨rfl, e⟩ := hvnx
          rw [e]; clear e
          refine s_q rfl rfl (q_mv (.inr rfl) (by first | exact is_box rfl | exact is_hp rfl | exact is_pin rfl | exact is_sc rfl | exact rfl)) ?_
          refine s_nil (n_n ?_)
          have hk : keepL c (l.take (j + 1)) = (keepL c (l.take j)) := by rw [keep_take hj2, if_pos hc, List.append_nil]
          refine ⟨⟨j + 1, dd, live, ln, hj2, ⟨rfl, rfl, rfl, rfl, trivial⟩, by rw [hk]; exact hown, rfl⟩, mu_step H hlt⟩
    · have hge : l.length ≤ j := by have := of_decide_eq_false h19; omega
      rw [List.take_of_length_le hge] at hown
      refine w_exit (n_e (n_e (b_hit (n_n (w_seq (w_reg (s_q rfl rfl (q_mv (.inl rfl) (by first | exact is_im rfl | exact is_gs rfl | exact is_lit rfl | exact is_ms rfl | exact is_sc rfl | exact rfl)) ?_)))))))
      refine s_q rfl rfl (q_call rfl rfl rfl rfl (pf_newBool _)) ?_
      refine s_q rfl rfl (q_mv (.inr rfl) (by first | exact is_im rfl | exact is_gs rfl | exact is_lit rfl | exact is_ms rfl | exact is_sc rfl | exact rfl)) ?_
      refine s_u rfl rfl (as_st rfl rfl (by first | exact (rfl : _ = D.agg [_, _, _, _, _, _, _, _, _, _]) | exact rfl) rfl (by exact rfl) (by exact rfl) (by exact Nat.le_of_ble_eq_true rfl) (by exact (rfl : _ = [_, _, _, _, _, _, _, _, _, _]))) ?_
      refine s_nil (n_n (w_ret ?_))
      -- end 0
      refine r_r (ra_tmp (by first | exact is_im rfl | exact is_gs rfl | exact is_lit rfl | exact is_ms rfl | exact is_sc rfl | exact rfl) (ra_cell (by exact (rfl : _ = some (D.agg [_, _, _, _, _, _, _, _, _, _]))) ra_nil)) (by exact (rfl : _ = D.tup [_, _])) (show ext (D.tup [fz dd, (fBool true).d]) = true by rw [own_fz hown]; rfl) (Sub.refl _) ?_
      refine ⟨?_, rfl⟩
      show D.tup [fz dd, (fBool true).d] = _
      rw [own_fz hown]


-- (*pub-tallysheet/pub/excelize.formulaFuncs).TEXTJOIN
theorem pf_TEXTJOIN (h : Heap) (kf k : Nat) (es : List (Nat × D)) (H : IsList h k es) (b : List UInt8) (c : Bool) (l : List (List UInt8)) (hes : es.map (·.2) = .ifc 79 (fStr b).d :: .ifc 79 (fBool c).d :: l.map fun s => .ifc 79 (fStr s).d) (h20 : l.length ≤ 20) (hne : ¬ l = []) (hj : (joinT b c l).length ≤ 20000) (hp : ∀ x ∈ joinT b c l, x.toNat < 128) : ACall Tryz.prog G 52 true [.hp kf 0, .hp k 0] h (fun ret _ => ret = (fStr (joinT b c l)).d) := by
  have hle : es.length = l.length + 2 := by have := congrArg List.length hes; simpa using this
  have hpos : 0 < l.length := List.length_pos_iff.mpr hne
  have hj' : (joinB b (keepL c l)).length ≤ 20000 := hj
  have hjp : ∀ x ∈ joinB b (keepL c l), x.toNat < 128 := hp
  have hkl := keep_len c l
  have hv0 : Heap.get h (es[0]'(by omega)).1 3 = some (.ifc 79 (fStr b).d) := by
    rw [H.val _ (List.getElem_mem (by omega))]
    have h1 : (es.map (·.2))[0]'(by simp; omega) = (es[0]'(by omega)).2 := by simp
    rw [← h1]; simp [hes]
  have hv1 : Heap.get h (es[1]'(by omega)).1 3 = some (.ifc 79 (fBool c).d) := by
    rw [H.val _ (List.getElem_mem (by omega))]
    have h1 : (es.map (·.2))[1]'(by simp; omega) = (es[1]'(by omega)).2 := by simp
    rw [← h1]; simp [hes]
  have hneq : fcmp .neq .f64 (fBool c).num 0 = c := by
    cases c
    · show fcmp .neq .f64 0 0 = _
      rw [fcmp_ne, fcmp_eq fx_zero fx_zero]; rfl
    · show fcmp .neq .f64 4607182418800017408 0 = _
      rw [fcmp_ne, fcmp_eq fx_one fx_zero, decide_eq_false (by have := unit_pos; omega)]; rfl
  refine ACall.intro rfl Tryz.func52 rfl (Nat.le_of_ble_eq_true rfl) rfl ?_
  refine w_seq (w_reg (s_s rfl rfl (as_alloc0 (id := 0) rfl rfl (by exact (rfl : _ = [_, _, _, _, _, _, _, _, _, _]))) ?_))
  refine s_nil (n_n (w_seq (w_seq (w_reg (s_q rfl rfl (q_mv (.inl rfl) (by first | exact is_box rfl | exact is_hp rfl | exact is_pin rfl | exact is_sc rfl | exact rfl)) ?_)))))
  refine s_o rfl rfl (ao_callH rfl rfl rfl rfl (pf_Len _ k _ H) fun vln Hvln hvln => ?_)
  obtain ⟨rfl, e⟩ := hvln
  rw [e]; clear e
  refine s_q rfl rfl (q_as (bl_no (show ¬ (es.length : Int) < 3 by omega)) (q_lss rfl rfl rfl)) ?_
  refine s_nil (n_n (w_ifF rfl (w_skip (n_n (w_seq (w_seq (w_reg (s_q rfl rfl (q_mv (.inl rfl) (by first | exact is_box rfl | exact is_hp rfl | exact is_pin rfl | exact is_sc rfl | exact rfl)) ?_))))))))
  refine s_o rfl rfl (ao_callH rfl rfl rfl rfl (pf_Len _ k _ H) fun vln Hvln hvln => ?_)
  obtain ⟨rfl, e⟩ := hvln
  rw [e]; clear e
  refine s_q rfl rfl (q_as (bl_no (show ¬ (252 : Int) < (es.length : Int) by omega)) (q_gtr rfl rfl rfl)) ?_
  refine s_nil (n_n (w_ifF rfl (w_skip (n_n (w_seq (w_reg (s_q rfl rfl (q_mv (.inl rfl) (by first | exact is_box rfl | exact is_hp rfl | exact is_pin rfl | exact is_sc rfl | exact rfl)) ?_)))))))
  refine s_o rfl rfl (ao_callH rfl rfl rfl rfl (pf_Front _ k _ H (by omega) (by omega)) fun vfr Hvfr hvfr => ?_)
  obtain ⟨e_, e⟩ := hvfr
  rw [e]; clear e
  replace e_ : vfr = D.hp (es[0]'(by omega)).1 0 := e_
  subst e_
  refine s_q rfl rfl (q_nil rfl rfl rfl) ?_
  refine s_q rfl rfl (q_field rfl rfl (by exact rfl)) ?_
  refine s_q rfl rfl (q_loadH rfl rfl (d := .ifc 79 (fStr b).d) (by exact hv0)) ?_
  refine s_q rfl rfl (q_asr rfl rfl) ?_
  refine s_s rfl rfl (as_alloc0 (id := 1) rfl rfl (by exact (rfl : _ = [_, _, _, _, _, _, _, _, _, _]))) ?_
  refine s_u rfl rfl (as_st rfl rfl (by first | exact (rfl : _ = D.agg [_, _, _, _, _, _, _, _, _, _]) | exact rfl) rfl (by exact rfl) (by exact rfl) (by exact Nat.le_of_ble_eq_true rfl) (by exact (rfl : _ = [_, _, _, _, _, _, _, _, _, _]))) ?_
  refine s_nil (n_n (w_seq (w_reg (s_q rfl rfl (q_mv (.inl rfl) (by first | exact is_box rfl | exact is_hp rfl | exact is_pin rfl | exact is_sc rfl | exact rfl)) ?_))))
  refine s_o rfl rfl (ao_callH rfl rfl rfl rfl (pf_Front _ k _ H (by omega) (by omega)) fun vfr Hvfr hvfr => ?_)
  obtain ⟨e_, e⟩ := hvfr
  rw [e]; clear e
  replace e_ : vfr = D.hp (es[0]'(by omega)).1 0 := e_
  subst e_
  refine s_o rfl rfl (ao_callH rfl rfl rfl rfl (pf_NextA _ k _ H 0 (by omega) (by omega)) fun vnx Hvnx hvnx => ?_)
  obtain ⟨e_, e⟩ := hvnx
  rw [e]; clear e
  replace e_ : vnx = D.hp (es[1]'(by omega)).1 0 := e_
  subst e_
  refine s_q rfl rfl (q_nil rfl rfl rfl) ?_
  refine s_q rfl rfl (q_field rfl rfl (by exact rfl)) ?_
  refine s_q rfl rfl (q_loadH rfl rfl (d := .ifc 79 (fBool c).d) (by exact hv1)) ?_
  refine s_q rfl rfl (q_asr rfl rfl) ?_
  refine s_s rfl rfl (as_alloc0 (id := 2) rfl rfl (by exact (rfl : _ = [_, _, _, _, _, _, _, _, _, _]))) ?_
  refine s_u rfl rfl (as_st rfl rfl (by first | exact (rfl : _ = D.agg [_, _, _, _, _, _, _, _, _, _]) | exact rfl) rfl (by exact rfl) (by exact rfl) (by exact Nat.le_of_ble_eq_true rfl) (by exact (rfl : _ = [_, _, _, _, _, _, _, _, _, _]))) ?_
  refine s_nil (n_n (w_seq (w_seq (w_reg (s_q rfl rfl (q_field rfl rfl (by exact rfl)) ?_)))))
  refine s_q rfl rfl (q_load rfl rfl (by exact (rfl : _ = some (D.sc _)))) ?_
  refine s_q rfl rfl (q_neq rfl rfl rfl) ?_
  refine s_q rfl rfl (q_mv (.inl rfl) (is_sc rfl)) ?_
  refine s_q rfl rfl (q_field rfl rfl (by exact rfl)) ?_
  refine s_q rfl rfl (q_load rfl rfl (by exact (rfl : _ = some (D.sc _)))) ?_
  refine s_q rfl rfl (q_not rfl rfl) ?_
  refine s_q rfl rfl (q_pickF rfl rfl (is_sc rfl)) ?_
  refine s_nil (n_n (w_ifF rfl (w_skip (n_n (w_seq (w_draw [0, 1, 3, 7, 0, 0, 32, 96, 255, 511, 1023, 1023, 0, 6143, 16383] [0, 1, 1, 1, 0, 0, 1, 0, 1, 0, 0, 0, 2, 0, 3] rfl ?_))))))
  refine d_q0 rfl rfl (q_mv (.inl rfl) (by first | exact is_box rfl | exact is_hp rfl | exact is_pin rfl | exact is_sc rfl | exact rfl)) ?_
  refine d_q1 rfl rfl (q_callX (v := (.hp (es[0]'(by omega)).1 0)) rfl rfl rfl rfl (pf_Front _ k _ H (by omega) (by omega))) ?_
  refine d_q1 rfl rfl (q_callX (v := (.hp (es[1]'(by omega)).1 0)) rfl rfl rfl rfl (pf_NextA _ k _ H 0 (by omega) (by omega))) ?_
  refine d_q1 rfl rfl (q_callX (v := (.hp (es[2]'(by omega)).1 0)) rfl rfl rfl rfl (pf_NextA _ k _ H 1 (by omega) (by omega))) ?_
  refine d_q0 rfl rfl (q_lit0 rfl) ?_
  refine d_q0 rfl rfl (q_field rfl rfl (by exact rfl)) ?_
  refine d_q1 rfl rfl (q_load rfl rfl (by exact (rfl : _ = some (D.sc _)))) ?_
  refine d_q0 rfl rfl (q_fcmpV rfl rfl rfl rfl hneq) ?_
  refine d_q1 rfl rfl (q_callX (v := (.tup [.im ((keepL c l).map st) (keepL c l).length, (fBool true).d])) rfl rfl rfl rfl (pf_textJoinP _ k es H b c l hes h20 hne)) ?_
  refine d_q0 rfl rfl (q_mv (.inl rfl) (by first | exact (rfl : _ = D.tup [_, _]) | exact rfl)) ?_
  refine d_q0 rfl rfl (q_extract rfl rfl rfl) ?_
  refine d_q0 rfl rfl (q_extract rfl rfl rfl) ?_
  refine d_s2 rfl rfl (as_alloc0 (id := 3) rfl rfl (by exact (rfl : _ = [_, _, _, _, _, _, _, _, _, _]))) ?_
  refine d_q0 rfl rfl (q_mv (.inr rfl) (by first | exact is_im rfl | exact is_gs rfl | exact is_lit rfl | exact is_ms rfl | exact is_sc rfl | exact rfl)) ?_
  refine d_u3 rfl rfl (as_st rfl rfl (by first | exact (rfl : _ = D.agg [_, _, _, _, _, _, _, _, _, _]) | exact rfl) rfl (by exact rfl) (by exact rfl) (by exact Nat.le_of_ble_eq_true rfl) (by exact (rfl : _ = [_, _, _, _, _, _, _, _, _, _]))) ?_
  refine d_nil (n_n (w_seq (w_seq (w_reg (s_q rfl rfl (q_field rfl rfl (by exact rfl)) ?_)))))
  refine s_q rfl rfl (q_load rfl rfl (by exact (rfl : _ = some (D.sc _)))) ?_
  refine s_q rfl rfl (q_neq rfl rfl rfl) ?_
  refine s_nil (n_n (w_ifF rfl (w_skip (n_n (w_seq (w_reg (s_q rfl rfl (q_mv (.inl rfl) (by first | exact is_im rfl | exact is_gs rfl | exact is_lit rfl | exact is_ms rfl | exact is_sc rfl | exact rfl)) ?_)))))))
  refine s_q rfl rfl (q_load rfl rfl (by exact (rfl : _ = some (D.agg [_, _, _, _, _, _, _, _, _, _])))) ?_
  refine s_q rfl rfl (q_call rfl rfl rfl rfl (pf_ValueS _)) ?_
  refine s_q rfl rfl (q_call rfl rfl rfl rfl (pf_Join _ _ (by omega) (by omega))) ?_
  refine s_q rfl rfl (q_mv (.inr rfl) (is_sc rfl)) ?_
  refine s_nil (n_n (w_seq (w_seq (w_reg (s_q rfl rfl (q_mv (.inl rfl) (is_sc rfl)) ?_)))))
  refine s_q rfl rfl (q_call rfl rfl rfl rfl (pf_count16 _ (by omega) hjp)) ?_
  refine s_q rfl rfl (q_as (bl_no (show ¬ (32767 : Int) < ((joinB b (keepL c l)).length : Int) by omega)) (q_gtr rfl rfl rfl)) ?_
  refine s_nil (n_n (w_ifF rfl (w_skip (n_n (w_seq (w_reg (s_q rfl rfl (q_mv (.inl rfl) (is_sc rfl)) ?_)))))))
  refine s_q rfl rfl (q_call rfl rfl rfl rfl (pf_newStr _)) ?_
  refine s_u rfl rfl (as_st rfl rfl (by first | exact (rfl : _ = D.agg [_, _, _, _, _, _, _, _, _, _]) | exact rfl) rfl (by exact rfl) (by exact rfl) (by exact Nat.le_of_ble_eq_true rfl) (by exact (rfl : _ = [_, _, _, _, _, _, _, _, _, _]))) ?_
  refine s_nil (n_n (w_ret ?_))
  -- end 0
  refine r_r (ra_cell (by exact (rfl : _ = some (D.agg [_, _, _, _, _, _, _, _, _, _]))) ra_nil) (by first | exact (rfl : _ = D.agg [_, _, _, _, _, _, _, _, _, _]) | exact rfl) (by exact rfl) (Sub.refl _) ?_
  rfl

end Go.Proofs.YtpjckdhgefbonaaGreatDoor.Zz
