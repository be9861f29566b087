/- Walks of the functions, printed by program, and the logic behind them: each theorem says what one function or one step answers. -/
import Derived.Test.YtpjckdhgefbonaaGreatDoorZTab
namespace Go.Proofs.YtpjckdhgefbonaaGreatDoor.Zz
open Go.Abs
set_option maxRecDepth 100000
set_option linter.unusedVariables false
set_option linter.unusedSimpArgs false
set_option maxHeartbeats 4000000
variable {G : Nat → D}

-- pub-tallysheet/pub/excelize.newMatrixFormulaArg
theorem pf_newMat (id n cap : Nat) : PF Tryz.prog G 83 [.hs id 0 n cap] (matD id n cap) := by
  refine PC.intro rfl Tryz.func83 rfl (Nat.le_of_ble_eq_true rfl) rfl ?_
  refine w_seq (w_reg (s_s rfl rfl (as_alloc0 (id := 0) rfl rfl (by exact (rfl : _ = [_, _, _, _, _, _, _, _, _, _]))) ?_))
  refine s_nil (n_n (w_seq (w_reg (s_q rfl rfl (q_mv (.inl rfl) (by first | exact is_im rfl | exact is_gs rfl | exact is_lit rfl | exact is_ms rfl | exact is_sc rfl | exact rfl)) ?_))))
  refine s_q rfl rfl (q_build rfl (pt_cons (is_sc rfl) (pt_cons (by first | exact is_im rfl | exact is_gs rfl | exact is_lit rfl | exact is_ms rfl | exact is_sc rfl | exact rfl) pt_nil)) (by exact (rfl : _ = some [_, _, _, _, _, _, _, _, _, _]))) ?_
  refine s_u rfl rfl (as_st rfl rfl (by first | exact (rfl : _ = D.agg [_, _, _, _, _, _, _, _, _, _]) | exact rfl) rfl (by exact rfl) (by exact rfl) (by exact Nat.le_of_ble_eq_true rfl) (by exact (rfl : _ = [_, _, _, _, _, _, _, _, _, _]))) ?_
  refine s_nil (n_n (w_ret ?_))
  -- end 0
  refine r_r (ra_cell (by exact (rfl : _ = some (D.agg [_, _, _, _, _, _, _, _, _, _]))) ra_nil) (by first | exact (rfl : _ = D.agg [_, _, _, _, _, _, _, _, _, _]) | exact rfl) (by exact rfl) sub_no ?_
  rfl


-- pub-tallysheet/pub/excelize.doorRows
theorem pf_doorRows (h : Heap) (id n cap : Nat) (ids : List Nat) (k kc : Nat) (rows : List (List F)) (H : IsMat h id n cap ids k kc rows) (iu : F → IU) (hd : ∀ r ∈ rows, ∀ f ∈ r, PF Tryz.prog G 50 [f.d] (IU.v (iu f)).d) (hn : n < 1000000000) (hk : k < 1000000000) : ACall Tryz.prog G 67 true [.hs id 0 n cap] h (fun v h' => v = .im (rows.map fun r => ilstU (r.map iu)) rows.length ∧ h' = h) := by
  have hil := H.len
  have hrl := H.rlen
  refine ACall.intro rfl Tryz.func67 rfl (Nat.le_of_ble_eq_true rfl) rfl ?_
  refine w_seq (w_reg (s_q rfl rfl (q_mv (.inr rfl) (by first | exact is_im rfl | exact is_gs rfl | exact is_lit rfl | exact is_ms rfl | exact is_sc rfl | exact rfl)) ?_))
  refine s_nil (n_n (w_seq (w_reg (s_s rfl rfl (as_nil (e := 65) (.inl rfl) rfl) ?_))))
  refine s_nil (n_n (w_seq (w_seq (w_reg (s_q rfl rfl (q_mv (.inl rfl) (by first | exact is_im rfl | exact is_gs rfl | exact is_lit rfl | exact is_ms rfl | exact is_sc rfl | exact rfl)) ?_)))))
  refine s_q rfl rfl (q_lenHs rfl rfl) ?_
  refine s_q rfl rfl (q_mv (.inl rfl) (is_sc rfl)) ?_
  refine s_nil (n_n (w_block ?_))
  refine w_loop (fun env A => ∃ (i t : Nat) (o : List LO) (live : Nat → Bool) (ln : Nat), i ≤ n ∧ Binds env [(3, .gs t 65 ((rows.take i).map fun r => ilstU (r.map iu)) ((rows.take i).map fun r => ilstU (r.map iu)).length), (9, .hs id 0 n cap), (10, i64 n), (11, i64 i)] ∧ A = ⟨o, live, ln, h⟩ ∧ live t = true ∧ t < ln) (fun env _ => n - ctr (env 11)) ?_ ?_
  · exact ⟨0, 0, [], _, _, Nat.zero_le _, ⟨rfl, rfl, rfl, rfl, trivial⟩, rfl, rfl, Nat.lt_succ_self _⟩
  · rintro env A ⟨i, t, o, live, ln, hi, hB, rfl, hv, htl⟩
    rw [hB.eq]; clear hB
    rw [show (⟨o, live, ln, h⟩ : AH) = ⟨o ++ [], live, ln, h⟩ by rw [List.append_nil]]
    refine w_seq (w_reg (s_q rfl rfl (q_lss rfl rfl rfl) ?_))
    refine s_nil (n_n (w_seq (w_if (is_scb rfl) (fun h12 => ?_) (fun h12 => ?_))))
    · have hlt : i < n := by have h' : (i : Int) < ((n : Nat) : Int) := of_decide_eq_true h12; omega
      have hlti : i < ids.length := by omega
      have hltr : i < rows.length := by omega
      have hget : Heap.get h id (0 + (i : Int).toNat * 1) = some (.hs ids[i] 0 k kc) := by have := H.at hlti; simpa using this
      obtain ⟨hrow, hrk⟩ := H.row i hlti hltr
      refine w_skip (n_n (w_seq (w_block (w_seq (w_reg (s_q rfl rfl (q_indexHs rfl rfl rfl (Int.natCast_nonneg _) (by omega)) ?_))))))
      refine s_q rfl rfl (q_loadH rfl rfl (d := .hs ids[i] 0 k kc) (by exact hget)) ?_
      refine s_q rfl rfl (q_mv (.inr rfl) (by first | exact is_im rfl | exact is_gs rfl | exact is_lit rfl | exact is_ms rfl | exact is_sc rfl | exact rfl)) ?_
      refine s_nil (n_n (w_seq (w_reg (s_s rfl rfl (as_nil (e := 63) (.inl rfl) rfl) ?_))))
      refine s_nil (n_n (w_seq (w_seq (w_reg (s_q rfl rfl (q_mv (.inl rfl) (by first | exact is_im rfl | exact is_gs rfl | exact is_lit rfl | exact is_ms rfl | exact is_sc rfl | exact rfl)) ?_)))))
      refine s_q rfl rfl (q_lenHs rfl rfl) ?_
      refine s_q rfl rfl (q_mv (.inl rfl) (is_sc rfl)) ?_
      refine s_nil (n_n (w_block ?_))
      refine w_loop (fun env A => ∃ (j t2 : Nat) (o : List LO) (live2 : Nat → Bool) (ln2 : Nat), j ≤ k ∧ Binds env [(3, .gs t 65 ((rows.take i).map fun r => ilstU (r.map iu)) ((rows.take i).map fun r => ilstU (r.map iu)).length), (9, .hs id 0 n cap), (10, i64 n), (11, i64 i), (6, .gs t2 63 (((rows[i].take j).map iu).flatMap IU.c) ((rows[i].take j).map iu).length), (15, .hs ids[i] 0 k kc), (16, i64 k), (17, i64 j)] ∧ A = ⟨o, live2, ln2, h⟩ ∧ live2 t = true ∧ live2 t2 = true ∧ t < ln2 ∧ t2 < ln2 ∧ t ≠ t2) (fun env _ => k - ctr (env 17)) ?_ ?_
      · exact ⟨0, _, o, _, _, Nat.zero_le _, ⟨rfl, rfl, rfl, rfl, rfl, rfl, rfl, rfl, trivial⟩, by rw [List.append_nil]; rfl, live_tags_old (A := ⟨_, live, ln, h⟩) hv, live_tags ⟨_, live, ln, h⟩, Nat.lt_succ_of_lt htl, Nat.lt_succ_self _, Nat.ne_of_lt htl⟩
      · clear hv htl
        rintro env A ⟨j, t2, o, live2, ln2, hj, hB, rfl, hv, hv2, htl, htl2, hne⟩
        rw [hB.eq]; clear hB
        rw [show (⟨o, live2, ln2, h⟩ : AH) = ⟨o ++ [], live2, ln2, h⟩ by rw [List.append_nil]]
        refine w_seq (w_reg (s_q rfl rfl (q_lss rfl rfl rfl) ?_))
        refine s_nil (n_n (w_seq (w_if (is_scb rfl) (fun h18 => ?_) (fun h18 => ?_))))
        · have hjlt : j < k := by have h' : (j : Int) < ((k : Nat) : Int) := of_decide_eq_true h18; omega
          have hjr : j < rows[i].length := by omega
          refine w_skip (n_n (w_seq (w_block (w_seq (w_reg (s_q rfl rfl (q_indexHs rfl rfl rfl (Int.natCast_nonneg _) (by omega)) ?_))))))
          refine s_q rfl rfl (q_load rfl rfl (by exact load_row rfl hrow hjr)) ?_
          refine s_s rfl rfl (as_allocT (os := o) (tail := []) rfl rfl rfl (by exact (rfl : _ = [_, _, _, _, _, _, _, _, _, _]))) ?_
          refine s_u rfl rfl (as_stT (os := o) (tail := [_]) (j := 0) rfl rfl rfl (by first | exact (rfl : _ = D.agg [_, _, _, _, _, _, _, _, _, _]) | exact rfl) (by exact rfl) (by exact rfl) (by exact rfl) (by exact Nat.le_of_ble_eq_true rfl) (by exact (rfl : _ = [_, _, _, _, _, _, _, _, _, _])) (by exact (rfl : _ = [_]))) ?_
          refine s_nil (n_n (w_reg (s_q rfl rfl (q_mv (.inl rfl) (by first | exact is_im rfl | exact is_gs rfl | exact is_lit rfl | exact is_ms rfl | exact is_sc rfl | exact rfl)) ?_)))
          refine s_q rfl rfl (q_loadT (os := o) (tail := [_]) (j := 0) rfl rfl rfl (by exact rfl) (by exact (rfl : _ = some (D.agg [_, _, _, _, _, _, _, _, _, _])))) ?_
          refine s_q rfl rfl (q_call rfl rfl rfl rfl (hd _ (List.getElem_mem hltr) _ (List.getElem_mem hjr))) ?_
          refine s_q rfl rfl (q_bs rfl (pt_cons (by first | exact (rfl : _ = D.agg [_, _, _, _]) | exact rfl) pt_nil) (by decide) (by decide) (by exact (rfl : _ = some [_, _, _, _])) (by exact (rfl : _ = [_, _, _, _])) (by exact rfl) (by exact rfl)) ?_
          refine s_s rfl rfl (as_append rfl rfl hv2 rfl rfl (by decide) (by exact len_ilstU _) (by exact rfl) (by show _ * 56 ≤ _; simp only [List.length_map, List.length_take]; omega) (by show _ ≤ 9223372036854775807; simp only [List.length_map, List.length_take]; omega)) ?_
          refine s_q rfl rfl (q_mv (.inr rfl) (by first | exact is_im rfl | exact is_gs rfl | exact is_lit rfl | exact is_ms rfl | exact is_sc rfl | exact rfl)) ?_
          refine s_nil (b_n (n_n (w_reg (s_q rfl rfl (q_add rfl rfl rfl) ?_))))
          refine s_q rfl rfl (q_mv (.inl rfl) (is_sc rfl)) ?_
          refine s_nil (n_n ?_)
          have hw : IntKind.i64.wrap ((j : Int) + 1) = ((j + 1 : Nat) : Int) := wrap_nat (by omega)
          refine ⟨⟨j + 1, ln2, _, _, _, hjlt, ⟨rfl, rfl, rfl, rfl, ?_, rfl, rfl, i64_eq hw, trivial⟩, rfl, live_app_old (A := ⟨_, live2, ln2, h⟩) hv hne, live_app ⟨_, live2, ln2, h⟩ t2, Nat.lt_succ_of_lt htl, Nat.lt_succ_self _, Nat.ne_of_lt htl⟩, ?_⟩
          · rw [List.take_succ_eq_append_getElem hjr, List.map_append, List.flatMap_append, List.length_append]; rfl
          · show k - (IntKind.i64.wrap ((j : Int) + 1)).toNat < k - (j : Int).toNat
            rw [hw]; omega
        · have hjge : k ≤ j := by have h' : ¬ (j : Int) < ((k : Nat) : Int) := of_decide_eq_false h18; omega
          rw [List.take_of_length_le (by omega : rows[i].length ≤ j)]
          refine w_exit (n_e (n_e (b_hit (n_n (w_reg (s_q rfl rfl (q_mv (.inl rfl) (by first | exact is_im rfl | exact is_gs rfl | exact is_lit rfl | exact is_ms rfl | exact is_sc rfl | exact rfl)) ?_))))))
          refine s_q rfl rfl (q_mv (.inl rfl) (by first | exact is_im rfl | exact is_gs rfl | exact is_lit rfl | exact is_ms rfl | exact is_sc rfl | exact rfl)) ?_
          refine s_q rfl rfl (q_bs rfl (pt_cons (by first | exact is_im rfl | exact is_gs rfl | exact is_lit rfl | exact is_ms rfl | exact is_sc rfl | exact rfl) pt_nil) (by decide) (by decide) (by exact (rfl : _ = some [_])) (by exact (rfl : _ = [_])) (by exact rfl) (by exact rfl)) ?_
          refine s_s rfl rfl (as_append rfl rfl hv rfl rfl (by decide) (by simp [List.length_map]) (by exact rfl) (by show _ * 24 ≤ _; simp only [List.length_map, List.length_take]; omega) (by show _ ≤ 9223372036854775807; simp only [List.length_map, List.length_take]; omega)) ?_
          refine s_q rfl rfl (q_mv (.inr rfl) (by first | exact is_im rfl | exact is_gs rfl | exact is_lit rfl | exact is_ms rfl | exact is_sc rfl | exact rfl)) ?_
          refine s_nil (b_n (n_n (w_reg (s_q rfl rfl (q_add rfl rfl rfl) ?_))))
          refine s_q rfl rfl (q_mv (.inl rfl) (is_sc rfl)) ?_
          refine s_nil (n_n ?_)
          have hw : IntKind.i64.wrap ((i : Int) + 1) = ((i + 1 : Nat) : Int) := wrap_nat (by omega)
          refine ⟨⟨i + 1, ln2, o ++ [], _, _, hlt, ⟨?_, rfl, rfl, i64_eq hw, trivial⟩, rfl, live_app ⟨_, live2, ln2, h⟩ t, Nat.lt_succ_self _⟩, ?_⟩
          · rw [List.take_succ_eq_append_getElem hltr, List.map_append, List.length_append]; rfl
          · show n - (IntKind.i64.wrap ((i : Int) + 1)).toNat < n - (i : Int).toNat
            rw [hw]; omega
    · have hge : n ≤ i := by have h' : ¬ (i : Int) < ((n : Nat) : Int) := of_decide_eq_false h12; omega
      rw [List.take_of_length_le (by omega : rows.length ≤ i)]
      refine w_exit (n_e (n_e (b_hit (n_n (w_seq (w_reg (s_q rfl rfl (q_mv (.inl rfl) (by first | exact is_im rfl | exact is_gs rfl | exact is_lit rfl | exact is_ms rfl | exact is_sc rfl | exact rfl)) ?_)))))))
      refine s_q rfl rfl (q_mv (.inr rfl) (by first | exact is_im rfl | exact is_gs rfl | exact is_lit rfl | exact is_ms rfl | exact is_sc rfl | exact rfl)) ?_
      refine s_nil (n_n (w_ret ?_))
      -- end 0
      refine r_r (ra_tmp (by first | exact is_im rfl | exact is_gs rfl | exact is_lit rfl | exact is_ms rfl | exact is_sc rfl | exact rfl) ra_nil) (by first | exact is_im rfl | exact is_gs rfl | exact is_lit rfl | exact is_ms rfl | exact is_sc rfl | exact rfl) (by exact rfl) (Sub.refl _) ?_
      refine ⟨?_, rfl⟩
      show D.im _ (rows.map fun r => ilstU (r.map iu)).length = _
      rw [List.length_map]


-- pub-tallysheet/pub/excelize.doorArg
theorem pf_doorArgMat (h : Heap) (id n cap : Nat) (ids : List Nat) (k kc : Nat) (rows : List (List F)) (H : IsMat h id n cap ids k kc rows) (iu : F → IU) (hd : ∀ r ∈ rows, ∀ f ∈ r, PF Tryz.prog G 50 [f.d] (IU.v (iu f)).d) (hn : n < 1000000000) (hk : k < 1000000000) : ACall Tryz.prog G 50 true [matD id n cap] h (fun v h' => v = (tabI (rows.map (·.map iu))).d ∧ h' = h) := by
  refine ACall.intro rfl Tryz.func50 rfl (Nat.le_of_ble_eq_true rfl) rfl ?_
  refine w_seq (w_reg (s_s rfl rfl (as_box0 (id := 0) rfl (by first | exact (rfl : _ = D.agg [_, _, _, _, _, _, _, _, _, _]) | exact rfl) (by exact rfl) rfl (by exact (rfl : _ = [_, _, _, _, _, _, _, _, _, _]))) ?_))
  refine s_s rfl rfl (as_alloc0 (id := 1) rfl rfl (by exact (rfl : _ = [_, _, _, _]))) ?_
  refine s_nil (n_n (w_seq (w_seq (w_reg (s_q rfl rfl (q_field rfl rfl (by exact rfl)) ?_)))))
  refine s_q rfl rfl (q_load rfl rfl (by exact (rfl : _ = some (D.sc _)))) ?_
  refine s_nil (n_n (w_block (w_seq (w_reg (s_q rfl rfl (q_eql rfl rfl rfl) ?_)))))
  refine s_q rfl rfl (q_mv (.inr rfl) (is_sc rfl)) ?_
  refine s_nil (n_n (w_ifF rfl (w_seq (w_reg (s_q rfl rfl (q_eql rfl rfl rfl) ?_)))))
  refine s_q rfl rfl (q_mv (.inr rfl) (is_sc rfl)) ?_
  refine s_nil (n_n (w_ifF rfl (w_seq (w_reg (s_q rfl rfl (q_eql rfl rfl rfl) ?_)))))
  refine s_q rfl rfl (q_mv (.inr rfl) (is_sc rfl)) ?_
  refine s_nil (n_n (w_ifF rfl (w_seq (w_reg (s_q rfl rfl (q_eql rfl rfl rfl) ?_)))))
  refine s_q rfl rfl (q_mv (.inr rfl) (is_sc rfl)) ?_
  refine s_nil (n_n (w_ifF rfl (w_seq (w_reg (s_q rfl rfl (q_eql rfl rfl rfl) ?_)))))
  refine s_q rfl rfl (q_mv (.inr rfl) (is_sc rfl)) ?_
  refine s_nil (n_n (w_ifT rfl (w_seq (w_reg (s_q rfl rfl (q_field rfl rfl (by exact rfl)) ?_)))))
  refine s_q rfl rfl (q_load rfl rfl (by exact rfl)) ?_
  refine s_o rfl rfl (ao_callH rfl rfl rfl rfl (pf_doorRows _ id n cap ids k kc rows H iu hd hn hk) fun vr Hvr hvr => ?_)
  obtain ⟨rfl, e⟩ := hvr
  rw [e]; clear e
  refine s_q rfl rfl (q_build rfl (pt_cons (is_sc rfl) (pt_cons (by first | exact is_im rfl | exact is_gs rfl | exact is_lit rfl | exact is_ms rfl | exact is_sc rfl | exact rfl) pt_nil)) (by exact (rfl : _ = some [_, _, _, _]))) ?_
  refine s_u rfl rfl (as_st rfl rfl (by first | exact (rfl : _ = D.agg [_, _, _, _]) | exact rfl) rfl (by exact rfl) (by exact rfl) (by exact Nat.le_of_ble_eq_true rfl) (by exact (rfl : _ = [_, _, _, _]))) ?_
  refine s_nil (n_n (w_ret (b_r (n_r ?_))))
  -- end 0
  refine r_r (ra_cell (by exact (rfl : _ = some (D.agg [_, _, _, _]))) ra_nil) (by first | exact (rfl : _ = D.agg [_, _, _, _]) | exact rfl) (by exact rfl) (Sub.refl _) ?_
  refine ⟨?_, rfl⟩
  show D.agg [i64 5, fl 0, st [], .im (rows.map fun r => ilstU (r.map iu)) rows.length] = D.agg [i64 5, fl 0, st [], .im ((rows.map (·.map iu)).map ilstU) (rows.map (·.map iu)).length]
  rw [List.map_map, List.length_map]; rfl

end Go.Proofs.YtpjckdhgefbonaaGreatDoor.Zz
