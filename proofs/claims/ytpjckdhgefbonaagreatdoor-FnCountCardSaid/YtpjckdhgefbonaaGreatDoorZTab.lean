/- Walks of the functions, printed by program, and the logic behind them: each theorem says what one function or one step answers. -/
import Derived.Test.YtpjckdhgefbonaaGreatDoorZWe
import Derived.Test.YtpjckdhgefbonaaGreatDoorZMa
namespace Go.Proofs.YtpjckdhgefbonaaGreatDoor.Zz
open Go.Abs
set_option maxRecDepth 100000
set_option linter.unusedVariables false
set_option linter.unusedSimpArgs false
set_option maxHeartbeats 4000000
variable {G : Nat → D}

-- pub-tallysheet/laws.of
theorem pf_ofTab (rows : List (List U)) (cv : U → IU) (hl : rows.length < 1000000000) (hall : ∀ r ∈ rows, PF Tryz.prog G 32 [lstU r] (ilstU (r.map cv))) : PF Tryz.prog G 49 [(tabV rows).d] (tabI (rows.map (·.map cv))).d := by
  refine PC.intro rfl Tryz.func49 rfl (Nat.le_of_ble_eq_true rfl) rfl ?_
  refine w_seq (w_reg (s_s rfl rfl (as_box0 (id := 0) rfl (by first | exact (rfl : _ = D.agg [_, _, _, _, _]) | exact rfl) (by exact rfl) rfl (by exact (rfl : _ = [_, _, _, _, _]))) ?_))
  refine s_s rfl rfl (as_alloc0 (id := 1) rfl rfl (by exact (rfl : _ = [_, _, _, _]))) ?_
  refine s_nil (n_n (w_seq (w_reg (s_q rfl rfl (q_field rfl rfl (by exact rfl)) ?_))))
  refine s_q rfl rfl (q_load rfl rfl (by exact (rfl : _ = some (D.sc _)))) ?_
  refine s_q rfl rfl (q_field rfl rfl (by exact rfl)) ?_
  refine s_q rfl rfl (q_load rfl rfl (by exact (rfl : _ = some (D.sc _)))) ?_
  refine s_q rfl rfl (q_build rfl (pt_cons (is_sc rfl) (pt_cons (is_sc rfl) pt_nil)) (by exact (rfl : _ = some [_, _, _, _]))) ?_
  refine s_s rfl rfl (as_alloc0 (id := 2) rfl rfl (by exact (rfl : _ = [_, _, _, _]))) ?_
  refine s_u rfl rfl (as_st rfl rfl (by first | exact (rfl : _ = D.agg [_, _, _, _]) | exact rfl) rfl (by exact rfl) (by exact rfl) (by exact Nat.le_of_ble_eq_true rfl) (by exact (rfl : _ = [_, _, _, _]))) ?_
  refine s_nil (n_n (w_seq (w_seq (w_reg (s_q rfl rfl (q_field rfl rfl (by exact rfl)) ?_)))))
  refine s_q rfl rfl (q_load rfl rfl (by exact (rfl : _ = some (D.sc _)))) ?_
  refine s_nil (n_n (w_block (w_seq (w_reg (s_q rfl rfl (q_eql rfl rfl rfl) ?_)))))
  refine s_q rfl rfl (q_mv (.inr rfl) (is_sc rfl)) ?_
  refine s_nil (n_n (w_ifF rfl (w_seq (w_reg (s_q rfl rfl (q_eql rfl rfl rfl) ?_)))))
  refine s_q rfl rfl (q_mv (.inr rfl) (is_sc rfl)) ?_
  refine s_nil (n_n (w_ifF rfl (w_seq (w_reg (s_q rfl rfl (q_eql rfl rfl rfl) ?_)))))
  refine s_q rfl rfl (q_mv (.inr rfl) (is_sc rfl)) ?_
  refine s_nil (n_n (w_ifT rfl (w_seq (w_reg (s_s rfl rfl (as_mvNil (id := 2) (off := 3) (e := 58) (.inl rfl) rfl rfl rfl) ?_)))))
  refine s_nil (n_n (w_block ?_))
  refine w_loop (fun env A => ∃ (i t n : Nat) (xs : List D) (live : Nat → Bool) (ln : Nat), i ≤ rows.length ∧ Binds env [(1, .box 0 0), (2, .box 1 0), (3, .box 2 0), (4, i64 i)] ∧ A = ⟨[.cells (V.c (tabV rows)), .cells [.sc (.int .i64 0), .sc (.float .f64 0), .sc (.string ⟨⟨[]⟩⟩), .sc (.slice none 0 0)], .cells [i64 5, fl 0, st [], .gs t 58 xs n]], live, ln, noHeap⟩ ∧ xs = ((rows.take i).map fun r => ilstU (r.map cv)) ∧ n = (rows.take i).length ∧ live t = true) (fun env _ => rows.length - ctr (env 4)) ?_ ?_
  · exact ⟨0, 0, 0, [], _, _, Nat.zero_le _, ⟨rfl, rfl, rfl, rfl, trivial⟩, rfl, rfl, rfl, rfl⟩
  · rintro env A ⟨i, t, n, xs, live, ln, hi, hB, rfl, rfl, rfl, hv⟩
    rw [hB.eq]; clear hB
    refine w_seq (w_seq (w_reg (s_q rfl rfl (q_mv (.inl rfl) (is_sc rfl)) ?_)))
    refine s_q rfl rfl (q_field rfl rfl (by exact rfl)) ?_
    refine s_q rfl rfl (q_load rfl rfl (by exact rfl)) ?_
    refine s_q rfl rfl (q_len rfl rfl rfl) ?_
    refine s_q rfl rfl (q_lss rfl rfl rfl) ?_
    refine s_nil (n_n (w_if (is_scb rfl) (fun h34 => ?_) (fun h34 => ?_)))
    · have hlt : i < rows.length := by have h' : (i : Int) < ((rows.length : Nat) : Int) := of_decide_eq_true h34; omega
      refine w_skip (n_n (w_seq (w_block (w_draw [0, 1, 0, 4, 0, 28, 60, 124, 252, 511, 1023, 2047] [0, 1, 0, 1, 0, 0, 1, 0, 0, 3, 0, 3] rfl ?_))))
      refine d_q0 rfl rfl (q_field rfl rfl (by exact rfl)) ?_
      refine d_q1 rfl rfl (q_load rfl rfl (by exact rfl)) ?_
      refine d_q0 rfl rfl (q_field rfl rfl (by exact rfl)) ?_
      refine d_q1 rfl rfl (q_load rfl rfl (by exact rfl)) ?_
      refine d_q0 rfl rfl (q_mv (.inl rfl) (is_sc rfl)) ?_
      refine d_q0 rfl rfl (q_index rfl rfl rfl rfl (Int.natCast_nonneg _) (by show (i : Int) < ((rows.length : Nat) : Int); omega)) ?_
      refine d_q1 rfl rfl (q_loadPin rfl rfl (take_map lstU hlt)) ?_
      refine d_q0 rfl rfl (q_call rfl rfl rfl rfl (hall _ (List.getElem_mem hlt))) ?_
      refine d_q0 rfl rfl (q_bs rfl (pt_cons (by first | exact is_im rfl | exact is_gs rfl | exact is_lit rfl | exact is_ms rfl | exact is_sc rfl | exact rfl) pt_nil) (by decide) (by decide) (by exact (rfl : _ = some [_])) (by exact (rfl : _ = [_])) (by exact rfl) (by exact rfl)) ?_
      refine d_s3 rfl rfl (as_append rfl rfl hv rfl rfl (by decide) (by simp [List.length_map]) (by exact rfl) (by show _ * 24 ≤ _; simp only [List.length_take]; omega) (by show _ ≤ 9223372036854775807; simp only [List.length_take]; omega)) ?_
      refine d_q0 rfl rfl (q_field rfl rfl (by exact rfl)) ?_
      refine d_u3 rfl rfl (as_st rfl rfl (by first | exact is_im rfl | exact is_gs rfl | exact is_lit rfl | exact is_ms rfl | exact is_sc rfl | exact rfl) rfl (by exact rfl) (by exact rfl) (by exact Nat.le_of_ble_eq_true rfl) (by exact (rfl : _ = [_, _, _, _]))) ?_
      refine d_nil (b_n (n_n (w_reg (s_q rfl rfl (q_mv (.inl rfl) (is_sc rfl)) ?_))))
      refine s_q rfl rfl (q_add rfl rfl rfl) ?_
      refine s_q rfl rfl (q_mv (.inr rfl) (is_sc rfl)) ?_
      refine s_nil (n_n ?_)
      have hw : IntKind.i64.wrap ((i : Int) + 1) = ((i + 1 : Nat) : Int) := wrap_nat (by omega)
      refine ⟨⟨i + 1, ln, _, _, _, _, hlt, ⟨rfl, rfl, rfl, i64_eq hw, trivial⟩, rfl, ?_, ?_, live_app ⟨_, live, ln, noHeap⟩ t⟩, ?_⟩
      · rw [List.take_succ_eq_append_getElem hlt, List.map_append]; rfl
      · rw [List.take_succ_eq_append_getElem hlt, List.length_append]; rfl
      · show rows.length - (IntKind.i64.wrap ((i : Int) + 1)).toNat < rows.length - (i : Int).toNat
        rw [hw]; omega
    · have hge : rows.length ≤ i := by have h' : ¬ (i : Int) < ((rows.length : Nat) : Int) := of_decide_eq_false h34; omega
      rw [List.take_of_length_le hge]
      refine w_exit (n_e (n_e (b_hit (b_n (n_n (w_seq (w_reg (s_q rfl rfl (q_load rfl rfl (by exact (rfl : _ = some (D.agg [_, _, _, _])))) ?_))))))))
      refine s_u rfl rfl (as_st rfl rfl (by first | exact (rfl : _ = D.agg [_, _, _, _]) | exact rfl) rfl (by exact rfl) (by exact rfl) (by exact Nat.le_of_ble_eq_true rfl) (by exact (rfl : _ = [_, _, _, _]))) ?_
      refine s_nil (n_n (w_ret ?_))
      -- end 0
      refine r_r (ra_cell (by exact (rfl : _ = some (D.agg [_, _, _, _]))) ra_nil) (by first | exact (rfl : _ = D.agg [_, _, _, _]) | exact rfl) (by exact rfl) sub_no ?_
      show D.agg [i64 5, fl 0, st [], .im (rows.map fun r => ilstU (r.map cv)) rows.length] = D.agg [i64 5, fl 0, st [], .im ((rows.map (·.map cv)).map ilstU) (rows.map (·.map cv)).length]
      rw [List.map_map, List.length_map]; rfl


-- pub-tallysheet/laws.same
theorem pf_sameTab (rows : List (List U)) (cv : U → IU) (hl : rows.length < 1000000000) (hr : ∀ r ∈ rows, r.length < 1000000000) (ho : PF Tryz.prog G 49 [(tabV rows).d] (tabI (rows.map (·.map cv))).d) (hs : ∀ r ∈ rows, ∀ u ∈ r, PF Tryz.prog G 31 [(IU.v (cv u)).d, u.v.d] (bl true)) : PF Tryz.prog G 31 [(tabI (rows.map (·.map cv))).d, (tabV rows).d] (bl true) := by
  have hz : fcmp .neq .f64 0 0 = false := by rw [fcmp_ne, fcmp_eq fx_zero fx_zero]; rfl
  refine PC.intro rfl Tryz.func31 rfl (Nat.le_of_ble_eq_true rfl) rfl ?_
  refine w_seq (w_reg (s_s rfl rfl (as_box0 (id := 0) rfl (by first | exact (rfl : _ = D.agg [_, _, _, _]) | exact rfl) (by exact rfl) rfl (by exact (rfl : _ = [_, _, _, _]))) ?_))
  refine s_s rfl rfl (as_box0 (id := 1) rfl (by first | exact (rfl : _ = D.agg [_, _, _, _, _]) | exact rfl) (by exact rfl) rfl (by exact (rfl : _ = [_, _, _, _, _]))) ?_
  refine s_q rfl rfl (q_mv (.inr rfl) (is_sc rfl)) ?_
  refine s_nil (n_n (w_seq (w_reg (s_q rfl rfl (q_load rfl rfl (by exact (rfl : _ = some (D.agg [_, _, _, _, _])))) ?_))))
  refine s_q rfl rfl (q_call rfl rfl rfl rfl ho) ?_
  refine s_s rfl rfl (as_alloc0 (id := 2) rfl rfl (by exact (rfl : _ = [_, _, _, _]))) ?_
  refine s_u rfl rfl (as_st rfl rfl (by first | exact (rfl : _ = D.agg [_, _, _, _]) | exact rfl) rfl (by exact rfl) (by exact rfl) (by exact Nat.le_of_ble_eq_true rfl) (by exact (rfl : _ = [_, _, _, _]))) ?_
  refine s_nil (n_n (w_seq (w_seq (w_reg (s_q rfl rfl (q_field rfl rfl (by exact rfl)) ?_)))))
  refine s_q rfl rfl (q_load rfl rfl (by exact (rfl : _ = some (D.sc _)))) ?_
  refine s_q rfl rfl (q_field rfl rfl (by exact rfl)) ?_
  refine s_q rfl rfl (q_load rfl rfl (by exact (rfl : _ = some (D.sc _)))) ?_
  refine s_q rfl rfl (q_neq rfl rfl rfl) ?_
  refine s_q rfl rfl (q_mv (.inl rfl) (is_sc rfl)) ?_
  refine s_q rfl rfl (q_field rfl rfl (by exact rfl)) ?_
  refine s_q rfl rfl (q_load rfl rfl (by exact (rfl : _ = some (D.sc _)))) ?_
  refine s_q rfl rfl (q_field rfl rfl (by exact rfl)) ?_
  refine s_q rfl rfl (q_load rfl rfl (by exact (rfl : _ = some (D.sc _)))) ?_
  refine s_q rfl rfl (q_fcmpV rfl rfl rfl rfl hz) ?_
  refine s_q rfl rfl (q_pickF rfl rfl (is_sc rfl)) ?_
  refine s_q rfl rfl (q_mv (.inl rfl) (is_sc rfl)) ?_
  refine s_q rfl rfl (q_field rfl rfl (by exact rfl)) ?_
  refine s_q rfl rfl (q_load rfl rfl (by exact (rfl : _ = some (D.sc _)))) ?_
  refine s_q rfl rfl (q_field rfl rfl (by exact rfl)) ?_
  refine s_q rfl rfl (q_load rfl rfl (by exact (rfl : _ = some (D.sc _)))) ?_
  refine s_q rfl rfl (q_nes rfl rfl rfl) ?_
  refine s_q rfl rfl (q_pickF rfl rfl (is_sc rfl)) ?_
  refine s_q rfl rfl (q_mv (.inl rfl) (is_sc rfl)) ?_
  refine s_q rfl rfl (q_field rfl rfl (by exact rfl)) ?_
  refine s_q rfl rfl (q_load rfl rfl (by exact rfl)) ?_
  refine s_q rfl rfl (q_len rfl rfl rfl) ?_
  refine s_q rfl rfl (q_field rfl rfl (by exact rfl)) ?_
  refine s_q rfl rfl (q_load rfl rfl (by exact rfl)) ?_
  refine s_q rfl rfl (q_len rfl rfl rfl) ?_
  refine s_q rfl rfl (q_as (bl_no (fun h => h rfl)) (q_neq rfl rfl rfl)) ?_
  refine s_q rfl rfl (q_pickF rfl rfl (is_sc rfl)) ?_
  refine s_nil (n_n (w_ifF rfl (w_skip (n_n (w_seq (w_seq (w_reg (s_q rfl rfl (q_mv (.inr rfl) (is_sc rfl)) ?_))))))))
  refine s_nil (n_n (w_block ?_))
  refine w_loop (fun env A => ∃ i : Nat, i ≤ rows.length ∧ Binds env [(2, .box 0 0), (3, .box 1 0), (6, i64 i)] ∧ A = ⟨[.cells (IV.c (tabI (rows.map (·.map cv)))), .cells (V.c (tabV rows)), .cells (IV.c (tabI (rows.map (·.map cv))))], fun _ => false, 0, noHeap⟩) (fun env _ => rows.length - ctr (env 6)) ?_ ?_
  · exact ⟨0, Nat.zero_le _, ⟨rfl, rfl, rfl, trivial⟩, rfl⟩
  · rintro env A ⟨i, hi, hB, rfl⟩
    rw [hB.eq]; clear hB
    refine w_seq (w_seq (w_reg (s_q rfl rfl (q_mv (.inl rfl) (is_sc rfl)) ?_)))
    refine s_q rfl rfl (q_field rfl rfl (by exact rfl)) ?_
    refine s_q rfl rfl (q_load rfl rfl (by exact rfl)) ?_
    refine s_q rfl rfl (q_len rfl rfl rfl) ?_
    refine s_q rfl rfl (q_lss rfl rfl rfl) ?_
    refine s_nil (n_n (w_if (is_scb rfl) (fun h42 => ?_) (fun h42 => ?_)))
    · have hlt : i < rows.length := by have h' : (i : Int) < (((rows.map (·.map cv)).length : Nat) : Int) := of_decide_eq_true h42; rw [List.length_map] at h'; omega
      have hrl := hr _ (List.getElem_mem hlt)
      have hrow : takeAt false 1 ((rows.map (·.map cv)).map ilstU) ((i : Int).toNat * 1) = some (ilstU (rows[i].map cv)) := by simp [takeAt, hlt]
      refine w_skip (n_n (w_seq (w_block (w_seq (w_seq (w_draw [0, 1, 0, 7, 15, 31, 0, 64, 0, 448, 960, 1984, 4095] [0, 1, 0, 0, 1, 0, 0, 1, 0, 0, 1, 0, 0] rfl ?_))))))
      refine d_q0 rfl rfl (q_field rfl rfl (by exact rfl)) ?_
      refine d_q1 rfl rfl (q_load rfl rfl (by exact rfl)) ?_
      refine d_q0 rfl rfl (q_mv (.inl rfl) (is_sc rfl)) ?_
      refine d_q0 rfl rfl (q_index rfl rfl rfl rfl (Int.natCast_nonneg _) (by show (i : Int) < (((rows.map (·.map cv)).length : Nat) : Int); rw [List.length_map]; omega)) ?_
      refine d_q1 rfl rfl (q_loadPin rfl rfl (by exact hrow)) ?_
      refine d_q0 rfl rfl (q_len rfl rfl rfl) ?_
      refine d_q0 rfl rfl (q_field rfl rfl (by exact rfl)) ?_
      refine d_q1 rfl rfl (q_load rfl rfl (by exact rfl)) ?_
      refine d_q0 rfl rfl (q_mv (.inl rfl) (is_sc rfl)) ?_
      refine d_q0 rfl rfl (q_index rfl rfl rfl rfl (Int.natCast_nonneg _) (by show (i : Int) < ((rows.length : Nat) : Int); omega)) ?_
      refine d_q1 rfl rfl (q_loadPin rfl rfl (take_map lstU hlt)) ?_
      refine d_q0 rfl rfl (q_len rfl rfl rfl) ?_
      refine d_q0 rfl rfl (q_as (bl_no (show ¬ ¬ (((rows[i].map cv).length : Nat) : Int) = ((rows[i].length : Nat) : Int) by rw [List.length_map]; exact fun h => h rfl)) (q_neq rfl rfl rfl)) ?_
      refine d_nil (n_n (w_ifF rfl (w_skip (n_n (w_seq (w_reg (s_q rfl rfl (q_mv (.inr rfl) (is_sc rfl)) ?_)))))))
      refine s_nil (n_n (w_block ?_))
      refine w_loop (fun env A => ∃ j : Nat, j ≤ rows[i].length ∧ Binds env [(2, .box 0 0), (3, .box 1 0), (6, i64 i), (7, i64 j)] ∧ A = ⟨[.cells (IV.c (tabI (rows.map (·.map cv)))), .cells (V.c (tabV rows)), .cells (IV.c (tabI (rows.map (·.map cv))))], fun _ => false, 0, noHeap⟩) (fun env _ => rows[i].length - ctr (env 7)) ?_ ?_
      · exact ⟨0, Nat.zero_le _, ⟨rfl, rfl, rfl, rfl, trivial⟩, rfl⟩
      · rintro env A ⟨j, hj, hB, rfl⟩
        rw [hB.eq]; clear hB
        refine w_seq (w_seq (w_reg (s_q rfl rfl (q_mv (.inl rfl) (is_sc rfl)) ?_)))
        refine s_q rfl rfl (q_field rfl rfl (by exact rfl)) ?_
        refine s_q rfl rfl (q_load rfl rfl (by exact rfl)) ?_
        refine s_q rfl rfl (q_mv (.inl rfl) (is_sc rfl)) ?_
        refine s_q rfl rfl (q_index rfl rfl rfl rfl (Int.natCast_nonneg _) (by show (i : Int) < (((rows.map (·.map cv)).length : Nat) : Int); rw [List.length_map]; omega)) ?_
        refine s_q rfl rfl (q_loadPin rfl rfl (by exact hrow)) ?_
        refine s_q rfl rfl (q_len rfl rfl rfl) ?_
        refine s_q rfl rfl (q_lss rfl rfl rfl) ?_
        refine s_nil (n_n (w_if (is_scb rfl) (fun h65 => ?_) (fun h65 => ?_)))
        · have hjlt : j < rows[i].length := by have h' : (j : Int) < (((rows[i].map cv).length : Nat) : Int) := of_decide_eq_true h65; rw [List.length_map] at h'; omega
          have hcell : takeAt true 4 ((rows[i].map cv).flatMap IU.c) ((j : Int).toNat * 4) = some (IU.v (cv rows[i][j])).d := by have := take_ilstU (r := rows[i].map cv) (j := j) (by simpa using hjlt); rw [List.getElem_map] at this; exact this
          refine w_skip (n_n (w_seq (w_block (w_seq (w_draw [0, 1, 0, 7, 15, 0, 63, 127, 0, 256, 0, 1792, 3840, 0, 16128, 32512, 65535, 131071] [0, 1, 0, 0, 1, 0, 0, 1, 0, 1, 0, 0, 1, 0, 0, 1, 0, 0] rfl ?_)))))
          refine d_q0 rfl rfl (q_field rfl rfl (by exact rfl)) ?_
          refine d_q1 rfl rfl (q_load rfl rfl (by exact rfl)) ?_
          refine d_q0 rfl rfl (q_mv (.inl rfl) (is_sc rfl)) ?_
          refine d_q0 rfl rfl (q_index rfl rfl rfl rfl (Int.natCast_nonneg _) (by show (i : Int) < (((rows.map (·.map cv)).length : Nat) : Int); rw [List.length_map]; omega)) ?_
          refine d_q1 rfl rfl (q_loadPin rfl rfl (by exact hrow)) ?_
          refine d_q0 rfl rfl (q_mv (.inl rfl) (is_sc rfl)) ?_
          refine d_q0 rfl rfl (q_index rfl rfl rfl rfl (Int.natCast_nonneg _) (by show (j : Int) < (((rows[i].map cv).length : Nat) : Int); rw [List.length_map]; omega)) ?_
          refine d_q1 rfl rfl (q_loadPin rfl rfl (by exact hcell)) ?_
          refine d_q0 rfl rfl (q_field rfl rfl (by exact rfl)) ?_
          refine d_q1 rfl rfl (q_load rfl rfl (by exact rfl)) ?_
          refine d_q0 rfl rfl (q_mv (.inl rfl) (is_sc rfl)) ?_
          refine d_q0 rfl rfl (q_index rfl rfl rfl rfl (Int.natCast_nonneg _) (by show (i : Int) < ((rows.length : Nat) : Int); omega)) ?_
          refine d_q1 rfl rfl (q_loadPin rfl rfl (take_map lstU hlt)) ?_
          refine d_q0 rfl rfl (q_mv (.inl rfl) (is_sc rfl)) ?_
          refine d_q0 rfl rfl (q_index rfl rfl rfl rfl (Int.natCast_nonneg _) (by omega)) ?_
          refine d_q1 rfl rfl (q_loadPin rfl rfl (take_lstU hjlt)) ?_
          refine d_q0 rfl rfl (q_call rfl rfl rfl rfl (hs _ (List.getElem_mem hlt) _ (List.getElem_mem hjlt))) ?_
          refine d_q0 rfl rfl (q_not rfl rfl) ?_
          refine d_nil (n_n (w_ifF rfl (w_skip (b_n (n_n (w_reg (s_q rfl rfl (q_mv (.inl rfl) (is_sc rfl)) ?_)))))))
          refine s_q rfl rfl (q_add rfl rfl rfl) ?_
          refine s_q rfl rfl (q_mv (.inr rfl) (is_sc rfl)) ?_
          refine s_nil (n_n ?_)
          have hw : IntKind.i64.wrap ((j : Int) + 1) = ((j + 1 : Nat) : Int) := wrap_nat (by omega)
          refine ⟨⟨j + 1, hjlt, ⟨rfl, rfl, rfl, i64_eq hw, trivial⟩, rfl⟩, ?_⟩
          show rows[i].length - (IntKind.i64.wrap ((j : Int) + 1)).toNat < rows[i].length - (j : Int).toNat
          rw [hw]; omega
        · have hjge : rows[i].length ≤ j := by have h' : ¬ (j : Int) < (((rows[i].map cv).length : Nat) : Int) := of_decide_eq_false h65; rw [List.length_map] at h'; omega
          refine w_exit (n_e (n_e (b_hit (b_n (n_n (w_reg (s_q rfl rfl (q_mv (.inl rfl) (is_sc rfl)) ?_)))))))
          refine s_q rfl rfl (q_add rfl rfl rfl) ?_
          refine s_q rfl rfl (q_mv (.inr rfl) (is_sc rfl)) ?_
          refine s_nil (n_n ?_)
          have hw : IntKind.i64.wrap ((i : Int) + 1) = ((i + 1 : Nat) : Int) := wrap_nat (by omega)
          refine ⟨⟨i + 1, hlt, ⟨rfl, rfl, i64_eq hw, trivial⟩, rfl⟩, ?_⟩
          show rows.length - (IntKind.i64.wrap ((i : Int) + 1)).toNat < rows.length - (i : Int).toNat
          rw [hw]; omega
    · have hge : rows.length ≤ i := by have h' : ¬ (i : Int) < (((rows.map (·.map cv)).length : Nat) : Int) := of_decide_eq_false h42; rw [List.length_map] at h'; omega
      refine w_exit (n_e (n_e (b_hit (n_n (w_seq (w_reg (s_q rfl rfl (q_mv (.inr rfl) (is_sc rfl)) ?_)))))))
      refine s_nil (n_n (w_ret ?_))
      -- end 0
      refine r_r (ra_tmp (is_sc rfl) ra_nil) (by exact (is_sc rfl)) (by exact rfl) sub_no ?_
      rfl


-- pub-tallysheet/impl.out
theorem pf_outTab (rows : List (List IU)) (hl : rows.length < 1000000000) (hr : ∀ r ∈ rows, r.length < 1000000000) : PF Tryz.prog G 33 [(tabI rows).d] (tabI rows).d := by
  refine PC.intro rfl Tryz.func33 rfl (Nat.le_of_ble_eq_true rfl) rfl ?_
  refine w_seq (w_reg (s_s rfl rfl (as_box0 (id := 0) rfl (by first | exact (rfl : _ = D.agg [_, _, _, _]) | exact rfl) (by exact rfl) rfl (by exact (rfl : _ = [_, _, _, _]))) ?_))
  refine s_s rfl rfl (as_alloc0 (id := 1) rfl rfl (by exact (rfl : _ = [_, _, _, _]))) ?_
  refine s_nil (n_n (w_seq (w_reg (s_q rfl rfl (q_field rfl rfl (by exact rfl)) ?_))))
  refine s_q rfl rfl (q_load rfl rfl (by exact (rfl : _ = some (D.sc _)))) ?_
  refine s_q rfl rfl (q_field rfl rfl (by exact rfl)) ?_
  refine s_q rfl rfl (q_load rfl rfl (by exact (rfl : _ = some (D.sc _)))) ?_
  refine s_q rfl rfl (q_field rfl rfl (by exact rfl)) ?_
  refine s_q rfl rfl (q_load rfl rfl (by exact (rfl : _ = some (D.sc _)))) ?_
  refine s_q rfl rfl (q_build rfl (pt_cons (is_sc rfl) (pt_cons (is_sc rfl) (pt_cons (is_sc rfl) pt_nil))) (by exact (rfl : _ = some [_, _, _, _]))) ?_
  refine s_s rfl rfl (as_alloc0 (id := 2) rfl rfl (by exact (rfl : _ = [_, _, _, _]))) ?_
  refine s_u rfl rfl (as_st rfl rfl (by first | exact (rfl : _ = D.agg [_, _, _, _]) | exact rfl) rfl (by exact rfl) (by exact rfl) (by exact Nat.le_of_ble_eq_true rfl) (by exact (rfl : _ = [_, _, _, _]))) ?_
  refine s_nil (n_n (w_seq (w_seq (w_reg (s_q rfl rfl (q_field rfl rfl (by exact rfl)) ?_)))))
  refine s_q rfl rfl (q_load rfl rfl (by exact rfl)) ?_
  refine s_q rfl rfl (q_len rfl rfl rfl) ?_
  refine s_s rfl rfl (as_mvNil (id := 2) (off := 3) (e := 58) (.inr rfl) rfl rfl rfl) ?_
  refine s_nil (n_n (w_block ?_))
  refine w_loop (fun env A => ∃ (i t n : Nat) (xs : List D) (o : List LO) (live : Nat → Bool) (ln : Nat), i ≤ rows.length ∧ Binds env [(1, .box 0 0), (2, .box 1 0), (3, .box 2 0), (17, .im (rows.map ilstU) rows.length), (18, i64 rows.length), (19, i64 i)] ∧ A = ⟨(.cells (IV.c (tabI rows)) :: .cells [.sc (.int .i64 0), .sc (.float .f64 0), .sc (.string ⟨⟨[]⟩⟩), .sc (.slice none 0 0)] :: .cells [i64 5, fl 0, st [], .gs t 58 xs n] :: o), live, ln, noHeap⟩ ∧ xs = (rows.take i).map ilstU ∧ n = (rows.take i).length ∧ live t = true ∧ t < ln) (fun env _ => rows.length - ctr (env 19)) ?_ ?_
  · exact ⟨0, 0, 0, [], [], _, _, Nat.zero_le _, ⟨rfl, rfl, rfl, rfl, rfl, rfl, trivial⟩, rfl, rfl, rfl, rfl, Nat.lt_succ_self _⟩
  · rintro env A ⟨i, t, n, xs, o, live, ln, hi, hB, rfl, rfl, rfl, hv, htl⟩
    rw [hB.eq]; clear hB
    rw [show (⟨(.cells (IV.c (tabI rows)) :: .cells [.sc (.int .i64 0), .sc (.float .f64 0), .sc (.string ⟨⟨[]⟩⟩), .sc (.slice none 0 0)] :: .cells [i64 5, fl 0, st [], .gs t 58 ((rows.take i).map ilstU) (rows.take i).length] :: o), live, ln, noHeap⟩ : AH) = ⟨(.cells (IV.c (tabI rows)) :: .cells [.sc (.int .i64 0), .sc (.float .f64 0), .sc (.string ⟨⟨[]⟩⟩), .sc (.slice none 0 0)] :: .cells [i64 5, fl 0, st [], .gs t 58 ((rows.take i).map ilstU) (rows.take i).length] :: o) ++ [], live, ln, noHeap⟩ by rw [List.append_nil]]
    refine w_seq (w_reg (s_q rfl rfl (q_lss rfl rfl rfl) ?_))
    refine s_nil (n_n (w_seq (w_if (is_scb rfl) (fun h20 => ?_) (fun h20 => ?_))))
    · have hlt : i < rows.length := by have h' : (i : Int) < ((rows.length : Nat) : Int) := of_decide_eq_true h20; omega
      have hrl := hr _ (List.getElem_mem hlt)
      refine w_skip (n_n (w_seq (w_block (w_seq (w_reg (s_q rfl rfl (q_index rfl rfl rfl rfl (Int.natCast_nonneg _) (by omega)) ?_))))))
      refine s_q rfl rfl (q_loadPin rfl rfl (take_map ilstU hlt)) ?_
      refine s_q rfl rfl (q_mv (.inr rfl) (by first | exact is_im rfl | exact is_gs rfl | exact is_lit rfl | exact is_ms rfl | exact is_sc rfl | exact rfl)) ?_
      refine s_nil (n_n (w_seq (w_reg (s_s rfl rfl (as_nil (e := 57) (.inl rfl) rfl) ?_))))
      refine s_nil (n_n (w_seq (w_seq (w_reg (s_q rfl rfl (q_mv (.inl rfl) (by first | exact is_im rfl | exact is_gs rfl | exact is_lit rfl | exact is_ms rfl | exact is_sc rfl | exact rfl)) ?_)))))
      refine s_q rfl rfl (q_len rfl rfl rfl) ?_
      refine s_q rfl rfl (q_mv (.inl rfl) (is_sc rfl)) ?_
      refine s_nil (n_n (w_block ?_))
      refine w_loop (fun env A => ∃ (j t2 : Nat) (o : List LO) (live2 : Nat → Bool) (ln2 : Nat), j ≤ rows[i].length ∧ Binds env [(1, .box 0 0), (2, .box 1 0), (3, .box 2 0), (17, .im (rows.map ilstU) rows.length), (18, i64 rows.length), (19, i64 i), (6, .gs t2 57 ((rows[i].take j).flatMap IU.c) (rows[i].take j).length), (23, ilstU rows[i]), (24, i64 rows[i].length), (25, i64 j)] ∧ A = ⟨(.cells (IV.c (tabI rows)) :: .cells [.sc (.int .i64 0), .sc (.float .f64 0), .sc (.string ⟨⟨[]⟩⟩), .sc (.slice none 0 0)] :: .cells [i64 5, fl 0, st [], .gs t 58 ((rows.take i).map ilstU) (rows.take i).length] :: o), live2, ln2, noHeap⟩ ∧ live2 t = true ∧ live2 t2 = true ∧ t < ln2 ∧ t2 < ln2 ∧ t ≠ t2) (fun env _ => rows[i].length - ctr (env 25)) ?_ ?_
      · exact ⟨0, _, o, _, _, Nat.zero_le _, ⟨rfl, rfl, rfl, rfl, rfl, rfl, rfl, rfl, rfl, rfl, trivial⟩, by rw [List.append_nil]; rfl, live_tags_old (A := ⟨_, live, ln, noHeap⟩) hv, live_tags ⟨_, live, ln, noHeap⟩, Nat.lt_succ_of_lt htl, Nat.lt_succ_self _, Nat.ne_of_lt htl⟩
      · clear hv htl
        rintro env A ⟨j, t2, o, live2, ln2, hj, hB, rfl, hv, hv2, htl, htl2, hne⟩
        rw [hB.eq]; clear hB
        rw [show (⟨(.cells (IV.c (tabI rows)) :: .cells [.sc (.int .i64 0), .sc (.float .f64 0), .sc (.string ⟨⟨[]⟩⟩), .sc (.slice none 0 0)] :: .cells [i64 5, fl 0, st [], .gs t 58 ((rows.take i).map ilstU) (rows.take i).length] :: o), live2, ln2, noHeap⟩ : AH) = ⟨(.cells (IV.c (tabI rows)) :: .cells [.sc (.int .i64 0), .sc (.float .f64 0), .sc (.string ⟨⟨[]⟩⟩), .sc (.slice none 0 0)] :: .cells [i64 5, fl 0, st [], .gs t 58 ((rows.take i).map ilstU) (rows.take i).length] :: o) ++ [], live2, ln2, noHeap⟩ by rw [List.append_nil]]
        refine w_seq (w_reg (s_q rfl rfl (q_lss rfl rfl rfl) ?_))
        refine s_nil (n_n (w_seq (w_if (is_scb rfl) (fun h26 => ?_) (fun h26 => ?_))))
        · have hjlt : j < rows[i].length := by have h' : (j : Int) < ((rows[i].length : Nat) : Int) := of_decide_eq_true h26; omega
          refine w_skip (n_n (w_seq (w_block (w_seq (w_reg (s_q rfl rfl (q_index rfl rfl rfl rfl (Int.natCast_nonneg _) (by omega)) ?_))))))
          refine s_q rfl rfl (q_loadPin rfl rfl (take_ilstU hjlt)) ?_
          refine s_s rfl rfl (as_allocT (os := (.cells (IV.c (tabI rows)) :: .cells [.sc (.int .i64 0), .sc (.float .f64 0), .sc (.string ⟨⟨[]⟩⟩), .sc (.slice none 0 0)] :: .cells [i64 5, fl 0, st [], .gs t 58 ((rows.take i).map ilstU) (rows.take i).length] :: o)) (tail := []) rfl rfl rfl (by exact (rfl : _ = [_, _, _, _]))) ?_
          refine s_u rfl rfl (as_stT (os := (.cells (IV.c (tabI rows)) :: .cells [.sc (.int .i64 0), .sc (.float .f64 0), .sc (.string ⟨⟨[]⟩⟩), .sc (.slice none 0 0)] :: .cells [i64 5, fl 0, st [], .gs t 58 ((rows.take i).map ilstU) (rows.take i).length] :: o)) (tail := [_]) (j := 0) rfl rfl rfl (by first | exact (rfl : _ = D.agg [_, _, _, _]) | exact rfl) (by exact rfl) (by exact rfl) (by exact rfl) (by exact Nat.le_of_ble_eq_true rfl) (by exact (rfl : _ = [_, _, _, _])) (by exact (rfl : _ = [_]))) ?_
          refine s_nil (n_n (w_reg (s_q rfl rfl (q_mv (.inl rfl) (by first | exact is_im rfl | exact is_gs rfl | exact is_lit rfl | exact is_ms rfl | exact is_sc rfl | exact rfl)) ?_)))
          refine s_q rfl rfl (q_loadT (os := (.cells (IV.c (tabI rows)) :: .cells [.sc (.int .i64 0), .sc (.float .f64 0), .sc (.string ⟨⟨[]⟩⟩), .sc (.slice none 0 0)] :: .cells [i64 5, fl 0, st [], .gs t 58 ((rows.take i).map ilstU) (rows.take i).length] :: o)) (tail := [_]) (j := 0) rfl rfl rfl (by exact rfl) (by exact (rfl : _ = some (D.agg [_, _, _, _])))) ?_
          refine s_q rfl rfl (q_call rfl rfl rfl rfl (pf_out _ _ _)) ?_
          refine s_q rfl rfl (q_bs rfl (pt_cons (by first | exact (rfl : _ = D.agg [_, _, _, _]) | exact rfl) pt_nil) (by decide) (by decide) (by exact (rfl : _ = some [_, _, _, _])) (by exact (rfl : _ = [_, _, _, _])) (by exact rfl) (by exact rfl)) ?_
          refine s_s rfl rfl (as_append rfl rfl hv2 rfl rfl (by decide) (by exact len_ilstU _) (by exact rfl) (by show _ * 56 ≤ _; simp only [List.length_take]; omega) (by show _ ≤ 9223372036854775807; simp only [List.length_take]; omega)) ?_
          refine s_q rfl rfl (q_mv (.inr rfl) (by first | exact is_im rfl | exact is_gs rfl | exact is_lit rfl | exact is_ms rfl | exact is_sc rfl | exact rfl)) ?_
          refine s_nil (b_n (n_n (w_reg (s_q rfl rfl (q_add rfl rfl rfl) ?_))))
          refine s_q rfl rfl (q_mv (.inl rfl) (is_sc rfl)) ?_
          refine s_nil (n_n ?_)
          have hw : IntKind.i64.wrap ((j : Int) + 1) = ((j + 1 : Nat) : Int) := wrap_nat (by omega)
          refine ⟨⟨j + 1, ln2, _, _, _, hjlt, ⟨rfl, rfl, rfl, rfl, rfl, rfl, ?_, rfl, rfl, i64_eq hw, trivial⟩, rfl, live_app_old (A := ⟨_, live2, ln2, noHeap⟩) hv hne, live_app ⟨_, live2, ln2, noHeap⟩ t2, Nat.lt_succ_of_lt htl, Nat.lt_succ_self _, Nat.ne_of_lt htl⟩, ?_⟩
          · rw [List.take_succ_eq_append_getElem hjlt, List.flatMap_append, List.length_append]; rfl
          · show rows[i].length - (IntKind.i64.wrap ((j : Int) + 1)).toNat < rows[i].length - (j : Int).toNat
            rw [hw]; omega
        · have hjge : rows[i].length ≤ j := by have h' : ¬ (j : Int) < ((rows[i].length : Nat) : Int) := of_decide_eq_false h26; omega
          rw [List.take_of_length_le hjge]
          refine w_exit (n_e (n_e (b_hit (n_n (w_reg (s_q rfl rfl (q_field rfl rfl (by exact rfl)) ?_))))))
          refine s_q rfl rfl (q_load rfl rfl (by exact rfl)) ?_
          refine s_q rfl rfl (q_mv (.inl rfl) (by first | exact is_im rfl | exact is_gs rfl | exact is_lit rfl | exact is_ms rfl | exact is_sc rfl | exact rfl)) ?_
          refine s_q rfl rfl (q_bs rfl (pt_cons (by first | exact is_im rfl | exact is_gs rfl | exact is_lit rfl | exact is_ms rfl | exact is_sc rfl | exact rfl) pt_nil) (by decide) (by decide) (by exact (rfl : _ = some [_])) (by exact (rfl : _ = [_])) (by exact rfl) (by exact rfl)) ?_
          refine s_s rfl rfl (as_append rfl rfl hv rfl rfl (by decide) (by simp [List.length_map]) (by exact rfl) (by show _ * 24 ≤ _; simp only [List.length_take]; omega) (by show _ ≤ 9223372036854775807; simp only [List.length_take]; omega)) ?_
          refine s_q rfl rfl (q_field rfl rfl (by exact rfl)) ?_
          refine s_u rfl rfl (as_st rfl rfl (by first | exact is_im rfl | exact is_gs rfl | exact is_lit rfl | exact is_ms rfl | exact is_sc rfl | exact rfl) rfl (by exact rfl) (by exact rfl) (by exact Nat.le_of_ble_eq_true rfl) (by exact (rfl : _ = [_, _, _, _]))) ?_
          refine s_nil (b_n (n_n (w_reg (s_q rfl rfl (q_add rfl rfl rfl) ?_))))
          refine s_q rfl rfl (q_mv (.inl rfl) (is_sc rfl)) ?_
          refine s_nil (n_n ?_)
          have hw : IntKind.i64.wrap ((i : Int) + 1) = ((i + 1 : Nat) : Int) := wrap_nat (by omega)
          refine ⟨⟨i + 1, ln2, _, _, o ++ [], _, _, hlt, ⟨rfl, rfl, rfl, rfl, rfl, i64_eq hw, trivial⟩, rfl, ?_, ?_, live_app ⟨_, live2, ln2, noHeap⟩ t, Nat.lt_succ_self _⟩, ?_⟩
          · rw [List.take_succ_eq_append_getElem hlt, List.map_append]; rfl
          · rw [List.take_succ_eq_append_getElem hlt, List.length_append]; rfl
          · show rows.length - (IntKind.i64.wrap ((i : Int) + 1)).toNat < rows.length - (i : Int).toNat
            rw [hw]; omega
    · have hge : rows.length ≤ i := by have h' : ¬ (i : Int) < ((rows.length : Nat) : Int) := of_decide_eq_false h20; omega
      rw [List.take_of_length_le hge]
      refine w_exit (n_e (n_e (b_hit (n_n (w_seq (w_reg (s_q rfl rfl (q_load rfl rfl (by exact (rfl : _ = some (D.agg [_, _, _, _])))) ?_)))))))
      refine s_u rfl rfl (as_st rfl rfl (by first | exact (rfl : _ = D.agg [_, _, _, _]) | exact rfl) rfl (by exact rfl) (by exact rfl) (by exact Nat.le_of_ble_eq_true rfl) (by exact (rfl : _ = [_, _, _, _]))) ?_
      refine s_nil (n_n (w_ret ?_))
      -- end 0
      refine r_r (ra_cell (by exact (rfl : _ = some (D.agg [_, _, _, _]))) ra_nil) (by first | exact (rfl : _ = D.agg [_, _, _, _]) | exact rfl) (by exact rfl) sub_no ?_
      rfl

end Go.Proofs.YtpjckdhgefbonaaGreatDoor.Zz
