/- Walks of the functions, printed by program, and the logic behind them: each theorem says what one function or one step answers. -/
import Derived.Test.YtopgbalmdocboaaGreatDoorZN1
import Derived.Test.YtopgbalmdocboaaGreatDoorZSm
import Derived.Test.YtopgbalmdocboaaGreatDoorZText
import Derived.Test.YtopgbalmdocboaaGreatDoorZNum
namespace Go.Proofs.YtopgbalmdocboaaGreatDoor.Zz
open Go.Abs
set_option maxRecDepth 100000
set_option linter.unusedVariables false
set_option linter.unusedSimpArgs false
set_option maxHeartbeats 4000000
variable {G : Nat → D}

-- pub-tallysheet/laws.part
theorem pf_part (n m : Int) (hm : 0 < m) (hm2 : m < 1000000) : PF Tryz.prog G 34 [i64 n, i64 m] (i64 (partI n m)) := by
  have hp1 := Int.tmod_lt_of_pos n hm
  have hp2 := part_le (k := n) hm
  refine PC.intro rfl Tryz.func34 rfl (Nat.le_of_ble_eq_true rfl) rfl ?_
  refine w_seq (w_reg (s_q rfl rfl (q_mv (.inr rfl) (is_sc rfl)) ?_))
  refine s_nil (n_n (w_seq (w_reg (s_q rfl rfl (q_mv (.inl rfl) (is_sc rfl)) ?_))))
  refine s_q rfl rfl (q_mv (.inl rfl) (is_sc rfl)) ?_
  refine s_q rfl rfl (q_rem rfl rfl rfl (by omega)) ?_
  refine s_q rfl rfl (q_mv (.inr rfl) (is_sc rfl)) ?_
  refine s_nil (n_n (w_seq (w_seq (w_reg (s_q rfl rfl (q_mv (.inl rfl) (is_sc rfl)) ?_)))))
  refine s_q rfl rfl (q_lss rfl rfl rfl) ?_
  refine s_nil (n_n (w_if (is_scb rfl) (fun h9 => ?_) (fun h9 => ?_)))
  · have h0 : n.tmod m < 0 := of_decide_eq_true h9
    have he : partI n m = n.tmod m + m := if_pos h0
    refine w_reg (s_q rfl rfl (q_mv (.inl rfl) (is_sc rfl)) ?_)
    refine s_q rfl rfl (q_mv (.inl rfl) (is_sc rfl)) ?_
    refine s_q rfl rfl (q_as (i64_eq (show IntKind.i64.wrap (n.tmod m + m) = partI n m by rw [wrap_id (by omega) (by omega)]; exact he.symm)) (q_add rfl rfl rfl)) ?_
    refine s_q rfl rfl (q_mv (.inr rfl) (is_sc rfl)) ?_
    refine s_nil (n_n (w_seq (w_reg (s_q rfl rfl (q_mv (.inl rfl) (is_sc rfl)) ?_))))
    refine s_q rfl rfl (q_mv (.inr rfl) (is_sc rfl)) ?_
    refine s_nil (n_n (w_ret ?_))
    -- end 0
    refine r_r (ra_tmp (is_sc rfl) ra_nil) (by exact (is_sc rfl)) (by exact rfl) sub_no ?_
    rfl
  · have h0 : ¬ n.tmod m < 0 := of_decide_eq_false h9
    have he : partI n m = n.tmod m := if_neg h0
    refine w_skip (n_n (w_seq (w_reg (s_q rfl rfl (q_mv (.inl rfl) (is_sc rfl)) ?_))))
    refine s_q rfl rfl (q_mv (.inr rfl) (is_sc rfl)) ?_
    refine s_nil (n_n (w_ret ?_))
    -- end 1
    refine r_r (ra_tmp (is_sc rfl) ra_nil) (by exact (is_sc rfl)) (by exact rfl) sub_no ?_
    rw [he]


-- (pub-tallysheet/laws.Item).val
theorem pf_val (x : It) : PF Tryz.prog G 13 [.agg (It.c x)] (itU x).v.d := by
  have ht := Int.tmod_lt_of_pos x.num (show (0 : Int) < 1099511627776 by decide)
  have ht2 : -1099511627776 < x.num.tmod 1099511627776 := by
    rcases Int.lt_or_le x.num 0 with hk | hk
    · have h3 : (-x.num).tmod 1099511627776 < 1099511627776 := Int.tmod_lt_of_pos _ (by decide)
      rw [Int.neg_tmod] at h3; omega
    · have := Int.tmod_nonneg 1099511627776 hk; omega
  refine PC.intro rfl Tryz.func13 rfl (Nat.le_of_ble_eq_true rfl) rfl ?_
  refine w_seq (w_reg (s_s rfl rfl (as_box0 (id := 0) rfl (by first | exact (rfl : _ = D.agg [_, _, _]) | exact rfl) (by exact rfl) rfl (by exact (rfl : _ = [_, _, _]))) ?_))
  refine s_s rfl rfl (as_alloc0 (id := 1) rfl rfl (by exact (rfl : _ = [_, _, _, _, _]))) ?_
  refine s_nil (n_n (w_seq (w_seq (w_reg (s_q rfl rfl (q_field rfl rfl (by exact rfl)) ?_)))))
  refine s_q rfl rfl (q_load rfl rfl (by exact (rfl : _ = some (D.sc _)))) ?_
  refine s_q rfl rfl (q_call rfl rfl rfl rfl (pf_part _ 6 (by omega) (by omega))) ?_
  refine s_nil (n_n (w_block (w_seq (w_reg (s_q rfl rfl (q_eql rfl rfl rfl) ?_)))))
  refine s_q rfl rfl (q_mv (.inr rfl) (is_sc rfl)) ?_
  refine s_nil (n_n (w_if (is_scb rfl) (fun h1 => ?_) (fun h1 => ?_)))
  · refine w_seq (w_reg (s_q rfl rfl (q_field rfl rfl (by exact rfl)) ?_))
    refine s_q rfl rfl (q_load rfl rfl (by exact (rfl : _ = some (D.sc _)))) ?_
    refine s_q rfl rfl (q_call rfl rfl rfl rfl (pf_int _)) ?_
    refine s_u rfl rfl (as_st rfl rfl (by first | exact (rfl : _ = D.agg [_, _, _, _, _]) | exact rfl) rfl (by exact rfl) (by exact rfl) (by exact Nat.le_of_ble_eq_true rfl) (by exact (rfl : _ = [_, _, _, _, _]))) ?_
    refine s_nil (n_n (w_ret (b_r (n_r ?_))))
    -- end 0
    refine r_r (ra_cell (by exact (rfl : _ = some (D.agg [_, _, _, _, _]))) ra_nil) (by first | exact (rfl : _ = D.agg [_, _, _, _, _]) | exact rfl) (by exact rfl) sub_no ?_
    rw [itU_v, show itV x = intV x.num by unfold itV; simp_all]; rfl
  · refine w_seq (w_reg (s_q rfl rfl (q_eql rfl rfl rfl) ?_))
    refine s_q rfl rfl (q_mv (.inr rfl) (is_sc rfl)) ?_
    refine s_nil (n_n (w_if (is_scb rfl) (fun h2 => ?_) (fun h2 => ?_)))
    · refine w_seq (w_reg (s_q rfl rfl (q_field rfl rfl (by exact rfl)) ?_))
      refine s_q rfl rfl (q_load rfl rfl (by exact (rfl : _ = some (D.sc _)))) ?_
      refine s_q rfl rfl (q_rem rfl rfl rfl (by decide)) ?_
      refine s_q rfl rfl (q_call rfl rfl rfl rfl (pf_frac _ 4 (x.num.tmod 1099511627776 * 4) (by omega) (by omega) (by omega) (by omega) (by omega) (by omega) (by omega))) ?_
      refine s_u rfl rfl (as_st rfl rfl (by first | exact (rfl : _ = D.agg [_, _, _, _, _]) | exact rfl) rfl (by exact rfl) (by exact rfl) (by exact Nat.le_of_ble_eq_true rfl) (by exact (rfl : _ = [_, _, _, _, _]))) ?_
      refine s_nil (n_n (w_ret (b_r (n_r ?_))))
      -- end 1
      refine r_r (ra_cell (by exact (rfl : _ = some (D.agg [_, _, _, _, _]))) ra_nil) (by first | exact (rfl : _ = D.agg [_, _, _, _, _]) | exact rfl) (by exact rfl) sub_no ?_
      rw [itU_v, show itV x = sixV (x.num.tmod 1099511627776 * 4) by unfold itV; simp_all]; rfl
    · refine w_seq (w_reg (s_q rfl rfl (q_eql rfl rfl rfl) ?_))
      refine s_q rfl rfl (q_mv (.inr rfl) (is_sc rfl)) ?_
      refine s_nil (n_n (w_if (is_scb rfl) (fun h3 => ?_) (fun h3 => ?_)))
      · refine w_seq (w_reg (s_q rfl rfl (q_field rfl rfl (by exact rfl)) ?_))
        refine s_q rfl rfl (q_load rfl rfl (by exact (rfl : _ = some (D.sc _)))) ?_
        refine s_q rfl rfl (q_call rfl rfl rfl rfl (pf_str _)) ?_
        refine s_u rfl rfl (as_st rfl rfl (by first | exact (rfl : _ = D.agg [_, _, _, _, _]) | exact rfl) rfl (by exact rfl) (by exact rfl) (by exact Nat.le_of_ble_eq_true rfl) (by exact (rfl : _ = [_, _, _, _, _]))) ?_
        refine s_nil (n_n (w_ret (b_r (n_r ?_))))
        -- end 2
        refine r_r (ra_cell (by exact (rfl : _ = some (D.agg [_, _, _, _, _]))) ra_nil) (by first | exact (rfl : _ = D.agg [_, _, _, _, _]) | exact rfl) (by exact rfl) sub_no ?_
        rw [itU_v, show itV x = strV x.text by unfold itV; simp_all]; rfl
      · refine w_seq (w_reg (s_q rfl rfl (q_eql rfl rfl rfl) ?_))
        refine s_q rfl rfl (q_mv (.inr rfl) (is_sc rfl)) ?_
        refine s_nil (n_n (w_if (is_scb rfl) (fun h4 => ?_) (fun h4 => ?_)))
        · refine w_seq (w_reg (s_q rfl rfl (q_field rfl rfl (by exact rfl)) ?_))
          refine s_q rfl rfl (q_load rfl rfl (by exact (rfl : _ = some (D.sc _)))) ?_
          refine s_q rfl rfl (q_rem rfl rfl rfl (by decide)) ?_
          refine s_q rfl rfl (q_neq rfl rfl rfl) ?_
          refine s_q rfl rfl (q_call rfl rfl rfl rfl (pf_bool _)) ?_
          refine s_u rfl rfl (as_st rfl rfl (by first | exact (rfl : _ = D.agg [_, _, _, _, _]) | exact rfl) rfl (by exact rfl) (by exact rfl) (by exact Nat.le_of_ble_eq_true rfl) (by exact (rfl : _ = [_, _, _, _, _]))) ?_
          refine s_nil (n_n (w_ret (b_r (n_r ?_))))
          -- end 3
          refine r_r (ra_cell (by exact (rfl : _ = some (D.agg [_, _, _, _, _]))) ra_nil) (by first | exact (rfl : _ = D.agg [_, _, _, _, _]) | exact rfl) (by exact rfl) sub_no ?_
          rw [itU_v, show itV x = boolV (decide (¬ x.num.tmod 2 = 0)) by unfold itV; simp_all]; rfl
        · refine w_seq (w_reg (s_q rfl rfl (q_eql rfl rfl rfl) ?_))
          refine s_q rfl rfl (q_mv (.inr rfl) (is_sc rfl)) ?_
          refine s_nil (n_n (w_if (is_scb rfl) (fun h5 => ?_) (fun h5 => ?_)))
          · refine w_seq (w_reg (s_q rfl rfl (q_bs rfl (pt_cons (is_sc rfl) (pt_cons (is_sc rfl) (pt_cons (is_sc rfl) (pt_cons (is_sc rfl) (pt_cons (is_sc rfl) (pt_cons (is_sc rfl) (pt_cons (is_sc rfl) pt_nil))))))) (by decide) (by decide) (by exact (rfl : _ = some [_, _, _, _, _, _, _])) (by exact (rfl : _ = [_, _, _, _, _, _, _])) (by exact rfl) (by exact rfl)) ?_))
            refine s_q rfl rfl (q_field rfl rfl (by exact rfl)) ?_
            refine s_q rfl rfl (q_load rfl rfl (by exact (rfl : _ = some (D.sc _)))) ?_
            refine s_q rfl rfl (q_call rfl rfl rfl rfl (by have := pf_part (G := G) x.num 7 (by omega) (by omega); rw [show partI x.num 7 = ((errT x.num : Nat) : Int) by unfold errT; rw [Int.toNat_of_nonneg (part_le (by omega)).1]] at this; exact this)) ?_
            refine s_q rfl rfl (q_index rfl rfl rfl rfl (Int.natCast_nonneg _) (by have := errT_lt x.num; show ((errT x.num : Nat) : Int) < 7; omega)) ?_
            refine s_q rfl rfl (q_loadPin rfl rfl (by exact take_map (l := errsT) st (errT_lt x.num))) ?_
            refine s_q rfl rfl (q_call rfl rfl rfl rfl (pf_err _)) ?_
            refine s_u rfl rfl (as_st rfl rfl (by first | exact (rfl : _ = D.agg [_, _, _, _, _]) | exact rfl) rfl (by exact rfl) (by exact rfl) (by exact Nat.le_of_ble_eq_true rfl) (by exact (rfl : _ = [_, _, _, _, _]))) ?_
            refine s_nil (n_n (w_ret (b_r (n_r ?_))))
            -- end 4
            refine r_r (ra_cell (by exact (rfl : _ = some (D.agg [_, _, _, _, _]))) ra_nil) (by first | exact (rfl : _ = D.agg [_, _, _, _, _]) | exact rfl) (by exact rfl) sub_no ?_
            rw [itU_v, show itV x = errV (errsT[errT x.num]'(errT_lt x.num)) by unfold itV; simp_all]; rfl
          · refine w_skip (b_n (n_n (w_seq (w_reg (s_q rfl rfl (q_build rfl pt_nil (by exact (rfl : _ = some [_, _, _, _, _]))) ?_)))))
            refine s_u rfl rfl (as_st rfl rfl (by first | exact (rfl : _ = D.agg [_, _, _, _, _]) | exact rfl) rfl (by exact rfl) (by exact rfl) (by exact Nat.le_of_ble_eq_true rfl) (by exact (rfl : _ = [_, _, _, _, _]))) ?_
            refine s_nil (n_n (w_ret ?_))
            -- end 5
            refine r_r (ra_cell (by exact (rfl : _ = some (D.agg [_, _, _, _, _]))) ra_nil) (by first | exact (rfl : _ = D.agg [_, _, _, _, _]) | exact rfl) (by exact rfl) sub_no ?_
            rw [itU_v, show itV x = noV by unfold itV; simp_all]; rfl


-- pub-tallysheet/laws.table
def cntA (l : List It) (cols : Int) (more : List It) : List V := tabV (tabU l cols) :: (more.take 10).map fun x => (itU x).v
def fits1 (l : List It) : Bool := decide (l.length ≤ 2147483647) && l.all fun x => decide (x.text.length ≤ 2147483647)


-- pub-tallysheet/laws.with
-- pub-tallysheet/laws.zzFits2
theorem pf_zzFits2 (x : It) : PF Tryz.prog G 32 [.agg (It.c x)] (bl (decide (x.text.length ≤ 2147483647))) := by
  refine PC.intro rfl Tryz.func32 rfl (Nat.le_of_ble_eq_true rfl) rfl ?_
  refine w_seq (w_reg (s_s rfl rfl (as_box0 (id := 0) rfl (by first | exact (rfl : _ = D.agg [_, _, _]) | exact rfl) (by exact rfl) rfl (by exact (rfl : _ = [_, _, _]))) ?_))
  refine s_q rfl rfl (q_mv (.inr rfl) (is_sc rfl)) ?_
  refine s_nil (n_n (w_seq (w_seq (w_reg (s_q rfl rfl (q_field rfl rfl (by exact rfl)) ?_)))))
  refine s_q rfl rfl (q_load rfl rfl (by exact (rfl : _ = some (D.sc _)))) ?_
  refine s_q rfl rfl (q_lens rfl rfl) ?_
  refine s_q rfl rfl (q_gtr rfl rfl rfl) ?_
  refine s_nil (n_n (w_if (is_scb rfl) (fun h6 => ?_) (fun h6 => ?_)))
  · have h' : (2147483647 : Int) < ((x.text.length : Nat) : Int) := of_decide_eq_true h6
    refine w_seq (w_reg (s_q rfl rfl (q_mv (.inr rfl) (is_sc rfl)) ?_))
    refine s_nil (n_n (w_ret (n_r ?_)))
    -- end 0
    refine r_r (ra_tmp (is_sc rfl) ra_nil) (by exact (is_sc rfl)) (by exact rfl) sub_no ?_
    rw [decide_eq_false (by omega)]
  · have h' : ¬ (2147483647 : Int) < ((x.text.length : Nat) : Int) := of_decide_eq_false h6
    refine w_skip (n_n (w_seq (w_reg (s_q rfl rfl (q_mv (.inr rfl) (is_sc rfl)) ?_))))
    refine s_nil (n_n (w_ret ?_))
    -- end 1
    refine r_r (ra_tmp (is_sc rfl) ra_nil) (by exact (is_sc rfl)) (by exact rfl) sub_no ?_
    rw [decide_eq_true (by omega)]


-- pub-tallysheet/laws.zzFits1
theorem pf_zzFits1 (l : List It) : PF Tryz.prog G 11 [itL l] (bl (fits1 l)) := by
  refine PC.intro rfl Tryz.func11 rfl (Nat.le_of_ble_eq_true rfl) rfl ?_
  refine w_seq (w_reg (s_q rfl rfl (q_mv (.inr rfl) (is_sc rfl)) ?_))
  refine s_nil (n_n (w_seq (w_seq (w_reg (s_q rfl rfl (q_mv (.inl rfl) (by first | exact is_im rfl | exact is_gs rfl | exact is_lit rfl | exact is_ms rfl | exact is_sc rfl | exact rfl)) ?_)))))
  refine s_q rfl rfl (q_len rfl rfl rfl) ?_
  refine s_q rfl rfl (q_gtr rfl rfl rfl) ?_
  refine s_nil (n_n (w_if (is_scb rfl) (fun h7 => ?_) (fun h7 => ?_)))
  · have h2 : ¬ l.length ≤ 2147483647 := by have h' : (2147483647 : Int) < ((l.length : Nat) : Int) := of_decide_eq_true h7; omega
    refine w_seq (w_reg (s_q rfl rfl (q_mv (.inr rfl) (is_sc rfl)) ?_))
    refine s_nil (n_n (w_ret (n_r ?_)))
    -- end 0
    refine r_r (ra_tmp (is_sc rfl) ra_nil) (by exact (is_sc rfl)) (by exact rfl) sub_no ?_
    rw [show fits1 l = false by unfold fits1; rw [decide_eq_false h2]; rfl] <;> rfl
  · have h2 : l.length ≤ 2147483647 := by have h' : ¬ (2147483647 : Int) < ((l.length : Nat) : Int) := of_decide_eq_false h7; omega
    refine w_skip (n_n (w_seq (w_seq (w_reg (s_q rfl rfl (q_mv (.inl rfl) (by first | exact is_im rfl | exact is_gs rfl | exact is_lit rfl | exact is_ms rfl | exact is_sc rfl | exact rfl)) ?_)))))
    refine s_q rfl rfl (q_len rfl rfl rfl) ?_
    refine s_q rfl rfl (q_mv (.inl rfl) (is_sc rfl)) ?_
    refine s_nil (n_n (w_block ?_))
    refine w_loop (fun env A => ∃ (i : Nat) (o : List LO), i ≤ l.length ∧ (∀ x ∈ l.take i, x.text.length ≤ 2147483647) ∧ Binds env [(8, itL l), (9, i64 l.length), (10, i64 i)] ∧ A = ⟨o, fun _ => false, 0, noHeap⟩) (fun env _ => l.length - ctr (env 10)) ?_ ?_
    · exact ⟨0, [], Nat.zero_le _, by simp, ⟨rfl, rfl, rfl, trivial⟩, rfl⟩
    · rintro env A ⟨i, o, hi, hp, hB, rfl⟩
      rw [hB.eq]; clear hB
      rw [show (⟨o, fun _ => false, 0, noHeap⟩ : AH) = ⟨o ++ [], fun _ => false, 0, noHeap⟩ by rw [List.append_nil]]
      refine w_seq (w_reg (s_q rfl rfl (q_lss rfl rfl rfl) ?_))
      refine s_nil (n_n (w_seq (w_if (is_scb rfl) (fun h11 => ?_) (fun h11 => ?_))))
      · have hlt : i < l.length := by have h' : (i : Int) < ((l.length : Nat) : Int) := of_decide_eq_true h11; omega
        refine w_skip (n_n (w_seq (w_block (w_seq (w_reg (s_q rfl rfl (q_index rfl rfl rfl rfl (Int.natCast_nonneg _) (by omega)) ?_))))))
        refine s_q rfl rfl (q_loadPin rfl rfl (by exact take_itl hlt)) ?_
        refine s_s rfl rfl (as_allocT (os := o) (tail := []) rfl rfl rfl (by exact (rfl : _ = [_, _, _]))) ?_
        refine s_u rfl rfl (as_stT (os := o) (tail := [_]) (j := 0) rfl rfl rfl (by first | exact (rfl : _ = D.agg [_, _, _]) | exact rfl) (by exact rfl) (by exact rfl) (by exact rfl) (by exact Nat.le_of_ble_eq_true rfl) (by exact (rfl : _ = [_, _, _])) (by exact (rfl : _ = [_]))) ?_
        refine s_nil (n_n (w_seq (w_reg (s_q rfl rfl (q_loadT (os := o) (tail := [_]) (j := 0) rfl rfl rfl (by exact rfl) (by exact (rfl : _ = some (D.agg [_, _, _])))) ?_))))
        refine s_q rfl rfl (q_call rfl rfl rfl rfl (pf_zzFits2 _)) ?_
        refine s_q rfl rfl (q_not rfl rfl) ?_
        refine s_nil (n_n (w_if (is_scb rfl) (fun h16 => ?_) (fun h16 => ?_)))
        · have hs : ¬ l[i].text.length ≤ 2147483647 := by simpa using h16
          refine w_seq (w_reg (s_q rfl rfl (q_mv (.inr rfl) (is_sc rfl)) ?_))
          refine s_nil (n_n (w_ret (b_r (n_r (n_r (b_r (n_r ?_)))))))
          -- end 1
          refine r_r (ra_tmp (is_sc rfl) ra_nil) (by exact (is_sc rfl)) (by exact rfl) sub_no ?_
          rw [show fits1 l = false by unfold fits1; rw [List.all_eq_false.2 ⟨_, List.getElem_mem hlt, by simpa using hs⟩, Bool.and_false]] <;> rfl
        · have hs : l[i].text.length ≤ 2147483647 := by simpa using h16
          refine w_skip (b_n (n_n (w_reg (s_q rfl rfl (q_add rfl rfl rfl) ?_))))
          refine s_q rfl rfl (q_mv (.inl rfl) (is_sc rfl)) ?_
          refine s_nil (n_n ?_)
          have hw : IntKind.i64.wrap ((i : Int) + 1) = ((i + 1 : Nat) : Int) := by rw [wrap_id (by omega) (by omega)]; omega
          refine ⟨⟨i + 1, _, hlt, take_more' hlt hp hs, ⟨rfl, rfl, i64_eq hw, trivial⟩, rfl⟩, ?_⟩
          show l.length - (IntKind.i64.wrap ((i : Int) + 1)).toNat < l.length - (i : Int).toNat
          rw [hw]; omega
      · have hge : l.length ≤ i := by have h' : ¬ (i : Int) < ((l.length : Nat) : Int) := of_decide_eq_false h11; omega
        refine w_exit (n_e (n_e (b_hit (n_n (w_seq (w_reg (s_q rfl rfl (q_mv (.inr rfl) (is_sc rfl)) ?_)))))))
        refine s_nil (n_n (w_ret ?_))
        -- end 2
        refine r_r (ra_tmp (is_sc rfl) ra_nil) (by exact (is_sc rfl)) (by exact rfl) sub_no ?_
        rw [show fits1 l = true by unfold fits1; rw [decide_eq_true h2, List.all_eq_true.2 fun s hs => decide_eq_true (take_all' hge hp s hs)]; rfl] <;> rfl

end Go.Proofs.YtopgbalmdocboaaGreatDoor.Zz
