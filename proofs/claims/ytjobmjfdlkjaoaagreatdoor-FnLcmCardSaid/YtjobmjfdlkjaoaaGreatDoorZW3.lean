/- Walks of the functions, printed by program: each theorem says what one function answers. -/
import Derived.Test.YtjobmjfdlkjaoaaGreatDoorZW1
namespace Go.Proofs.YtjobmjfdlkjaoaaGreatDoor.Zz
open Go.Abs
set_option maxRecDepth 100000
set_option linter.unusedVariables false
set_option linter.unusedSimpArgs false
set_option maxHeartbeats 4000000
variable {G : Nat → D}

-- pub-tallysheet/spec.First
theorem pf_first (l : List V) (hl : l.length < 1000000000) (hk : ∀ v ∈ l, ¬ v.kind = 5) : PF Tryz.prog G 223 [lst l] (.tup [(firstV l).1.d, bl (firstV l).2]) := by
  refine PC.intro rfl Tryz.func223 rfl (Nat.le_of_ble_eq_true rfl) rfl ?_
  refine w_seq (w_reg (s_s rfl rfl (as_alloc0 (id := 0) rfl rfl (by exact (rfl : _ = [_, _, _, _, _]))) ?_))
  refine s_q rfl rfl (q_mv (.inr rfl) (is_sc rfl)) ?_
  refine s_nil (n_n (w_seq (w_reg (s_q rfl rfl (q_mv (.inl rfl) (by first | exact is_im rfl | exact is_gs rfl | exact is_lit rfl | exact is_ms rfl | exact is_sc rfl | exact rfl)) ?_))))
  refine s_q rfl rfl (q_call rfl rfl rfl rfl (pf_flatP l hl hk)) ?_
  refine s_q rfl rfl (q_mv (.inr rfl) (by first | exact is_im rfl | exact is_gs rfl | exact is_lit rfl | exact is_ms rfl | exact is_sc rfl | exact rfl)) ?_
  refine s_nil (n_n (w_seq (w_seq (w_reg (s_q rfl rfl (q_mv (.inr rfl) (is_sc rfl)) ?_)))))
  refine s_nil (n_n (w_block ?_))
  refine w_loop (fun env A => ∃ i : Nat, i ≤ l.length ∧ (∀ x ∈ l.take i, isK 6 x = false) ∧ Binds env [(0, lst l), (2, .box 0 0), (4, i64 i)] ∧ A = (AH.start noHeap).push (.cells [.sc (.int .i64 0), .sc (.int .i64 0), .sc (.int .i64 0), .sc (.string ⟨⟨[]⟩⟩), .sc (.slice none 0 0)])) (fun env _ => l.length - ctr (env 4)) ?_ ?_
  · exact ⟨0, Nat.zero_le _, by simp, ⟨rfl, rfl, rfl, trivial⟩, rfl⟩
  · rintro env A ⟨i, hi, hp, hB, rfl⟩
    rw [hB.eq]; clear hB
    refine w_seq (w_seq (w_reg (s_q rfl rfl (q_mv (.inl rfl) (is_sc rfl)) ?_)))
    refine s_q rfl rfl (q_mv (.inl rfl) (by first | exact is_im rfl | exact is_gs rfl | exact is_lit rfl | exact is_ms rfl | exact is_sc rfl | exact rfl)) ?_
    refine s_q rfl rfl (q_len rfl rfl rfl) ?_
    refine s_q rfl rfl (q_lss rfl rfl rfl) ?_
    refine s_nil (n_n (w_if (is_scb rfl) (fun h11 => ?_) (fun h11 => ?_)))
    · have hlt : i < l.length := by have := of_decide_eq_true h11; omega
      refine w_skip (n_n (w_seq (w_block (w_seq (w_reg (s_q rfl rfl (q_mv (.inl rfl) (by first | exact is_im rfl | exact is_gs rfl | exact is_lit rfl | exact is_ms rfl | exact is_sc rfl | exact rfl)) ?_))))))
      refine s_q rfl rfl (q_mv (.inl rfl) (is_sc rfl)) ?_
      refine s_q rfl rfl (q_index rfl rfl rfl rfl (Int.natCast_nonneg _) (by omega)) ?_
      refine s_q rfl rfl (q_field rfl rfl (by exact rfl)) ?_
      refine s_q rfl rfl (q_loadPin rfl rfl (by exact (take_lst1 hlt (by decide)).trans rfl)) ?_
      refine s_q rfl rfl (q_eql rfl rfl rfl) ?_
      refine s_nil (n_n (w_if (is_scb rfl) (fun h19 => ?_) (fun h19 => ?_)))
      · refine w_seq (w_reg (s_q rfl rfl (q_mv (.inl rfl) (by first | exact is_im rfl | exact is_gs rfl | exact is_lit rfl | exact is_ms rfl | exact is_sc rfl | exact rfl)) ?_))
        refine s_q rfl rfl (q_mv (.inl rfl) (is_sc rfl)) ?_
        refine s_q rfl rfl (q_index rfl rfl rfl rfl (Int.natCast_nonneg _) (by omega)) ?_
        refine s_q rfl rfl (q_loadPin rfl rfl (by exact take_lst hlt)) ?_
        refine s_u rfl rfl (as_st rfl rfl (by first | exact (rfl : _ = D.agg [_, _, _, _, _]) | exact rfl) rfl (by exact rfl) (by exact rfl) (by exact Nat.le_of_ble_eq_true rfl) (by exact (rfl : _ = [_, _, _, _, _]))) ?_
        refine s_q rfl rfl (q_mv (.inr rfl) (is_sc rfl)) ?_
        refine s_nil (n_n (w_ret (b_r (n_r (n_r (b_r (n_r ?_)))))))
        -- end 0
        refine r_r (ra_cell (by exact (rfl : _ = some (D.agg [_, _, _, _, _]))) (ra_tmp (is_sc rfl) ra_nil)) (by exact (rfl : _ = D.tup [_, _])) (by exact rfl) sub_no ?_
        rw [show firstV l = (l[i], true) by simp only [firstV, find_at (p := isK 6) hlt hp h19]]; rfl
      · refine w_skip (b_n (n_n (w_reg (s_q rfl rfl (q_mv (.inl rfl) (is_sc rfl)) ?_))))
        refine s_q rfl rfl (q_add rfl rfl rfl) ?_
        refine s_q rfl rfl (q_mv (.inr rfl) (is_sc rfl)) ?_
        refine s_nil (n_n ?_)
        have hw : IntKind.i64.wrap ((i : Int) + 1) = ((i + 1 : Nat) : Int) := wrap_nat (by omega)
        refine ⟨⟨i + 1, hlt, take_more hlt hp h19, ⟨rfl, rfl, i64_eq hw, trivial⟩, rfl⟩, ?_⟩
        show l.length - (IntKind.i64.wrap ((i : Int) + 1)).toNat < l.length - (i : Int).toNat
        rw [hw]; omega
    · have hge : l.length ≤ i := by have := of_decide_eq_false h11; omega
      have h6 : l.find? (isK 6) = none := find_no (take_all (Q := fun x => isK 6 x = false) hge hp)
      refine w_exit (n_e (n_e (b_hit (n_n (w_seq (w_seq (w_reg (s_q rfl rfl (q_mv (.inr rfl) (is_sc rfl)) ?_))))))))
      refine s_nil (n_n (w_block ?_))
      refine w_loop (fun env A => ∃ i : Nat, i ≤ l.length ∧ (∀ x ∈ l.take i, isK 4 x = false) ∧ Binds env [(0, lst l), (2, .box 0 0), (5, i64 i)] ∧ A = (AH.start noHeap).push (.cells [.sc (.int .i64 0), .sc (.int .i64 0), .sc (.int .i64 0), .sc (.string ⟨⟨[]⟩⟩), .sc (.slice none 0 0)])) (fun env _ => l.length - ctr (env 5)) ?_ ?_
      · exact ⟨0, Nat.zero_le _, by simp, ⟨rfl, rfl, rfl, trivial⟩, rfl⟩
      · rintro env A ⟨i, hi, hp, hB, rfl⟩
        rw [hB.eq]; clear hB
        refine w_seq (w_seq (w_reg (s_q rfl rfl (q_mv (.inl rfl) (is_sc rfl)) ?_)))
        refine s_q rfl rfl (q_mv (.inl rfl) (by first | exact is_im rfl | exact is_gs rfl | exact is_lit rfl | exact is_ms rfl | exact is_sc rfl | exact rfl)) ?_
        refine s_q rfl rfl (q_len rfl rfl rfl) ?_
        refine s_q rfl rfl (q_lss rfl rfl rfl) ?_
        refine s_nil (n_n (w_if (is_scb rfl) (fun h27 => ?_) (fun h27 => ?_)))
        · have hlt : i < l.length := by have := of_decide_eq_true h27; omega
          refine w_skip (n_n (w_seq (w_block (w_seq (w_reg (s_q rfl rfl (q_mv (.inl rfl) (by first | exact is_im rfl | exact is_gs rfl | exact is_lit rfl | exact is_ms rfl | exact is_sc rfl | exact rfl)) ?_))))))
          refine s_q rfl rfl (q_mv (.inl rfl) (is_sc rfl)) ?_
          refine s_q rfl rfl (q_index rfl rfl rfl rfl (Int.natCast_nonneg _) (by omega)) ?_
          refine s_q rfl rfl (q_field rfl rfl (by exact rfl)) ?_
          refine s_q rfl rfl (q_loadPin rfl rfl (by exact (take_lst1 hlt (by decide)).trans rfl)) ?_
          refine s_q rfl rfl (q_eql rfl rfl rfl) ?_
          refine s_nil (n_n (w_if (is_scb rfl) (fun h35 => ?_) (fun h35 => ?_)))
          · refine w_seq (w_reg (s_q rfl rfl (q_mv (.inl rfl) (by first | exact is_im rfl | exact is_gs rfl | exact is_lit rfl | exact is_ms rfl | exact is_sc rfl | exact rfl)) ?_))
            refine s_q rfl rfl (q_mv (.inl rfl) (is_sc rfl)) ?_
            refine s_q rfl rfl (q_index rfl rfl rfl rfl (Int.natCast_nonneg _) (by omega)) ?_
            refine s_q rfl rfl (q_loadPin rfl rfl (by exact take_lst hlt)) ?_
            refine s_u rfl rfl (as_st rfl rfl (by first | exact (rfl : _ = D.agg [_, _, _, _, _]) | exact rfl) rfl (by exact rfl) (by exact rfl) (by exact Nat.le_of_ble_eq_true rfl) (by exact (rfl : _ = [_, _, _, _, _]))) ?_
            refine s_q rfl rfl (q_mv (.inr rfl) (is_sc rfl)) ?_
            refine s_nil (n_n (w_ret (b_r (n_r (n_r (b_r (n_r ?_)))))))
            -- end 1
            refine r_r (ra_cell (by exact (rfl : _ = some (D.agg [_, _, _, _, _]))) (ra_tmp (is_sc rfl) ra_nil)) (by exact (rfl : _ = D.tup [_, _])) (by exact rfl) sub_no ?_
            rw [show firstV l = (l[i], true) by simp only [firstV, h6, find_at (p := isK 4) hlt hp h35]]; rfl
          · refine w_skip (b_n (n_n (w_reg (s_q rfl rfl (q_mv (.inl rfl) (is_sc rfl)) ?_))))
            refine s_q rfl rfl (q_add rfl rfl rfl) ?_
            refine s_q rfl rfl (q_mv (.inr rfl) (is_sc rfl)) ?_
            refine s_nil (n_n ?_)
            have hw : IntKind.i64.wrap ((i : Int) + 1) = ((i + 1 : Nat) : Int) := wrap_nat (by omega)
            refine ⟨⟨i + 1, hlt, take_more hlt hp h35, ⟨rfl, rfl, i64_eq hw, trivial⟩, rfl⟩, ?_⟩
            show l.length - (IntKind.i64.wrap ((i : Int) + 1)).toNat < l.length - (i : Int).toNat
            rw [hw]; omega
        · have hge : l.length ≤ i := by have := of_decide_eq_false h27; omega
          have h4 : l.find? (isK 4) = none := find_no (take_all (Q := fun x => isK 4 x = false) hge hp)
          refine w_exit (n_e (n_e (b_hit (n_n (w_seq (w_reg (s_q rfl rfl (q_build rfl pt_nil (by exact (rfl : _ = some [_, _, _, _, _]))) ?_)))))))
          refine s_u rfl rfl (as_st rfl rfl (by first | exact (rfl : _ = D.agg [_, _, _, _, _]) | exact rfl) rfl (by exact rfl) (by exact rfl) (by exact Nat.le_of_ble_eq_true rfl) (by exact (rfl : _ = [_, _, _, _, _]))) ?_
          refine s_q rfl rfl (q_mv (.inr rfl) (is_sc rfl)) ?_
          refine s_nil (n_n (w_ret ?_))
          -- end 2
          refine r_r (ra_cell (by exact (rfl : _ = some (D.agg [_, _, _, _, _]))) (ra_tmp (is_sc rfl) ra_nil)) (by exact (rfl : _ = D.tup [_, _])) (by exact rfl) sub_no ?_
          rw [show firstV l = (noV, false) by simp only [firstV, h6, h4]]; rfl


-- pub-tallysheet/spec.numbers
theorem pf_numbers (l : List V) (hl : l.length < 1000000000) (an : V → V) (ha : ∀ v ∈ l, PF Tryz.prog G 169 [v.d] (an v).d) (hk : ∀ v ∈ l, ¬ (an v).kind = 5) : PF Tryz.prog G 206 [lst l] (if (firstV (l.map an)).2 then .tup [.im [] 0, (firstV (l.map an)).1.d, bl false] else .tup [lst (l.map an), noV.d, bl true]) := by
  refine PC.intro rfl Tryz.func206 rfl (Nat.le_of_ble_eq_true rfl) rfl ?_
  refine w_seq (w_reg (s_q rfl rfl (q_mv (.inr rfl) (by first | exact is_im rfl | exact is_gs rfl | exact is_lit rfl | exact is_ms rfl | exact is_sc rfl | exact rfl)) ?_))
  refine s_s rfl rfl (as_alloc0 (id := 0) rfl rfl (by exact (rfl : _ = [_, _, _, _, _]))) ?_
  refine s_q rfl rfl (q_mv (.inr rfl) (is_sc rfl)) ?_
  refine s_nil (n_n (w_seq (w_reg (s_s rfl rfl (as_nil (e := 26) (.inl rfl) rfl) ?_))))
  refine s_nil (n_n (w_seq (w_seq (w_reg (s_q rfl rfl (q_mv (.inr rfl) (is_sc rfl)) ?_)))))
  refine s_nil (n_n (w_block ?_))
  refine w_loop (fun env A => ∃ (i t : Nat) (live : Nat → Bool) (ln : Nat), i ≤ l.length ∧ Binds env [(0, lst l), (3, .box 0 0), (5, .gs t 26 (((l.take i).map an).flatMap V.c) ((l.take i).map an).length), (6, i64 i)] ∧ A = ⟨[.cells [.sc (.int .i64 0), .sc (.int .i64 0), .sc (.int .i64 0), .sc (.string ⟨⟨[]⟩⟩), .sc (.slice none 0 0)]], live, ln, noHeap⟩ ∧ live t = true) (fun env _ => l.length - ctr (env 6)) ?_ ?_
  · exact ⟨0, 0, _, _, Nat.zero_le _, ⟨rfl, rfl, rfl, rfl, trivial⟩, rfl, rfl⟩
  · rintro env A ⟨i, t, live, ln, hi, hB, rfl, hv⟩
    rw [hB.eq]; clear hB
    refine w_seq (w_seq (w_reg (s_q rfl rfl (q_mv (.inl rfl) (is_sc rfl)) ?_)))
    refine s_q rfl rfl (q_mv (.inl rfl) (by first | exact is_im rfl | exact is_gs rfl | exact is_lit rfl | exact is_ms rfl | exact is_sc rfl | exact rfl)) ?_
    refine s_q rfl rfl (q_len rfl rfl rfl) ?_
    refine s_q rfl rfl (q_lss rfl rfl rfl) ?_
    refine s_nil (n_n (w_if (is_scb rfl) (fun h12 => ?_) (fun h12 => ?_)))
    · have hlt : i < l.length := by have := of_decide_eq_true h12; omega
      refine w_skip (n_n (w_seq (w_block (w_reg (s_q rfl rfl (q_mv (.inl rfl) (by first | exact is_im rfl | exact is_gs rfl | exact is_lit rfl | exact is_ms rfl | exact is_sc rfl | exact rfl)) ?_)))))
      refine s_q rfl rfl (q_mv (.inl rfl) (by first | exact is_im rfl | exact is_gs rfl | exact is_lit rfl | exact is_ms rfl | exact is_sc rfl | exact rfl)) ?_
      refine s_q rfl rfl (q_mv (.inl rfl) (is_sc rfl)) ?_
      refine s_q rfl rfl (q_index rfl rfl rfl rfl (Int.natCast_nonneg _) (by omega)) ?_
      refine s_q rfl rfl (q_loadPin rfl rfl (by exact take_lst hlt)) ?_
      refine s_q rfl rfl (q_call rfl rfl rfl rfl (ha l[i] (List.getElem_mem hlt))) ?_
      refine s_q rfl rfl (q_bs rfl (pt_cons (by first | exact (rfl : _ = D.agg [_, _, _, _, _]) | exact rfl) pt_nil) (by decide) (by decide) (by exact (rfl : _ = some [_, _, _, _, _])) (by exact (rfl : _ = [_, _, _, _, _])) (by exact rfl) (by exact rfl)) ?_
      refine s_s rfl rfl (as_append rfl rfl hv rfl rfl (by decide) (by exact len_lst _) (by exact rfl) (by show _ * 64 ≤ _; simp only [List.length_map, List.length_take]; omega) (by show _ ≤ 9223372036854775807; simp only [List.length_map, List.length_take]; omega)) ?_
      refine s_q rfl rfl (q_mv (.inr rfl) (by first | exact is_im rfl | exact is_gs rfl | exact is_lit rfl | exact is_ms rfl | exact is_sc rfl | exact rfl)) ?_
      refine s_nil (b_n (n_n (w_reg (s_q rfl rfl (q_mv (.inl rfl) (is_sc rfl)) ?_))))
      refine s_q rfl rfl (q_add rfl rfl rfl) ?_
      refine s_q rfl rfl (q_mv (.inr rfl) (is_sc rfl)) ?_
      refine s_nil (n_n ?_)
      have hw : IntKind.i64.wrap ((i : Int) + 1) = ((i + 1 : Nat) : Int) := wrap_nat (by omega)
      refine ⟨⟨i + 1, ln, _, _, hlt, ⟨rfl, rfl, ?_, i64_eq hw, trivial⟩, rfl, ?_⟩, ?_⟩
      · rw [List.take_succ_eq_append_getElem hlt, List.map_append]; exact gs_cat _ [an l[i]]
      · exact live_app ⟨_, live, ln, noHeap⟩ t
      · show l.length - (IntKind.i64.wrap ((i : Int) + 1)).toNat < l.length - (i : Int).toNat
        rw [hw]; omega
    · have hge : l.length ≤ i := by have := of_decide_eq_false h12; omega
      have hall : (l.take i).map an = l.map an := by rw [List.take_of_length_le hge]
      rw [hall]
      refine w_exit (n_e (n_e (b_hit (n_n (w_seq (w_seq (w_reg (s_q rfl rfl (q_mv (.inl rfl) (by first | exact is_im rfl | exact is_gs rfl | exact is_lit rfl | exact is_ms rfl | exact is_sc rfl | exact rfl)) ?_))))))))
      refine s_q rfl rfl (q_call rfl rfl rfl rfl (pf_first (l.map an) (by simpa using hl) (fun v hv => by obtain ⟨u, hu, rfl⟩ := List.mem_map.1 hv; exact hk u hu))) ?_
      refine s_q rfl rfl (q_mv (.inl rfl) (by first | exact (rfl : _ = D.tup [_, _]) | exact rfl)) ?_
      refine s_q rfl rfl (q_extract rfl rfl rfl) ?_
      refine s_q rfl rfl (q_extract rfl rfl rfl) ?_
      refine s_s rfl rfl (as_alloc0 (id := 1) rfl rfl (by exact (rfl : _ = [_, _, _, _, _]))) ?_
      refine s_u rfl rfl (as_st rfl rfl (by first | exact (rfl : _ = D.agg [_, _, _, _, _]) | exact rfl) rfl (by exact rfl) (by exact rfl) (by exact Nat.le_of_ble_eq_true rfl) (by exact (rfl : _ = [_, _, _, _, _]))) ?_
      refine s_q rfl rfl (q_mv (.inr rfl) (is_sc rfl)) ?_
      refine s_nil (n_n (w_seq (w_reg (s_q rfl rfl (q_mv (.inl rfl) (is_sc rfl)) ?_))))
      refine s_nil (n_n (w_if (is_scb rfl) (fun h28 => ?_) (fun h28 => ?_)))
      · refine w_seq (w_draw [0, 0, 3, 7] [1, 0, 3, 0] rfl ?_)
        refine d_q1 rfl rfl (q_load rfl rfl (by exact (rfl : _ = some (D.agg [_, _, _, _, _])))) ?_
        refine d_q0 rfl rfl (q_mv (.inr rfl) (by first | exact is_im rfl | exact is_gs rfl | exact is_lit rfl | exact is_ms rfl | exact is_sc rfl | exact rfl)) ?_
        refine d_u3 rfl rfl (as_st rfl rfl (by first | exact (rfl : _ = D.agg [_, _, _, _, _]) | exact rfl) rfl (by exact rfl) (by exact rfl) (by exact Nat.le_of_ble_eq_true rfl) (by exact (rfl : _ = [_, _, _, _, _]))) ?_
        refine d_q0 rfl rfl (q_mv (.inr rfl) (is_sc rfl)) ?_
        refine d_nil (n_n (w_ret (n_r ?_)))
        -- end 0
        refine r_r (ra_tmp (by first | exact is_im rfl | exact is_gs rfl | exact is_lit rfl | exact is_ms rfl | exact is_sc rfl | exact rfl) (ra_cell (by exact (rfl : _ = some (D.agg [_, _, _, _, _]))) (ra_tmp (is_sc rfl) ra_nil))) (by exact (rfl : _ = D.tup [_, _, _])) (by exact rfl) sub_no ?_
        rw [if_pos h28]; rfl
      · refine w_skip (n_n (w_seq (w_reg (s_q rfl rfl (q_mv (.inl rfl) (by first | exact is_im rfl | exact is_gs rfl | exact is_lit rfl | exact is_ms rfl | exact is_sc rfl | exact rfl)) ?_))))
        refine s_q rfl rfl (q_build rfl pt_nil (by exact (rfl : _ = some [_, _, _, _, _]))) ?_
        refine s_q rfl rfl (q_mv (.inr rfl) (by first | exact is_im rfl | exact is_gs rfl | exact is_lit rfl | exact is_ms rfl | exact is_sc rfl | exact rfl)) ?_
        refine s_u rfl rfl (as_st rfl rfl (by first | exact (rfl : _ = D.agg [_, _, _, _, _]) | exact rfl) rfl (by exact rfl) (by exact rfl) (by exact Nat.le_of_ble_eq_true rfl) (by exact (rfl : _ = [_, _, _, _, _]))) ?_
        refine s_q rfl rfl (q_mv (.inr rfl) (is_sc rfl)) ?_
        refine s_nil (n_n (w_ret ?_))
        -- end 1
        refine r_r (ra_tmp (by first | exact is_im rfl | exact is_gs rfl | exact is_lit rfl | exact is_ms rfl | exact is_sc rfl | exact rfl) (ra_cell (by exact (rfl : _ = some (D.agg [_, _, _, _, _]))) (ra_tmp (is_sc rfl) ra_nil))) (by exact (rfl : _ = D.tup [_, _, _])) (by exact rfl) sub_no ?_
        rw [if_neg (by rw [h28]; simp)]; rfl


theorem pf_numbersB (l : List V) (hl : l.length < 1000000000) (an : V → V) (ha : ∀ v ∈ l, PF Tryz.prog G 169 [v.d] (an v).d) (hk : ∀ v ∈ l, ¬ (an v).kind = 5) (h : (firstV (l.map an)).2 = true) : PF Tryz.prog G 206 [lst l] (.tup [.im [] 0, (firstV (l.map an)).1.d, bl false]) := by
  have := pf_numbers (G := G) l hl an ha hk
  rw [if_pos h] at this; exact this
theorem pf_numbersG (l : List V) (hl : l.length < 1000000000) (an : V → V) (ha : ∀ v ∈ l, PF Tryz.prog G 169 [v.d] (an v).d) (hk : ∀ v ∈ l, ¬ (an v).kind = 5) (h : (firstV (l.map an)).2 = false) : PF Tryz.prog G 206 [lst l] (.tup [lst (l.map an), noV.d, bl true]) := by
  have := pf_numbers (G := G) l hl an ha hk
  rw [if_neg (by rw [h]; simp)] at this; exact this


-- pub-tallysheet/spec.wholes
theorem pf_wholesB (l : List V) (hl : l.length < 1000000000) (an : V → V) (ha : ∀ v ∈ l, PF Tryz.prog G 169 [v.d] (an v).d) (hk : ∀ v ∈ l, ¬ (an v).kind = 5) (h : (firstV (l.map an)).2 = true) : PF Tryz.prog G 213 [lst l] (.tup [.im [] 0, (firstV (l.map an)).1.d, bl false]) := by
  refine PC.intro rfl Tryz.func213 rfl (Nat.le_of_ble_eq_true rfl) rfl ?_
  refine w_seq (w_reg (s_q rfl rfl (q_mv (.inr rfl) (by first | exact is_im rfl | exact is_gs rfl | exact is_lit rfl | exact is_ms rfl | exact is_sc rfl | exact rfl)) ?_))
  refine s_s rfl rfl (as_alloc0 (id := 0) rfl rfl (by exact (rfl : _ = [_, _, _, _, _]))) ?_
  refine s_q rfl rfl (q_mv (.inr rfl) (is_sc rfl)) ?_
  refine s_nil (n_n (w_seq (w_reg (s_q rfl rfl (q_mv (.inl rfl) (by first | exact is_im rfl | exact is_gs rfl | exact is_lit rfl | exact is_ms rfl | exact is_sc rfl | exact rfl)) ?_))))
  refine s_q rfl rfl (q_call rfl rfl rfl rfl (pf_numbersB l hl an ha hk h)) ?_
  refine s_q rfl rfl (q_mv (.inl rfl) (by first | exact (rfl : _ = D.tup [_, _, _]) | exact rfl)) ?_
  refine s_q rfl rfl (q_extract rfl rfl rfl) ?_
  refine s_q rfl rfl (q_extract rfl rfl rfl) ?_
  refine s_q rfl rfl (q_extract rfl rfl rfl) ?_
  refine s_s rfl rfl (as_alloc0 (id := 1) rfl rfl (by exact (rfl : _ = [_, _, _, _, _]))) ?_
  refine s_q rfl rfl (q_mv (.inr rfl) (by first | exact is_im rfl | exact is_gs rfl | exact is_lit rfl | exact is_ms rfl | exact is_sc rfl | exact rfl)) ?_
  refine s_u rfl rfl (as_st rfl rfl (by first | exact (rfl : _ = D.agg [_, _, _, _, _]) | exact rfl) rfl (by exact rfl) (by exact rfl) (by exact Nat.le_of_ble_eq_true rfl) (by exact (rfl : _ = [_, _, _, _, _]))) ?_
  refine s_q rfl rfl (q_mv (.inr rfl) (is_sc rfl)) ?_
  refine s_nil (n_n (w_seq (w_seq (w_reg (s_q rfl rfl (q_mv (.inl rfl) (is_sc rfl)) ?_)))))
  refine s_q rfl rfl (q_not rfl rfl) ?_
  refine s_nil (n_n (w_ifT rfl (w_seq (w_draw [0, 0, 3, 7] [1, 0, 3, 0] rfl ?_))))
  refine d_q1 rfl rfl (q_load rfl rfl (by exact (rfl : _ = some (D.agg [_, _, _, _, _])))) ?_
  refine d_q0 rfl rfl (q_mv (.inr rfl) (by first | exact is_im rfl | exact is_gs rfl | exact is_lit rfl | exact is_ms rfl | exact is_sc rfl | exact rfl)) ?_
  refine d_u3 rfl rfl (as_st rfl rfl (by first | exact (rfl : _ = D.agg [_, _, _, _, _]) | exact rfl) rfl (by exact rfl) (by exact rfl) (by exact Nat.le_of_ble_eq_true rfl) (by exact (rfl : _ = [_, _, _, _, _]))) ?_
  refine d_q0 rfl rfl (q_mv (.inr rfl) (is_sc rfl)) ?_
  refine d_nil (n_n (w_ret (n_r ?_)))
  -- end 0
  refine r_r (ra_tmp (by first | exact is_im rfl | exact is_gs rfl | exact is_lit rfl | exact is_ms rfl | exact is_sc rfl | exact rfl) (ra_cell (by exact (rfl : _ = some (D.agg [_, _, _, _, _]))) (ra_tmp (is_sc rfl) ra_nil))) (by exact (rfl : _ = D.tup [_, _, _])) (by exact rfl) sub_no ?_
  rfl


-- pub-tallysheet/spec.wholes
theorem pf_wholesG (l : List V) (hl : l.length < 1000000000) (an : V → V) (ha : ∀ v ∈ l, PF Tryz.prog G 169 [v.d] (an v).d) (hk : ∀ v ∈ l, ¬ (an v).kind = 5) (h : (firstV (l.map an)).2 = false) : PF Tryz.prog G 213 [lst l] (if (l.map an).all (fun v => decide (v.den = 1)) then .tup [.im ((l.map an).map fun v => i64 v.num) (l.map an).length, noV.d, bl true] else .tup [.im [] 0, doubt.d, bl false]) := by
  refine PC.intro rfl Tryz.func213 rfl (Nat.le_of_ble_eq_true rfl) rfl ?_
  refine w_seq (w_reg (s_q rfl rfl (q_mv (.inr rfl) (by first | exact is_im rfl | exact is_gs rfl | exact is_lit rfl | exact is_ms rfl | exact is_sc rfl | exact rfl)) ?_))
  refine s_s rfl rfl (as_alloc0 (id := 0) rfl rfl (by exact (rfl : _ = [_, _, _, _, _]))) ?_
  refine s_q rfl rfl (q_mv (.inr rfl) (is_sc rfl)) ?_
  refine s_nil (n_n (w_seq (w_reg (s_q rfl rfl (q_mv (.inl rfl) (by first | exact is_im rfl | exact is_gs rfl | exact is_lit rfl | exact is_ms rfl | exact is_sc rfl | exact rfl)) ?_))))
  refine s_q rfl rfl (q_call rfl rfl rfl rfl (pf_numbersG l hl an ha hk h)) ?_
  refine s_q rfl rfl (q_mv (.inl rfl) (by first | exact (rfl : _ = D.tup [_, _, _]) | exact rfl)) ?_
  refine s_q rfl rfl (q_extract rfl rfl rfl) ?_
  refine s_q rfl rfl (q_extract rfl rfl rfl) ?_
  refine s_q rfl rfl (q_extract rfl rfl rfl) ?_
  refine s_s rfl rfl (as_alloc0 (id := 1) rfl rfl (by exact (rfl : _ = [_, _, _, _, _]))) ?_
  refine s_q rfl rfl (q_mv (.inr rfl) (by first | exact is_im rfl | exact is_gs rfl | exact is_lit rfl | exact is_ms rfl | exact is_sc rfl | exact rfl)) ?_
  refine s_u rfl rfl (as_st rfl rfl (by first | exact (rfl : _ = D.agg [_, _, _, _, _]) | exact rfl) rfl (by exact rfl) (by exact rfl) (by exact Nat.le_of_ble_eq_true rfl) (by exact (rfl : _ = [_, _, _, _, _]))) ?_
  refine s_q rfl rfl (q_mv (.inr rfl) (is_sc rfl)) ?_
  refine s_nil (n_n (w_seq (w_seq (w_reg (s_q rfl rfl (q_mv (.inl rfl) (is_sc rfl)) ?_)))))
  refine s_q rfl rfl (q_not rfl rfl) ?_
  refine s_nil (n_n (w_ifF rfl (w_skip (n_n (w_seq (w_reg (s_s rfl rfl (as_nil (e := 3) (.inl rfl) rfl) ?_)))))))
  refine s_nil (n_n (w_seq (w_seq (w_reg (s_q rfl rfl (q_mv (.inr rfl) (is_sc rfl)) ?_)))))
  refine s_nil (n_n (w_block ?_))
  refine w_loop (fun env A => ∃ (i t : Nat) (live : Nat → Bool) (ln : Nat), i ≤ l.length ∧ ((l.take i).map an).all (fun v => decide (v.den = 1)) = true ∧ Binds env [(3, .box 0 0), (5, lst (l.map an)), (6, .box 1 0), (8, .gs t 3 (((l.take i).map an).map fun v => i64 v.num) ((l.take i).map an).length), (9, i64 i)] ∧ A = ⟨[.cells [.sc (.int .i64 0), .sc (.int .i64 0), .sc (.int .i64 0), .sc (.string ⟨⟨[]⟩⟩), .sc (.slice none 0 0)], .cells (V.c noV)], live, ln, noHeap⟩ ∧ live t = true) (fun env _ => l.length - ctr (env 9)) ?_ ?_
  · exact ⟨0, 0, _, _, Nat.zero_le _, rfl, ⟨rfl, rfl, rfl, rfl, rfl, trivial⟩, rfl, rfl⟩
  · rintro env A ⟨i, t, live, ln, hi, hp, hB, rfl, hv⟩
    rw [hB.eq]; clear hB
    refine w_seq (w_seq (w_reg (s_q rfl rfl (q_mv (.inl rfl) (is_sc rfl)) ?_)))
    refine s_q rfl rfl (q_mv (.inl rfl) (by first | exact is_im rfl | exact is_gs rfl | exact is_lit rfl | exact is_ms rfl | exact is_sc rfl | exact rfl)) ?_
    refine s_q rfl rfl (q_len rfl rfl rfl) ?_
    refine s_q rfl rfl (q_lss rfl rfl rfl) ?_
    refine s_nil (n_n (w_if (is_scb rfl) (fun h22 => ?_) (fun h22 => ?_)))
    · have hlt : i < l.length := by have := of_decide_eq_true h22; simp only [List.length_map] at this; omega
      have hge : (l.map an)[i]'(by simpa using hlt : i < (l.map an).length) = an l[i] := by simp
      refine w_skip (n_n (w_seq (w_block (w_seq (w_seq (w_reg (s_q rfl rfl (q_mv (.inl rfl) (by first | exact is_im rfl | exact is_gs rfl | exact is_lit rfl | exact is_ms rfl | exact is_sc rfl | exact rfl)) ?_)))))))
      refine s_q rfl rfl (q_mv (.inl rfl) (is_sc rfl)) ?_
      refine s_q rfl rfl (q_index rfl rfl rfl rfl (Int.natCast_nonneg _) (by simp only [List.length_map]; omega)) ?_
      refine s_q rfl rfl (q_field rfl rfl (by exact rfl)) ?_
      refine s_q rfl rfl (q_loadPin rfl rfl (by exact (take_lst1 (by simpa using hlt : i < (l.map an).length) (by decide)).trans (by rw [hge]; rfl))) ?_
      refine s_q rfl rfl (q_neq rfl rfl rfl) ?_
      refine s_nil (n_n (w_if (is_scb rfl) (fun h30 => ?_) (fun h30 => ?_)))
      · have hd : ¬ (an l[i]).den = 1 := of_decide_eq_true h30
        refine w_seq (w_reg (s_q rfl rfl (q_call rfl rfl rfl rfl pf_doubt) ?_))
        refine s_q rfl rfl (q_mv (.inr rfl) (by first | exact is_im rfl | exact is_gs rfl | exact is_lit rfl | exact is_ms rfl | exact is_sc rfl | exact rfl)) ?_
        refine s_u rfl rfl (as_st rfl rfl (by first | exact (rfl : _ = D.agg [_, _, _, _, _]) | exact rfl) rfl (by exact rfl) (by exact rfl) (by exact Nat.le_of_ble_eq_true rfl) (by exact (rfl : _ = [_, _, _, _, _]))) ?_
        refine s_q rfl rfl (q_mv (.inr rfl) (is_sc rfl)) ?_
        refine s_nil (n_n (w_ret (n_r (b_r (n_r (n_r (b_r (n_r ?_))))))))
        -- end 0
        refine r_r (ra_tmp (by first | exact is_im rfl | exact is_gs rfl | exact is_lit rfl | exact is_ms rfl | exact is_sc rfl | exact rfl) (ra_cell (by exact (rfl : _ = some (D.agg [_, _, _, _, _]))) (ra_tmp (is_sc rfl) ra_nil))) (by exact (rfl : _ = D.tup [_, _, _])) (by exact rfl) sub_no ?_
        rw [if_neg]; rfl
        intro hx
        have := List.all_eq_true.1 hx (an l[i]) (List.mem_map.2 ⟨_, List.getElem_mem hlt, rfl⟩)
        exact hd (of_decide_eq_true this)
      · have hd : (an l[i]).den = 1 := by have := of_decide_eq_false h30; omega
        refine w_skip (n_n (w_reg (s_q rfl rfl (q_mv (.inl rfl) (by first | exact is_im rfl | exact is_gs rfl | exact is_lit rfl | exact is_ms rfl | exact is_sc rfl | exact rfl)) ?_)))
        refine s_q rfl rfl (q_mv (.inl rfl) (by first | exact is_im rfl | exact is_gs rfl | exact is_lit rfl | exact is_ms rfl | exact is_sc rfl | exact rfl)) ?_
        refine s_q rfl rfl (q_mv (.inl rfl) (is_sc rfl)) ?_
        refine s_q rfl rfl (q_index rfl rfl rfl rfl (Int.natCast_nonneg _) (by simp only [List.length_map]; omega)) ?_
        refine s_q rfl rfl (q_field rfl rfl (by exact rfl)) ?_
        refine s_q rfl rfl (q_loadPin rfl rfl (by exact (take_lst1 (by simpa using hlt : i < (l.map an).length) (by decide)).trans (by rw [hge]; rfl))) ?_
        refine s_q rfl rfl (q_bs rfl (pt_cons (is_sc rfl) pt_nil) (by decide) (by decide) (by exact (rfl : _ = some [_])) (by exact (rfl : _ = [_])) (by exact rfl) (by exact rfl)) ?_
        refine s_s rfl rfl (as_append rfl rfl hv rfl rfl (by decide) (by simp [List.length_map]) (by exact rfl) (by show _ * 8 ≤ _; simp only [List.length_map, List.length_take]; omega) (by show _ ≤ 9223372036854775807; simp only [List.length_map, List.length_take]; omega)) ?_
        refine s_q rfl rfl (q_mv (.inr rfl) (by first | exact is_im rfl | exact is_gs rfl | exact is_lit rfl | exact is_ms rfl | exact is_sc rfl | exact rfl)) ?_
        refine s_nil (b_n (n_n (w_reg (s_q rfl rfl (q_mv (.inl rfl) (is_sc rfl)) ?_))))
        refine s_q rfl rfl (q_add rfl rfl rfl) ?_
        refine s_q rfl rfl (q_mv (.inr rfl) (is_sc rfl)) ?_
        refine s_nil (n_n ?_)
        have hw : IntKind.i64.wrap ((i : Int) + 1) = ((i + 1 : Nat) : Int) := wrap_nat (by omega)
        refine ⟨⟨i + 1, ln, _, _, hlt, ?_, ⟨rfl, rfl, rfl, ?_, i64_eq hw, trivial⟩, rfl, ?_⟩, ?_⟩
        · rw [List.take_succ_eq_append_getElem hlt, List.map_append, List.all_append, hp]; simp [hd]
        · rw [List.take_succ_eq_append_getElem hlt, List.map_append, List.map_append, List.length_append]; rfl
        · exact live_app ⟨_, live, ln, noHeap⟩ t
        · show l.length - (IntKind.i64.wrap ((i : Int) + 1)).toNat < l.length - (i : Int).toNat
          rw [hw]; omega
    · have hge : l.length ≤ i := by have := of_decide_eq_false h22; simp only [List.length_map] at this; omega
      have hall : (l.take i).map an = l.map an := by rw [List.take_of_length_le hge]
      rw [hall] at hp
      refine w_exit (n_e (n_e (b_hit (n_n (w_seq (w_reg (s_q rfl rfl (q_mv (.inl rfl) (by first | exact is_im rfl | exact is_gs rfl | exact is_lit rfl | exact is_ms rfl | exact is_sc rfl | exact rfl)) ?_)))))))
      refine s_q rfl rfl (q_build rfl pt_nil (by exact (rfl : _ = some [_, _, _, _, _]))) ?_
      refine s_q rfl rfl (q_mv (.inr rfl) (by first | exact is_im rfl | exact is_gs rfl | exact is_lit rfl | exact is_ms rfl | exact is_sc rfl | exact rfl)) ?_
      refine s_u rfl rfl (as_st rfl rfl (by first | exact (rfl : _ = D.agg [_, _, _, _, _]) | exact rfl) rfl (by exact rfl) (by exact rfl) (by exact Nat.le_of_ble_eq_true rfl) (by exact (rfl : _ = [_, _, _, _, _]))) ?_
      refine s_q rfl rfl (q_mv (.inr rfl) (is_sc rfl)) ?_
      refine s_nil (n_n (w_ret ?_))
      -- end 1
      refine r_r (ra_tmp (by first | exact is_im rfl | exact is_gs rfl | exact is_lit rfl | exact is_ms rfl | exact is_sc rfl | exact rfl) (ra_cell (by exact (rfl : _ = some (D.agg [_, _, _, _, _]))) (ra_tmp (is_sc rfl) ra_nil))) (by exact (rfl : _ = D.tup [_, _, _])) (by exact rfl) sub_no ?_
      rw [if_pos hp, hall]; rfl

end Go.Proofs.YtjobmjfdlkjaoaaGreatDoor.Zz
