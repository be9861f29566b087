/- Walks of the functions, printed by program: each theorem says what one function answers. -/
import Derived.Test.YtjobmjfdlkjaoaaGreatDoorZN1
import Derived.Test.YtjobmjfdlkjaoaaGreatDoorZInt
namespace Go.Proofs.YtjobmjfdlkjaoaaGreatDoor.Zz
open Go.Abs
set_option maxRecDepth 100000
set_option linter.unusedVariables false
set_option linter.unusedSimpArgs false
set_option maxHeartbeats 4000000
variable {G : Nat → D}

-- pub-tallysheet/spec.strict
theorem pf_strict (l : List V) (hl : l.length < 1000000000) (hk : ∀ v ∈ l, v.kind = 1) : PF Tryz.prog G 219 [lst l] (bl true) := by
  refine PC.intro rfl Tryz.func219 rfl (Nat.le_of_ble_eq_true rfl) rfl ?_
  refine w_seq (w_reg (s_q rfl rfl (q_mv (.inr rfl) (is_sc rfl)) ?_))
  refine s_nil (n_n (w_seq (w_seq (w_reg (s_q rfl rfl (q_mv (.inr rfl) (is_sc rfl)) ?_)))))
  refine s_nil (n_n (w_block ?_))
  refine w_loop (fun env A => ∃ i : Nat, i ≤ l.length ∧ Binds env [(0, lst l), (3, i64 i)] ∧ A = AH.start noHeap) (fun env _ => l.length - ctr (env 3)) ?_ ?_
  · exact ⟨0, Nat.zero_le _, ⟨rfl, rfl, trivial⟩, rfl⟩
  · rintro env A ⟨i, hi, hB, rfl⟩
    rw [hB.eq]; clear hB
    refine w_seq (w_seq (w_reg (s_q rfl rfl (q_mv (.inl rfl) (is_sc rfl)) ?_)))
    refine s_q rfl rfl (q_mv (.inl rfl) (by first | exact is_im rfl | exact is_gs rfl | exact is_lit rfl | exact is_ms rfl | exact is_sc rfl | exact rfl)) ?_
    refine s_q rfl rfl (q_len rfl rfl rfl) ?_
    refine s_q rfl rfl (q_lss rfl rfl rfl) ?_
    refine s_nil (n_n (w_if (is_scb rfl) (fun h7 => ?_) (fun h7 => ?_)))
    · have hlt : i < l.length := by have := of_decide_eq_true h7; omega
      refine w_skip (n_n (w_seq (w_block (w_seq (w_reg (s_q rfl rfl (q_mv (.inl rfl) (by first | exact is_im rfl | exact is_gs rfl | exact is_lit rfl | exact is_ms rfl | exact is_sc rfl | exact rfl)) ?_))))))
      refine s_q rfl rfl (q_mv (.inl rfl) (is_sc rfl)) ?_
      refine s_q rfl rfl (q_index rfl rfl rfl rfl (Int.natCast_nonneg _) (by omega)) ?_
      refine s_q rfl rfl (q_field rfl rfl (by exact rfl)) ?_
      refine s_q rfl rfl (q_loadPin rfl rfl (by exact (take_lst1 hlt (by decide)).trans rfl)) ?_
      refine s_q rfl rfl (q_neq rfl rfl rfl) ?_
      refine s_nil (n_n (w_if (is_scb rfl) (fun h15 => ?_) (fun h15 => ?_)))
      · exact absurd (hk _ (List.getElem_mem hlt)) (of_decide_eq_true h15)
      · refine w_skip (b_n (n_n (w_reg (s_q rfl rfl (q_mv (.inl rfl) (is_sc rfl)) ?_))))
        refine s_q rfl rfl (q_add rfl rfl rfl) ?_
        refine s_q rfl rfl (q_mv (.inr rfl) (is_sc rfl)) ?_
        refine s_nil (n_n ?_)
        have hw : IntKind.i64.wrap ((i : Int) + 1) = ((i + 1 : Nat) : Int) := wrap_nat (by omega)
        refine ⟨⟨i + 1, hlt, ⟨rfl, i64_eq hw, trivial⟩, rfl⟩, ?_⟩
        show l.length - (IntKind.i64.wrap ((i : Int) + 1)).toNat < l.length - (i : Int).toNat
        rw [hw]; omega
    · have hge : l.length ≤ i := by have := of_decide_eq_false h7; omega
      refine w_exit (n_e (n_e (b_hit (n_n (w_seq (w_reg (s_q rfl rfl (q_mv (.inr rfl) (is_sc rfl)) ?_)))))))
      refine s_nil (n_n (w_ret ?_))
      -- end 0
      refine r_r (ra_tmp (is_sc rfl) ra_nil) (by exact (is_sc rfl)) (by exact rfl) sub_no ?_
      rfl


-- pub-tallysheet/spec.fitsNumbers$2
theorem pf_bitN (n : Int) (hn : ¬ (99999999999 < n ∨ n < -99999999999)) : PF Tryz.prog G 166 [(num n 1).d] (bl true) := by
  refine PC.intro rfl Tryz.func166 rfl (Nat.le_of_ble_eq_true rfl) rfl ?_
  refine w_seq (w_reg (s_s rfl rfl (as_box0 (id := 0) rfl (by first | exact (rfl : _ = D.agg [_, _, _, _, _]) | exact rfl) (by exact rfl) rfl (by exact (rfl : _ = [_, _, _, _, _]))) ?_))
  refine s_q rfl rfl (q_mv (.inr rfl) (is_sc rfl)) ?_
  refine s_nil (n_n (w_seq (w_reg (s_q rfl rfl (q_field rfl rfl (by exact rfl)) ?_))))
  refine s_q rfl rfl (q_load rfl rfl (by exact (rfl : _ = some (D.sc _)))) ?_
  refine s_q rfl rfl (q_neq rfl rfl rfl) ?_
  refine s_q rfl rfl (q_mv (.inl rfl) (is_sc rfl)) ?_
  refine s_q rfl rfl (q_load rfl rfl (by exact (rfl : _ = some (D.agg [_, _, _, _, _])))) ?_
  refine s_q rfl rfl (q_call rfl rfl rfl rfl (pf_betweenN _ _ _ _)) ?_
  refine s_q rfl rfl (q_pickT rfl rfl (is_sc rfl)) ?_
  refine s_q rfl rfl (q_mv (.inr rfl) (is_sc rfl)) ?_
  refine s_nil (n_n (w_ret ?_))
  -- end 0
  refine r_r (ra_tmp (is_sc rfl) ra_nil) (by exact (is_sc rfl)) (by exact rfl) sub_no ?_
  show bl (decide ((1 : Int) = 1) && (decide (-99999999999 ≤ n) && decide (n ≤ 99999999999))) = _
  rw [decide_eq_true (show -99999999999 ≤ n by omega), decide_eq_true (show n ≤ 99999999999 by omega)]; rfl


-- pub-tallysheet/spec.fitsNumbers$2
theorem pf_bitQ  : PF Tryz.prog G 166 [doubt.d] (bl false) := by
  refine PC.intro rfl Tryz.func166 rfl (Nat.le_of_ble_eq_true rfl) rfl ?_
  refine w_seq (w_reg (s_s rfl rfl (as_box0 (id := 0) rfl (by first | exact (rfl : _ = D.agg [_, _, _, _, _]) | exact rfl) (by exact rfl) rfl (by exact (rfl : _ = [_, _, _, _, _]))) ?_))
  refine s_q rfl rfl (q_mv (.inr rfl) (is_sc rfl)) ?_
  refine s_nil (n_n (w_seq (w_reg (s_q rfl rfl (q_field rfl rfl (by exact rfl)) ?_))))
  refine s_q rfl rfl (q_load rfl rfl (by exact (rfl : _ = some (D.sc _)))) ?_
  refine s_q rfl rfl (q_neq rfl rfl rfl) ?_
  refine s_q rfl rfl (q_mv (.inl rfl) (is_sc rfl)) ?_
  refine s_q rfl rfl (q_load rfl rfl (by exact (rfl : _ = some (D.agg [_, _, _, _, _])))) ?_
  refine s_q rfl rfl (q_call rfl rfl rfl rfl (pf_betweenQ _ _)) ?_
  refine s_q rfl rfl (q_pickT rfl rfl (is_sc rfl)) ?_
  refine s_q rfl rfl (q_mv (.inr rfl) (is_sc rfl)) ?_
  refine s_nil (n_n (w_ret ?_))
  -- end 0
  refine r_r (ra_tmp (is_sc rfl) ra_nil) (by exact (is_sc rfl)) (by exact rfl) sub_no ?_
  rfl


theorem pf_betweenT (n a b : Int) (h1 : a ≤ n) (h2 : n ≤ b) : PF Tryz.prog G 164 [(num n 1).d, i64 a, i64 b] (bl true) := by
  have := pf_betweenN (G := G) n 1 a b
  rw [decide_eq_true h1, decide_eq_true h2] at this; exact this
theorem pf_betweenF (n a b : Int) (h : ¬ (a ≤ n ∧ n ≤ b)) : PF Tryz.prog G 164 [(num n 1).d, i64 a, i64 b] (bl false) := by
  have := pf_betweenN (G := G) n 1 a b
  rw [show (decide ((1 : Int) = 1) && (decide (a ≤ n) && decide (n ≤ b))) = false by rw [← Bool.decide_and, decide_eq_false h]; rfl] at this; exact this


-- pub-tallysheet/spec.Stat
theorem no_Stat_BITLSHIFT (a : D) : PF Tryz.prog G 48 [st [66, 73, 84, 76, 83, 72, 73, 70, 84], a] (.tup [noV.d, bl false]) := by
  refine PC.intro rfl Tryz.func48 rfl (Nat.le_of_ble_eq_true rfl) rfl ?_
  refine w_seq (w_reg (s_s rfl rfl (as_alloc0 (id := 0) rfl rfl (by exact (rfl : _ = [_, _, _, _, _]))) ?_))
  refine s_q rfl rfl (q_mv (.inr rfl) (is_sc rfl)) ?_
  refine s_nil (n_n (w_seq (w_seq (w_reg (s_q rfl rfl (q_mv (.inl rfl) (is_sc rfl)) ?_)))))
  refine s_nil (n_n (w_block (w_seq (w_reg (s_q rfl rfl (q_eqs rfl rfl rfl) ?_)))))
  refine s_q rfl rfl (q_mv (.inr rfl) (is_sc rfl)) ?_
  refine s_nil (n_n (w_ifF rfl (w_seq (w_reg (s_q rfl rfl (q_eqs rfl rfl rfl) ?_)))))
  refine s_q rfl rfl (q_mv (.inr rfl) (is_sc rfl)) ?_
  refine s_nil (n_n (w_ifF rfl (w_seq (w_reg (s_q rfl rfl (q_eqs rfl rfl rfl) ?_)))))
  refine s_q rfl rfl (q_mv (.inr rfl) (is_sc rfl)) ?_
  refine s_nil (n_n (w_ifF rfl (w_seq (w_reg (s_q rfl rfl (q_eqs rfl rfl rfl) ?_)))))
  refine s_q rfl rfl (q_mv (.inr rfl) (is_sc rfl)) ?_
  refine s_nil (n_n (w_ifF rfl (w_seq (w_reg (s_q rfl rfl (q_eqs rfl rfl rfl) ?_)))))
  refine s_q rfl rfl (q_mv (.inr rfl) (is_sc rfl)) ?_
  refine s_nil (n_n (w_ifF rfl (w_seq (w_reg (s_q rfl rfl (q_eqs rfl rfl rfl) ?_)))))
  refine s_q rfl rfl (q_mv (.inr rfl) (is_sc rfl)) ?_
  refine s_nil (n_n (w_ifF rfl (w_seq (w_reg (s_q rfl rfl (q_eqs rfl rfl rfl) ?_)))))
  refine s_q rfl rfl (q_mv (.inr rfl) (is_sc rfl)) ?_
  refine s_nil (n_n (w_ifF rfl (w_seq (w_seq (w_reg (s_q rfl rfl (q_eqs rfl rfl rfl) ?_))))))
  refine s_q rfl rfl (q_mv (.inr rfl) (is_sc rfl)) ?_
  refine s_nil (n_n (w_ifF rfl (w_reg (s_q rfl rfl (q_eqs rfl rfl rfl) ?_))))
  refine s_q rfl rfl (q_mv (.inr rfl) (is_sc rfl)) ?_
  refine s_nil (n_n (w_ifF rfl (w_seq (w_reg (s_q rfl rfl (q_eqs rfl rfl rfl) ?_)))))
  refine s_q rfl rfl (q_mv (.inr rfl) (is_sc rfl)) ?_
  refine s_nil (n_n (w_ifF rfl (w_seq (w_reg (s_q rfl rfl (q_eqs rfl rfl rfl) ?_)))))
  refine s_q rfl rfl (q_mv (.inr rfl) (is_sc rfl)) ?_
  refine s_nil (n_n (w_ifF rfl (w_seq (w_seq (w_reg (s_q rfl rfl (q_eqs rfl rfl rfl) ?_))))))
  refine s_q rfl rfl (q_mv (.inr rfl) (is_sc rfl)) ?_
  refine s_nil (n_n (w_ifF rfl (w_reg (s_q rfl rfl (q_eqs rfl rfl rfl) ?_))))
  refine s_q rfl rfl (q_mv (.inr rfl) (is_sc rfl)) ?_
  refine s_nil (n_n (w_ifF rfl (w_seq (w_reg (s_q rfl rfl (q_eqs rfl rfl rfl) ?_)))))
  refine s_q rfl rfl (q_mv (.inr rfl) (is_sc rfl)) ?_
  refine s_nil (n_n (w_ifF rfl (w_seq (w_reg (s_q rfl rfl (q_eqs rfl rfl rfl) ?_)))))
  refine s_q rfl rfl (q_mv (.inr rfl) (is_sc rfl)) ?_
  refine s_nil (n_n (w_ifF rfl (w_seq (w_reg (s_q rfl rfl (q_eqs rfl rfl rfl) ?_)))))
  refine s_q rfl rfl (q_mv (.inr rfl) (is_sc rfl)) ?_
  refine s_nil (n_n (w_ifF rfl (w_seq (w_reg (s_q rfl rfl (q_eqs rfl rfl rfl) ?_)))))
  refine s_q rfl rfl (q_mv (.inr rfl) (is_sc rfl)) ?_
  refine s_nil (n_n (w_ifF rfl (w_seq (w_reg (s_q rfl rfl (q_eqs rfl rfl rfl) ?_)))))
  refine s_q rfl rfl (q_mv (.inr rfl) (is_sc rfl)) ?_
  refine s_nil (n_n (w_ifF rfl (w_seq (w_reg (s_q rfl rfl (q_eqs rfl rfl rfl) ?_)))))
  refine s_q rfl rfl (q_mv (.inr rfl) (is_sc rfl)) ?_
  refine s_nil (n_n (w_ifF rfl (w_seq (w_reg (s_q rfl rfl (q_eqs rfl rfl rfl) ?_)))))
  refine s_q rfl rfl (q_mv (.inr rfl) (is_sc rfl)) ?_
  refine s_nil (n_n (w_ifF rfl (w_seq (w_reg (s_q rfl rfl (q_eqs rfl rfl rfl) ?_)))))
  refine s_q rfl rfl (q_mv (.inr rfl) (is_sc rfl)) ?_
  refine s_nil (n_n (w_ifF rfl (w_skip (b_n (n_n (w_seq (w_reg (s_q rfl rfl (q_build rfl pt_nil (by exact (rfl : _ = some [_, _, _, _, _]))) ?_))))))))
  refine s_u rfl rfl (as_st rfl rfl (by first | exact (rfl : _ = D.agg [_, _, _, _, _]) | exact rfl) rfl (by exact rfl) (by exact rfl) (by exact Nat.le_of_ble_eq_true rfl) (by exact (rfl : _ = [_, _, _, _, _]))) ?_
  refine s_q rfl rfl (q_mv (.inr rfl) (is_sc rfl)) ?_
  refine s_nil (n_n (w_ret ?_))
  -- end 0
  refine r_r (ra_cell (by exact (rfl : _ = some (D.agg [_, _, _, _, _]))) (ra_tmp (is_sc rfl) ra_nil)) (by exact (rfl : _ = D.tup [_, _])) (by exact rfl) sub_no ?_
  rfl


-- pub-tallysheet/spec.Criteria
theorem no_Criteria_BITLSHIFT (a : D) : PF Tryz.prog G 49 [st [66, 73, 84, 76, 83, 72, 73, 70, 84], a] (.tup [noV.d, bl false]) := by
  refine PC.intro rfl Tryz.func49 rfl (Nat.le_of_ble_eq_true rfl) rfl ?_
  refine w_seq (w_reg (s_s rfl rfl (as_alloc0 (id := 0) rfl rfl (by exact (rfl : _ = [_, _, _, _, _]))) ?_))
  refine s_q rfl rfl (q_mv (.inr rfl) (is_sc rfl)) ?_
  refine s_nil (n_n (w_seq (w_seq (w_reg (s_q rfl rfl (q_mv (.inl rfl) (is_sc rfl)) ?_)))))
  refine s_nil (n_n (w_block (w_seq (w_reg (s_q rfl rfl (q_eqs rfl rfl rfl) ?_)))))
  refine s_q rfl rfl (q_mv (.inr rfl) (is_sc rfl)) ?_
  refine s_nil (n_n (w_ifF rfl (w_seq (w_reg (s_q rfl rfl (q_eqs rfl rfl rfl) ?_)))))
  refine s_q rfl rfl (q_mv (.inr rfl) (is_sc rfl)) ?_
  refine s_nil (n_n (w_ifF rfl (w_seq (w_seq (w_reg (s_q rfl rfl (q_eqs rfl rfl rfl) ?_))))))
  refine s_q rfl rfl (q_mv (.inr rfl) (is_sc rfl)) ?_
  refine s_nil (n_n (w_ifF rfl (w_reg (s_q rfl rfl (q_eqs rfl rfl rfl) ?_))))
  refine s_q rfl rfl (q_mv (.inr rfl) (is_sc rfl)) ?_
  refine s_nil (n_n (w_ifF rfl (w_seq (w_seq (w_reg (s_q rfl rfl (q_eqs rfl rfl rfl) ?_))))))
  refine s_q rfl rfl (q_mv (.inr rfl) (is_sc rfl)) ?_
  refine s_nil (n_n (w_ifF rfl (w_seq (w_reg (s_q rfl rfl (q_eqs rfl rfl rfl) ?_)))))
  refine s_q rfl rfl (q_mv (.inr rfl) (is_sc rfl)) ?_
  refine s_nil (n_n (w_ifF rfl (w_seq (w_reg (s_q rfl rfl (q_eqs rfl rfl rfl) ?_)))))
  refine s_q rfl rfl (q_mv (.inr rfl) (is_sc rfl)) ?_
  refine s_nil (n_n (w_ifF rfl (w_reg (s_q rfl rfl (q_eqs rfl rfl rfl) ?_))))
  refine s_q rfl rfl (q_mv (.inr rfl) (is_sc rfl)) ?_
  refine s_nil (n_n (w_ifF rfl (w_skip (b_n (n_n (w_seq (w_reg (s_q rfl rfl (q_build rfl pt_nil (by exact (rfl : _ = some [_, _, _, _, _]))) ?_))))))))
  refine s_u rfl rfl (as_st rfl rfl (by first | exact (rfl : _ = D.agg [_, _, _, _, _]) | exact rfl) rfl (by exact rfl) (by exact rfl) (by exact Nat.le_of_ble_eq_true rfl) (by exact (rfl : _ = [_, _, _, _, _]))) ?_
  refine s_q rfl rfl (q_mv (.inr rfl) (is_sc rfl)) ?_
  refine s_nil (n_n (w_ret ?_))
  -- end 0
  refine r_r (ra_cell (by exact (rfl : _ = some (D.agg [_, _, _, _, _]))) (ra_tmp (is_sc rfl) ra_nil)) (by exact (rfl : _ = D.tup [_, _])) (by exact rfl) sub_no ?_
  rfl


-- pub-tallysheet/spec.Lookup
theorem no_Lookup_BITLSHIFT (a : D) : PF Tryz.prog G 50 [st [66, 73, 84, 76, 83, 72, 73, 70, 84], a] (.tup [noV.d, bl false]) := by
  refine PC.intro rfl Tryz.func50 rfl (Nat.le_of_ble_eq_true rfl) rfl ?_
  refine w_seq (w_reg (s_s rfl rfl (as_alloc0 (id := 0) rfl rfl (by exact (rfl : _ = [_, _, _, _, _]))) ?_))
  refine s_q rfl rfl (q_mv (.inr rfl) (is_sc rfl)) ?_
  refine s_nil (n_n (w_seq (w_seq (w_reg (s_q rfl rfl (q_mv (.inl rfl) (is_sc rfl)) ?_)))))
  refine s_nil (n_n (w_block (w_seq (w_reg (s_q rfl rfl (q_eqs rfl rfl rfl) ?_)))))
  refine s_q rfl rfl (q_mv (.inr rfl) (is_sc rfl)) ?_
  refine s_nil (n_n (w_ifF rfl (w_seq (w_reg (s_q rfl rfl (q_eqs rfl rfl rfl) ?_)))))
  refine s_q rfl rfl (q_mv (.inr rfl) (is_sc rfl)) ?_
  refine s_nil (n_n (w_ifF rfl (w_seq (w_reg (s_q rfl rfl (q_eqs rfl rfl rfl) ?_)))))
  refine s_q rfl rfl (q_mv (.inr rfl) (is_sc rfl)) ?_
  refine s_nil (n_n (w_ifF rfl (w_seq (w_reg (s_q rfl rfl (q_eqs rfl rfl rfl) ?_)))))
  refine s_q rfl rfl (q_mv (.inr rfl) (is_sc rfl)) ?_
  refine s_nil (n_n (w_ifF rfl (w_seq (w_reg (s_q rfl rfl (q_eqs rfl rfl rfl) ?_)))))
  refine s_q rfl rfl (q_mv (.inr rfl) (is_sc rfl)) ?_
  refine s_nil (n_n (w_ifF rfl (w_seq (w_reg (s_q rfl rfl (q_eqs rfl rfl rfl) ?_)))))
  refine s_q rfl rfl (q_mv (.inr rfl) (is_sc rfl)) ?_
  refine s_nil (n_n (w_ifF rfl (w_seq (w_reg (s_q rfl rfl (q_eqs rfl rfl rfl) ?_)))))
  refine s_q rfl rfl (q_mv (.inr rfl) (is_sc rfl)) ?_
  refine s_nil (n_n (w_ifF rfl (w_seq (w_reg (s_q rfl rfl (q_eqs rfl rfl rfl) ?_)))))
  refine s_q rfl rfl (q_mv (.inr rfl) (is_sc rfl)) ?_
  refine s_nil (n_n (w_ifF rfl (w_seq (w_reg (s_q rfl rfl (q_eqs rfl rfl rfl) ?_)))))
  refine s_q rfl rfl (q_mv (.inr rfl) (is_sc rfl)) ?_
  refine s_nil (n_n (w_ifF rfl (w_seq (w_seq (w_reg (s_q rfl rfl (q_eqs rfl rfl rfl) ?_))))))
  refine s_q rfl rfl (q_mv (.inr rfl) (is_sc rfl)) ?_
  refine s_nil (n_n (w_ifF rfl (w_reg (s_q rfl rfl (q_eqs rfl rfl rfl) ?_))))
  refine s_q rfl rfl (q_mv (.inr rfl) (is_sc rfl)) ?_
  refine s_nil (n_n (w_ifF rfl (w_skip (b_n (n_n (w_seq (w_reg (s_q rfl rfl (q_build rfl pt_nil (by exact (rfl : _ = some [_, _, _, _, _]))) ?_))))))))
  refine s_u rfl rfl (as_st rfl rfl (by first | exact (rfl : _ = D.agg [_, _, _, _, _]) | exact rfl) rfl (by exact rfl) (by exact rfl) (by exact Nat.le_of_ble_eq_true rfl) (by exact (rfl : _ = [_, _, _, _, _]))) ?_
  refine s_q rfl rfl (q_mv (.inr rfl) (is_sc rfl)) ?_
  refine s_nil (n_n (w_ret ?_))
  -- end 0
  refine r_r (ra_cell (by exact (rfl : _ = some (D.agg [_, _, _, _, _]))) (ra_tmp (is_sc rfl) ra_nil)) (by exact (rfl : _ = D.tup [_, _])) (by exact rfl) sub_no ?_
  rfl


-- pub-tallysheet/spec.CallText
theorem no_CallText_BITLSHIFT (a : D) : PF Tryz.prog G 52 [st [66, 73, 84, 76, 83, 72, 73, 70, 84], a] (.tup [noV.d, bl false]) := by
  refine PC.intro rfl Tryz.func52 rfl (Nat.le_of_ble_eq_true rfl) rfl ?_
  refine w_seq (w_reg (s_s rfl rfl (as_alloc0 (id := 0) rfl rfl (by exact (rfl : _ = [_, _, _, _, _]))) ?_))
  refine s_q rfl rfl (q_mv (.inr rfl) (is_sc rfl)) ?_
  refine s_nil (n_n (w_seq (w_seq (w_reg (s_q rfl rfl (q_mv (.inl rfl) (is_sc rfl)) ?_)))))
  refine s_nil (n_n (w_block (w_seq (w_seq (w_reg (s_q rfl rfl (q_eqs rfl rfl rfl) ?_))))))
  refine s_q rfl rfl (q_mv (.inr rfl) (is_sc rfl)) ?_
  refine s_nil (n_n (w_ifF rfl (w_seq (w_reg (s_q rfl rfl (q_eqs rfl rfl rfl) ?_)))))
  refine s_q rfl rfl (q_mv (.inr rfl) (is_sc rfl)) ?_
  refine s_nil (n_n (w_ifF rfl (w_seq (w_reg (s_q rfl rfl (q_eqs rfl rfl rfl) ?_)))))
  refine s_q rfl rfl (q_mv (.inr rfl) (is_sc rfl)) ?_
  refine s_nil (n_n (w_ifF rfl (w_seq (w_reg (s_q rfl rfl (q_eqs rfl rfl rfl) ?_)))))
  refine s_q rfl rfl (q_mv (.inr rfl) (is_sc rfl)) ?_
  refine s_nil (n_n (w_ifF rfl (w_seq (w_reg (s_q rfl rfl (q_eqs rfl rfl rfl) ?_)))))
  refine s_q rfl rfl (q_mv (.inr rfl) (is_sc rfl)) ?_
  refine s_nil (n_n (w_ifF rfl (w_seq (w_reg (s_q rfl rfl (q_eqs rfl rfl rfl) ?_)))))
  refine s_q rfl rfl (q_mv (.inr rfl) (is_sc rfl)) ?_
  refine s_nil (n_n (w_ifF rfl (w_seq (w_reg (s_q rfl rfl (q_eqs rfl rfl rfl) ?_)))))
  refine s_q rfl rfl (q_mv (.inr rfl) (is_sc rfl)) ?_
  refine s_nil (n_n (w_ifF rfl (w_seq (w_reg (s_q rfl rfl (q_eqs rfl rfl rfl) ?_)))))
  refine s_q rfl rfl (q_mv (.inr rfl) (is_sc rfl)) ?_
  refine s_nil (n_n (w_ifF rfl (w_seq (w_reg (s_q rfl rfl (q_eqs rfl rfl rfl) ?_)))))
  refine s_q rfl rfl (q_mv (.inr rfl) (is_sc rfl)) ?_
  refine s_nil (n_n (w_ifF rfl (w_reg (s_q rfl rfl (q_eqs rfl rfl rfl) ?_))))
  refine s_q rfl rfl (q_mv (.inr rfl) (is_sc rfl)) ?_
  refine s_nil (n_n (w_ifF rfl (w_seq (w_seq (w_reg (s_q rfl rfl (q_eqs rfl rfl rfl) ?_))))))
  refine s_q rfl rfl (q_mv (.inr rfl) (is_sc rfl)) ?_
  refine s_nil (n_n (w_ifF rfl (w_reg (s_q rfl rfl (q_eqs rfl rfl rfl) ?_))))
  refine s_q rfl rfl (q_mv (.inr rfl) (is_sc rfl)) ?_
  refine s_nil (n_n (w_ifF rfl (w_seq (w_seq (w_reg (s_q rfl rfl (q_eqs rfl rfl rfl) ?_))))))
  refine s_q rfl rfl (q_mv (.inr rfl) (is_sc rfl)) ?_
  refine s_nil (n_n (w_ifF rfl (w_seq (w_reg (s_q rfl rfl (q_eqs rfl rfl rfl) ?_)))))
  refine s_q rfl rfl (q_mv (.inr rfl) (is_sc rfl)) ?_
  refine s_nil (n_n (w_ifF rfl (w_seq (w_reg (s_q rfl rfl (q_eqs rfl rfl rfl) ?_)))))
  refine s_q rfl rfl (q_mv (.inr rfl) (is_sc rfl)) ?_
  refine s_nil (n_n (w_ifF rfl (w_seq (w_reg (s_q rfl rfl (q_eqs rfl rfl rfl) ?_)))))
  refine s_q rfl rfl (q_mv (.inr rfl) (is_sc rfl)) ?_
  refine s_nil (n_n (w_ifF rfl (w_reg (s_q rfl rfl (q_eqs rfl rfl rfl) ?_))))
  refine s_q rfl rfl (q_mv (.inr rfl) (is_sc rfl)) ?_
  refine s_nil (n_n (w_ifF rfl (w_seq (w_seq (w_reg (s_q rfl rfl (q_eqs rfl rfl rfl) ?_))))))
  refine s_q rfl rfl (q_mv (.inr rfl) (is_sc rfl)) ?_
  refine s_nil (n_n (w_ifF rfl (w_reg (s_q rfl rfl (q_eqs rfl rfl rfl) ?_))))
  refine s_q rfl rfl (q_mv (.inr rfl) (is_sc rfl)) ?_
  refine s_nil (n_n (w_ifF rfl (w_seq (w_reg (s_q rfl rfl (q_eqs rfl rfl rfl) ?_)))))
  refine s_q rfl rfl (q_mv (.inr rfl) (is_sc rfl)) ?_
  refine s_nil (n_n (w_ifF rfl (w_seq (w_reg (s_q rfl rfl (q_eqs rfl rfl rfl) ?_)))))
  refine s_q rfl rfl (q_mv (.inr rfl) (is_sc rfl)) ?_
  refine s_nil (n_n (w_ifF rfl (w_seq (w_seq (w_reg (s_q rfl rfl (q_eqs rfl rfl rfl) ?_))))))
  refine s_q rfl rfl (q_mv (.inr rfl) (is_sc rfl)) ?_
  refine s_nil (n_n (w_ifF rfl (w_reg (s_q rfl rfl (q_eqs rfl rfl rfl) ?_))))
  refine s_q rfl rfl (q_mv (.inr rfl) (is_sc rfl)) ?_
  refine s_nil (n_n (w_ifF rfl (w_seq (w_reg (s_q rfl rfl (q_eqs rfl rfl rfl) ?_)))))
  refine s_q rfl rfl (q_mv (.inr rfl) (is_sc rfl)) ?_
  refine s_nil (n_n (w_ifF rfl (w_seq (w_seq (w_reg (s_q rfl rfl (q_eqs rfl rfl rfl) ?_))))))
  refine s_q rfl rfl (q_mv (.inr rfl) (is_sc rfl)) ?_
  refine s_nil (n_n (w_ifF rfl (w_reg (s_q rfl rfl (q_eqs rfl rfl rfl) ?_))))
  refine s_q rfl rfl (q_mv (.inr rfl) (is_sc rfl)) ?_
  refine s_nil (n_n (w_ifF rfl (w_seq (w_reg (s_q rfl rfl (q_eqs rfl rfl rfl) ?_)))))
  refine s_q rfl rfl (q_mv (.inr rfl) (is_sc rfl)) ?_
  refine s_nil (n_n (w_ifF rfl (w_skip (b_n (n_n (w_seq (w_reg (s_q rfl rfl (q_build rfl pt_nil (by exact (rfl : _ = some [_, _, _, _, _]))) ?_))))))))
  refine s_u rfl rfl (as_st rfl rfl (by first | exact (rfl : _ = D.agg [_, _, _, _, _]) | exact rfl) rfl (by exact rfl) (by exact rfl) (by exact Nat.le_of_ble_eq_true rfl) (by exact (rfl : _ = [_, _, _, _, _]))) ?_
  refine s_q rfl rfl (q_mv (.inr rfl) (is_sc rfl)) ?_
  refine s_nil (n_n (w_ret ?_))
  -- end 0
  refine r_r (ra_cell (by exact (rfl : _ = some (D.agg [_, _, _, _, _]))) (ra_tmp (is_sc rfl) ra_nil)) (by exact (rfl : _ = D.tup [_, _])) (by exact rfl) sub_no ?_
  rfl


-- pub-tallysheet/spec.CallLogic
theorem no_CallLogic_BITLSHIFT (a : D) : PF Tryz.prog G 53 [st [66, 73, 84, 76, 83, 72, 73, 70, 84], a] (.tup [noV.d, bl false]) := by
  refine PC.intro rfl Tryz.func53 rfl (Nat.le_of_ble_eq_true rfl) rfl ?_
  refine w_seq (w_reg (s_s rfl rfl (as_alloc0 (id := 0) rfl rfl (by exact (rfl : _ = [_, _, _, _, _]))) ?_))
  refine s_q rfl rfl (q_mv (.inr rfl) (is_sc rfl)) ?_
  refine s_nil (n_n (w_seq (w_seq (w_reg (s_q rfl rfl (q_mv (.inl rfl) (is_sc rfl)) ?_)))))
  refine s_nil (n_n (w_block (w_seq (w_seq (w_reg (s_q rfl rfl (q_eqs rfl rfl rfl) ?_))))))
  refine s_q rfl rfl (q_mv (.inr rfl) (is_sc rfl)) ?_
  refine s_nil (n_n (w_ifF rfl (w_reg (s_q rfl rfl (q_eqs rfl rfl rfl) ?_))))
  refine s_q rfl rfl (q_mv (.inr rfl) (is_sc rfl)) ?_
  refine s_nil (n_n (w_ifF rfl (w_seq (w_seq (w_reg (s_q rfl rfl (q_eqs rfl rfl rfl) ?_))))))
  refine s_q rfl rfl (q_mv (.inr rfl) (is_sc rfl)) ?_
  refine s_nil (n_n (w_ifF rfl (w_seq (w_reg (s_q rfl rfl (q_eqs rfl rfl rfl) ?_)))))
  refine s_q rfl rfl (q_mv (.inr rfl) (is_sc rfl)) ?_
  refine s_nil (n_n (w_ifF rfl (w_reg (s_q rfl rfl (q_eqs rfl rfl rfl) ?_))))
  refine s_q rfl rfl (q_mv (.inr rfl) (is_sc rfl)) ?_
  refine s_nil (n_n (w_ifF rfl (w_seq (w_reg (s_q rfl rfl (q_eqs rfl rfl rfl) ?_)))))
  refine s_q rfl rfl (q_mv (.inr rfl) (is_sc rfl)) ?_
  refine s_nil (n_n (w_ifF rfl (w_seq (w_reg (s_q rfl rfl (q_eqs rfl rfl rfl) ?_)))))
  refine s_q rfl rfl (q_mv (.inr rfl) (is_sc rfl)) ?_
  refine s_nil (n_n (w_ifF rfl (w_seq (w_seq (w_reg (s_q rfl rfl (q_eqs rfl rfl rfl) ?_))))))
  refine s_q rfl rfl (q_mv (.inr rfl) (is_sc rfl)) ?_
  refine s_nil (n_n (w_ifF rfl (w_reg (s_q rfl rfl (q_eqs rfl rfl rfl) ?_))))
  refine s_q rfl rfl (q_mv (.inr rfl) (is_sc rfl)) ?_
  refine s_nil (n_n (w_ifF rfl (w_seq (w_reg (s_q rfl rfl (q_eqs rfl rfl rfl) ?_)))))
  refine s_q rfl rfl (q_mv (.inr rfl) (is_sc rfl)) ?_
  refine s_nil (n_n (w_ifF rfl (w_seq (w_reg (s_q rfl rfl (q_eqs rfl rfl rfl) ?_)))))
  refine s_q rfl rfl (q_mv (.inr rfl) (is_sc rfl)) ?_
  refine s_nil (n_n (w_ifF rfl (w_seq (w_reg (s_q rfl rfl (q_eqs rfl rfl rfl) ?_)))))
  refine s_q rfl rfl (q_mv (.inr rfl) (is_sc rfl)) ?_
  refine s_nil (n_n (w_ifF rfl (w_skip (b_n (n_n (w_seq (w_reg (s_q rfl rfl (q_build rfl pt_nil (by exact (rfl : _ = some [_, _, _, _, _]))) ?_))))))))
  refine s_u rfl rfl (as_st rfl rfl (by first | exact (rfl : _ = D.agg [_, _, _, _, _]) | exact rfl) rfl (by exact rfl) (by exact rfl) (by exact Nat.le_of_ble_eq_true rfl) (by exact (rfl : _ = [_, _, _, _, _]))) ?_
  refine s_q rfl rfl (q_mv (.inr rfl) (is_sc rfl)) ?_
  refine s_nil (n_n (w_ret ?_))
  -- end 0
  refine r_r (ra_cell (by exact (rfl : _ = some (D.agg [_, _, _, _, _]))) (ra_tmp (is_sc rfl) ra_nil)) (by exact (rfl : _ = D.tup [_, _])) (by exact rfl) sub_no ?_
  rfl


-- pub-tallysheet/spec.CallInfo
theorem no_CallInfo_BITLSHIFT (a : D) : PF Tryz.prog G 54 [st [66, 73, 84, 76, 83, 72, 73, 70, 84], a] (.tup [noV.d, bl false]) := by
  refine PC.intro rfl Tryz.func54 rfl (Nat.le_of_ble_eq_true rfl) rfl ?_
  refine w_seq (w_reg (s_s rfl rfl (as_alloc0 (id := 0) rfl rfl (by exact (rfl : _ = [_, _, _, _, _]))) ?_))
  refine s_q rfl rfl (q_mv (.inr rfl) (is_sc rfl)) ?_
  refine s_nil (n_n (w_seq (w_seq (w_reg (s_q rfl rfl (q_mv (.inl rfl) (is_sc rfl)) ?_)))))
  refine s_nil (n_n (w_block (w_seq (w_seq (w_reg (s_q rfl rfl (q_eqs rfl rfl rfl) ?_))))))
  refine s_q rfl rfl (q_mv (.inr rfl) (is_sc rfl)) ?_
  refine s_nil (n_n (w_ifF rfl (w_seq (w_reg (s_q rfl rfl (q_eqs rfl rfl rfl) ?_)))))
  refine s_q rfl rfl (q_mv (.inr rfl) (is_sc rfl)) ?_
  refine s_nil (n_n (w_ifF rfl (w_seq (w_reg (s_q rfl rfl (q_eqs rfl rfl rfl) ?_)))))
  refine s_q rfl rfl (q_mv (.inr rfl) (is_sc rfl)) ?_
  refine s_nil (n_n (w_ifF rfl (w_seq (w_reg (s_q rfl rfl (q_eqs rfl rfl rfl) ?_)))))
  refine s_q rfl rfl (q_mv (.inr rfl) (is_sc rfl)) ?_
  refine s_nil (n_n (w_ifF rfl (w_seq (w_reg (s_q rfl rfl (q_eqs rfl rfl rfl) ?_)))))
  refine s_q rfl rfl (q_mv (.inr rfl) (is_sc rfl)) ?_
  refine s_nil (n_n (w_ifF rfl (w_seq (w_reg (s_q rfl rfl (q_eqs rfl rfl rfl) ?_)))))
  refine s_q rfl rfl (q_mv (.inr rfl) (is_sc rfl)) ?_
  refine s_nil (n_n (w_ifF rfl (w_seq (w_reg (s_q rfl rfl (q_eqs rfl rfl rfl) ?_)))))
  refine s_q rfl rfl (q_mv (.inr rfl) (is_sc rfl)) ?_
  refine s_nil (n_n (w_ifF rfl (w_seq (w_reg (s_q rfl rfl (q_eqs rfl rfl rfl) ?_)))))
  refine s_q rfl rfl (q_mv (.inr rfl) (is_sc rfl)) ?_
  refine s_nil (n_n (w_ifF rfl (w_seq (w_reg (s_q rfl rfl (q_eqs rfl rfl rfl) ?_)))))
  refine s_q rfl rfl (q_mv (.inr rfl) (is_sc rfl)) ?_
  refine s_nil (n_n (w_ifF rfl (w_seq (w_reg (s_q rfl rfl (q_eqs rfl rfl rfl) ?_)))))
  refine s_q rfl rfl (q_mv (.inr rfl) (is_sc rfl)) ?_
  refine s_nil (n_n (w_ifF rfl (w_reg (s_q rfl rfl (q_eqs rfl rfl rfl) ?_))))
  refine s_q rfl rfl (q_mv (.inr rfl) (is_sc rfl)) ?_
  refine s_nil (n_n (w_ifF rfl (w_seq (w_seq (w_reg (s_q rfl rfl (q_eqs rfl rfl rfl) ?_))))))
  refine s_q rfl rfl (q_mv (.inr rfl) (is_sc rfl)) ?_
  refine s_nil (n_n (w_ifF rfl (w_reg (s_q rfl rfl (q_eqs rfl rfl rfl) ?_))))
  refine s_q rfl rfl (q_mv (.inr rfl) (is_sc rfl)) ?_
  refine s_nil (n_n (w_ifF rfl (w_seq (w_reg (s_q rfl rfl (q_eqs rfl rfl rfl) ?_)))))
  refine s_q rfl rfl (q_mv (.inr rfl) (is_sc rfl)) ?_
  refine s_nil (n_n (w_ifF rfl (w_skip (b_n (n_n (w_seq (w_reg (s_q rfl rfl (q_build rfl pt_nil (by exact (rfl : _ = some [_, _, _, _, _]))) ?_))))))))
  refine s_u rfl rfl (as_st rfl rfl (by first | exact (rfl : _ = D.agg [_, _, _, _, _]) | exact rfl) rfl (by exact rfl) (by exact rfl) (by exact Nat.le_of_ble_eq_true rfl) (by exact (rfl : _ = [_, _, _, _, _]))) ?_
  refine s_q rfl rfl (q_mv (.inr rfl) (is_sc rfl)) ?_
  refine s_nil (n_n (w_ret ?_))
  -- end 0
  refine r_r (ra_cell (by exact (rfl : _ = some (D.agg [_, _, _, _, _]))) (ra_tmp (is_sc rfl) ra_nil)) (by exact (rfl : _ = D.tup [_, _])) (by exact rfl) sub_no ?_
  rfl


-- pub-tallysheet/spec.bits
theorem pf_bits_BITLSHIFT (n k : Int) (hn : ¬ (99999999999 < n ∨ n < -99999999999)) (hn2 : n ≤ 1048576) (hk : 0 ≤ k) (hk2 : k ≤ 20) : PF Tryz.prog G 113 [st [66, 73, 84, 76, 83, 72, 73, 70, 84], lst [num n 1, num k 1]] (shlV n k).d := by
  refine PC.intro rfl Tryz.func113 rfl (Nat.le_of_ble_eq_true rfl) rfl ?_
  refine w_seq (w_reg (s_s rfl rfl (as_alloc0 (id := 0) rfl rfl (by exact (rfl : _ = [_, _, _, _, _]))) ?_))
  refine s_nil (n_n (w_seq (w_seq (w_reg (s_q rfl rfl (q_mv (.inl rfl) (by first | exact is_im rfl | exact is_gs rfl | exact is_lit rfl | exact is_ms rfl | exact is_sc rfl | exact rfl)) ?_)))))
  refine s_q rfl rfl (q_len rfl rfl rfl) ?_
  refine s_q rfl rfl (q_neq rfl rfl rfl) ?_
  refine s_nil (n_n (w_ifF rfl (w_skip (n_n (w_seq (w_reg (s_q rfl rfl (q_mv (.inl rfl) (by first | exact is_im rfl | exact is_gs rfl | exact is_lit rfl | exact is_ms rfl | exact is_sc rfl | exact rfl)) ?_)))))))
  refine s_q rfl rfl (q_call rfl rfl rfl rfl (pf_wholesN [_, _] (by simp only [List.length_cons, List.length_nil]; omega))) ?_
  refine s_q rfl rfl (q_mv (.inl rfl) (by first | exact (rfl : _ = D.tup [_, _, _]) | exact rfl)) ?_
  refine s_q rfl rfl (q_extract rfl rfl rfl) ?_
  refine s_q rfl rfl (q_extract rfl rfl rfl) ?_
  refine s_q rfl rfl (q_extract rfl rfl rfl) ?_
  refine s_s rfl rfl (as_alloc0 (id := 1) rfl rfl (by exact (rfl : _ = [_, _, _, _, _]))) ?_
  refine s_q rfl rfl (q_mv (.inr rfl) (by first | exact is_im rfl | exact is_gs rfl | exact is_lit rfl | exact is_ms rfl | exact is_sc rfl | exact rfl)) ?_
  refine s_u rfl rfl (as_st rfl rfl (by first | exact (rfl : _ = D.agg [_, _, _, _, _]) | exact rfl) rfl (by exact rfl) (by exact rfl) (by exact Nat.le_of_ble_eq_true rfl) (by exact (rfl : _ = [_, _, _, _, _]))) ?_
  refine s_q rfl rfl (q_mv (.inr rfl) (is_sc rfl)) ?_
  refine s_nil (n_n (w_seq (w_seq (w_reg (s_q rfl rfl (q_mv (.inl rfl) (is_sc rfl)) ?_)))))
  refine s_q rfl rfl (q_not rfl rfl) ?_
  refine s_q rfl rfl (q_mv (.inl rfl) (is_sc rfl)) ?_
  refine s_q rfl rfl (q_mv (.inl rfl) (by first | exact is_im rfl | exact is_gs rfl | exact is_lit rfl | exact is_ms rfl | exact is_sc rfl | exact rfl)) ?_
  refine s_q rfl rfl (q_call rfl rfl rfl rfl (pf_strict [num _ _, num _ _] (by simp only [List.length_cons, List.length_nil]; omega) (by intro v hv; simp only [List.mem_cons, List.mem_nil_iff, or_false] at hv; rcases hv with rfl | rfl <;> rfl))) ?_
  refine s_q rfl rfl (q_not rfl rfl) ?_
  refine s_q rfl rfl (q_pickF rfl rfl (is_sc rfl)) ?_
  refine s_nil (n_n (w_ifF rfl (w_skip (n_n (w_seq (w_draw [0, 1, 3, 0, 8, 24, 7, 127] [0, 0, 1, 0, 0, 1, 0, 0] rfl ?_))))))
  refine d_q0 rfl rfl (q_mv (.inl rfl) (by first | exact is_im rfl | exact is_gs rfl | exact is_lit rfl | exact is_ms rfl | exact is_sc rfl | exact rfl)) ?_
  refine d_q0 rfl rfl (q_index rfl rfl rfl rfl (by simp) (by simp)) ?_
  refine d_q1 rfl rfl (q_load rfl rfl (by exact (rfl : _ = some (D.sc _)))) ?_
  refine d_q0 rfl rfl (q_mv (.inl rfl) (by first | exact is_im rfl | exact is_gs rfl | exact is_lit rfl | exact is_ms rfl | exact is_sc rfl | exact rfl)) ?_
  refine d_q0 rfl rfl (q_index rfl rfl rfl rfl (by simp) (by simp)) ?_
  refine d_q1 rfl rfl (q_load rfl rfl (by exact (rfl : _ = some (D.sc _)))) ?_
  refine d_q0 rfl rfl (q_mv (.inr rfl) (is_sc rfl)) ?_
  refine d_q0 rfl rfl (q_mv (.inr rfl) (is_sc rfl)) ?_
  refine d_nil (n_n (w_seq (w_reg (s_q rfl rfl (q_mv (.inl rfl) (is_sc rfl)) ?_))))
  refine s_q rfl rfl (q_eqs rfl rfl rfl) ?_
  refine s_q rfl rfl (q_mv (.inl rfl) (is_sc rfl)) ?_
  refine s_off rfl rfl ?_
  refine s_off rfl rfl ?_
  refine s_q rfl rfl (q_pickT rfl rfl (is_sc rfl)) ?_
  refine s_q rfl rfl (q_mv (.inr rfl) (is_sc rfl)) ?_
  refine s_nil (n_n (w_seq (w_seq (w_reg (s_q rfl rfl (q_mv (.inl rfl) (is_sc rfl)) ?_)))))
  refine s_q rfl rfl (q_lss rfl rfl rfl) ?_
  refine s_q rfl rfl (q_mv (.inl rfl) (is_sc rfl)) ?_
  refine s_split 45 (is_scb rfl) (fun h45 => ?_) (fun h45 => ?_)
  · refine s_off rfl rfl ?_
    refine s_off rfl rfl ?_
    refine s_off rfl rfl ?_
    refine s_off rfl rfl ?_
    refine s_off rfl rfl ?_
    refine s_off rfl rfl ?_
    refine s_q rfl rfl (q_pickT rfl rfl (is_sc rfl)) ?_
    refine s_nil (n_n (w_ifT rfl (w_seq (w_reg (s_q rfl rfl (q_call rfl rfl rfl rfl (pf_err _)) ?_)))))
    refine s_u rfl rfl (as_st rfl rfl (by first | exact (rfl : _ = D.agg [_, _, _, _, _]) | exact rfl) rfl (by exact rfl) (by exact rfl) (by exact Nat.le_of_ble_eq_true rfl) (by exact (rfl : _ = [_, _, _, _, _]))) ?_
    refine s_nil (n_n (w_ret (n_r ?_)))
    -- end 0
    refine r_r (ra_cell (by exact (rfl : _ = some (D.agg [_, _, _, _, _]))) ra_nil) (by first | exact (rfl : _ = D.agg [_, _, _, _, _]) | exact rfl) (by exact rfl) sub_no ?_
    have e : shlV n k = errV [35, 78, 85, 77, 33] := by
      simp only [decide_eq_true_eq, decide_eq_false_iff_not] at *
      unfold shlV
      (repeat' split) <;> first | rfl | (exfalso; omega)
    rw [e]; rfl
  · refine s_q rfl rfl (q_mv (.inl rfl) (is_sc rfl)) ?_
    refine s_q rfl rfl (q_as (bl_no (show ¬ k < 0 by omega)) (q_lss rfl rfl rfl)) ?_
    refine s_q rfl rfl (q_mv (.inl rfl) (is_sc rfl)) ?_
    refine s_off rfl rfl ?_
    refine s_off rfl rfl ?_
    refine s_q rfl rfl (q_pickF rfl rfl (is_sc rfl)) ?_
    refine s_q rfl rfl (q_pickF rfl rfl (is_sc rfl)) ?_
    refine s_nil (n_n (w_ifF rfl (w_skip (n_n (w_seq (w_seq (w_reg (s_q rfl rfl (q_mv (.inl rfl) (is_sc rfl)) ?_))))))))
    refine s_nil (n_n (w_block (w_seq (w_reg (s_q rfl rfl (q_eqs rfl rfl rfl) ?_)))))
    refine s_q rfl rfl (q_mv (.inr rfl) (is_sc rfl)) ?_
    refine s_nil (n_n (w_ifF rfl (w_seq (w_reg (s_q rfl rfl (q_eqs rfl rfl rfl) ?_)))))
    refine s_q rfl rfl (q_mv (.inr rfl) (is_sc rfl)) ?_
    refine s_nil (n_n (w_ifF rfl (w_seq (w_reg (s_q rfl rfl (q_eqs rfl rfl rfl) ?_)))))
    refine s_q rfl rfl (q_mv (.inr rfl) (is_sc rfl)) ?_
    refine s_nil (n_n (w_ifF rfl (w_skip (b_n (n_n (w_seq (w_seq (w_reg (s_q rfl rfl (q_mv (.inl rfl) (is_sc rfl)) ?_)))))))))
    refine s_q rfl rfl (q_as (bl_no (show ¬ 53 < k by omega)) (q_gtr rfl rfl rfl)) ?_
    refine s_q rfl rfl (q_mv (.inl rfl) (is_sc rfl)) ?_
    refine s_q rfl rfl (q_mv (.inl rfl) (is_sc rfl)) ?_
    refine s_q rfl rfl (q_as (bl_no (show ¬ k < 0 by omega)) (q_lss rfl rfl rfl)) ?_
    refine s_q rfl rfl (q_pickF rfl rfl (is_sc rfl)) ?_
    refine s_nil (n_n (w_ifF rfl (w_skip (n_n (w_seq (w_seq (w_reg (s_q rfl rfl (q_mv (.inl rfl) (is_sc rfl)) ?_))))))))
    refine s_q rfl rfl (q_eqs rfl rfl rfl) ?_
    refine s_nil (n_n (w_ifF rfl (w_skip (n_n (w_seq (w_seq (w_reg (s_q rfl rfl (q_mv (.inl rfl) (is_sc rfl)) ?_))))))))
    refine s_q rfl rfl (q_leq rfl rfl rfl) ?_
    refine s_nil (n_n (w_if (is_scb rfl) (fun h85 => ?_) (fun h85 => ?_)))
    · obtain rfl : k = 0 := by have := of_decide_eq_true h85; omega
      have w0 : IntKind.i64.wrap (0 - 0) = 0 := by decide
      have w1 : n.fdiv (2 ^ min (0 : Int).toNat IntKind.i64.bits) = shlI n 0 := by
        have h1 : -9223372036854775808 ≤ n ∧ n ≤ 9223372036854775807 := by omega
        unfold shlI
        simp
        rw [wrap_id h1.1 h1.2]
      refine w_seq (w_reg (s_q rfl rfl (q_mv (.inl rfl) (is_sc rfl)) ?_))
      refine s_q rfl rfl (q_mv (.inl rfl) (is_sc rfl)) ?_
      refine s_q rfl rfl (q_as (i64_eq w0) (q_neg rfl rfl)) ?_
      refine s_q rfl rfl (q_as (i64_eq w1) (q_shr rfl rfl rfl (by decide))) ?_
      refine s_q rfl rfl (q_call rfl rfl rfl rfl (pf_int _)) ?_
      refine s_u rfl rfl (as_st rfl rfl (by first | exact (rfl : _ = D.agg [_, _, _, _, _]) | exact rfl) rfl (by exact rfl) (by exact rfl) (by exact Nat.le_of_ble_eq_true rfl) (by exact (rfl : _ = [_, _, _, _, _]))) ?_
      refine s_nil (n_n (w_ret (n_r ?_)))
      -- end 1
      refine r_r (ra_cell (by exact (rfl : _ = some (D.agg [_, _, _, _, _]))) ra_nil) (by first | exact (rfl : _ = D.agg [_, _, _, _, _]) | exact rfl) (by exact rfl) sub_no ?_
      rw [show shlV n 0 = intV (shlI n 0) by simp only [decide_eq_true_eq, decide_eq_false_iff_not] at *; unfold shlV; rw [if_neg (by omega)]]; rfl
    · refine w_skip (n_n (w_seq (w_seq (w_reg (s_q rfl rfl (q_mv (.inl rfl) (is_sc rfl)) ?_)))))
      refine s_q rfl rfl (q_as (bl_no (show ¬ 20 < k by omega)) (q_gtr rfl rfl rfl)) ?_
      refine s_q rfl rfl (q_mv (.inl rfl) (is_sc rfl)) ?_
      refine s_q rfl rfl (q_mv (.inl rfl) (is_sc rfl)) ?_
      refine s_q rfl rfl (q_as (bl_no (show ¬ 1048576 < n by omega)) (q_gtr rfl rfl rfl)) ?_
      refine s_q rfl rfl (q_pickF rfl rfl (is_sc rfl)) ?_
      refine s_nil (n_n (w_ifF rfl (w_skip (n_n (w_seq (w_reg (s_q rfl rfl (q_mv (.inl rfl) (is_sc rfl)) ?_)))))))
      refine s_q rfl rfl (q_mv (.inl rfl) (is_sc rfl)) ?_
      refine s_q rfl rfl (q_as (i64_eq (show _ = shlI n k from rfl)) (q_shl rfl rfl rfl hk)) ?_
      refine s_q rfl rfl (q_call rfl rfl rfl rfl (pf_int _)) ?_
      refine s_u rfl rfl (as_st rfl rfl (by first | exact (rfl : _ = D.agg [_, _, _, _, _]) | exact rfl) rfl (by exact rfl) (by exact rfl) (by exact Nat.le_of_ble_eq_true rfl) (by exact (rfl : _ = [_, _, _, _, _]))) ?_
      refine s_nil (n_n (w_ret ?_))
      -- end 2
      refine r_r (ra_cell (by exact (rfl : _ = some (D.agg [_, _, _, _, _]))) ra_nil) (by first | exact (rfl : _ = D.agg [_, _, _, _, _]) | exact rfl) (by exact rfl) sub_no ?_
      rw [show shlV n k = intV (shlI n k) by simp only [decide_eq_true_eq, decide_eq_false_iff_not] at *; unfold shlV; rw [if_neg (by omega)]]; rfl


-- pub-tallysheet/spec.fitsNumbers
theorem pf_fitsNumbers_BITLSHIFTN (n k : Int) (hn : ¬ (99999999999 < n ∨ n < -99999999999)) (hn2 : n ≤ 1048576) (hk : 0 ≤ k) (hk2 : k ≤ 20) : PF Tryz.prog G 73 [st [66, 73, 84, 76, 83, 72, 73, 70, 84], lst [num n 1, num k 1]] (.tup [bl true, bl true]) := by
  refine PC.intro rfl Tryz.func73 rfl (Nat.le_of_ble_eq_true rfl) rfl ?_
  refine w_seq (w_reg (s_q rfl rfl (q_mv (.inr rfl) (is_sc rfl)) ?_))
  refine s_q rfl rfl (q_mv (.inr rfl) (is_sc rfl)) ?_
  refine s_nil (n_n (w_seq (w_reg (s_q rfl rfl (q_mv (.inl rfl) (by first | exact is_im rfl | exact is_gs rfl | exact is_lit rfl | exact is_ms rfl | exact is_sc rfl | exact rfl)) ?_))))
  refine s_q rfl rfl (q_len rfl rfl rfl) ?_
  refine s_q rfl rfl (q_mv (.inr rfl) (is_sc rfl)) ?_
  refine s_nil (n_n (w_seq (w_reg (s_q rfl rfl (q_mv (.inl rfl) (by first | exact is_im rfl | exact is_gs rfl | exact is_lit rfl | exact is_ms rfl | exact is_sc rfl | exact rfl)) ?_))))
  refine s_q rfl rfl (q_call rfl rfl rfl rfl (pf_every _ (by simp only [List.length_cons, List.length_nil]; omega) 163 (fun v => decide (v.kind = 1)) (fun v hv => by
      rcases List.mem_cons.1 hv with rfl | hv
      · exact pf_numericN _ _
      rcases List.mem_cons.1 hv with rfl | hv
      · exact pf_numericN _ _
      cases hv))) ?_
  refine s_q rfl rfl (q_mv (.inr rfl) (is_sc rfl)) ?_
  refine s_nil (n_n (w_seq (w_seq (w_reg (s_q rfl rfl (q_mv (.inl rfl) (is_sc rfl)) ?_)))))
  refine s_nil (n_n (w_block (w_seq (w_seq (w_reg (s_q rfl rfl (q_eqs rfl rfl rfl) ?_))))))
  refine s_q rfl rfl (q_mv (.inr rfl) (is_sc rfl)) ?_
  refine s_nil (n_n (w_ifF rfl (w_seq (w_reg (s_q rfl rfl (q_eqs rfl rfl rfl) ?_)))))
  refine s_q rfl rfl (q_mv (.inr rfl) (is_sc rfl)) ?_
  refine s_nil (n_n (w_ifF rfl (w_seq (w_reg (s_q rfl rfl (q_eqs rfl rfl rfl) ?_)))))
  refine s_q rfl rfl (q_mv (.inr rfl) (is_sc rfl)) ?_
  refine s_nil (n_n (w_ifF rfl (w_seq (w_reg (s_q rfl rfl (q_eqs rfl rfl rfl) ?_)))))
  refine s_q rfl rfl (q_mv (.inr rfl) (is_sc rfl)) ?_
  refine s_nil (n_n (w_ifF rfl (w_reg (s_q rfl rfl (q_eqs rfl rfl rfl) ?_))))
  refine s_q rfl rfl (q_mv (.inr rfl) (is_sc rfl)) ?_
  refine s_nil (n_n (w_ifF rfl (w_seq (w_reg (s_q rfl rfl (q_eqs rfl rfl rfl) ?_)))))
  refine s_q rfl rfl (q_mv (.inr rfl) (is_sc rfl)) ?_
  refine s_nil (n_n (w_ifF rfl (w_seq (w_seq (w_reg (s_q rfl rfl (q_eqs rfl rfl rfl) ?_))))))
  refine s_q rfl rfl (q_mv (.inr rfl) (is_sc rfl)) ?_
  refine s_nil (n_n (w_ifF rfl (w_reg (s_q rfl rfl (q_eqs rfl rfl rfl) ?_))))
  refine s_q rfl rfl (q_mv (.inr rfl) (is_sc rfl)) ?_
  refine s_nil (n_n (w_ifF rfl (w_seq (w_seq (w_reg (s_q rfl rfl (q_eqs rfl rfl rfl) ?_))))))
  refine s_q rfl rfl (q_mv (.inr rfl) (is_sc rfl)) ?_
  refine s_nil (n_n (w_ifF rfl (w_reg (s_q rfl rfl (q_eqs rfl rfl rfl) ?_))))
  refine s_q rfl rfl (q_mv (.inr rfl) (is_sc rfl)) ?_
  refine s_nil (n_n (w_ifF rfl (w_seq (w_seq (w_reg (s_q rfl rfl (q_eqs rfl rfl rfl) ?_))))))
  refine s_q rfl rfl (q_mv (.inr rfl) (is_sc rfl)) ?_
  refine s_nil (n_n (w_ifF rfl (w_reg (s_q rfl rfl (q_eqs rfl rfl rfl) ?_))))
  refine s_q rfl rfl (q_mv (.inr rfl) (is_sc rfl)) ?_
  refine s_nil (n_n (w_ifF rfl (w_seq (w_seq (w_reg (s_q rfl rfl (q_eqs rfl rfl rfl) ?_))))))
  refine s_q rfl rfl (q_mv (.inr rfl) (is_sc rfl)) ?_
  refine s_nil (n_n (w_ifF rfl (w_seq (w_reg (s_q rfl rfl (q_eqs rfl rfl rfl) ?_)))))
  refine s_q rfl rfl (q_mv (.inr rfl) (is_sc rfl)) ?_
  refine s_nil (n_n (w_ifF rfl (w_reg (s_q rfl rfl (q_eqs rfl rfl rfl) ?_))))
  refine s_q rfl rfl (q_mv (.inr rfl) (is_sc rfl)) ?_
  refine s_nil (n_n (w_ifF rfl (w_seq (w_seq (w_reg (s_q rfl rfl (q_eqs rfl rfl rfl) ?_))))))
  refine s_q rfl rfl (q_mv (.inr rfl) (is_sc rfl)) ?_
  refine s_nil (n_n (w_ifT rfl (w_skip (n_n (w_ifT rfl (w_seq (w_reg (s_q rfl rfl (q_mv (.inl rfl) (is_sc rfl)) ?_))))))))
  refine s_q rfl rfl (q_eql rfl rfl rfl) ?_
  refine s_q rfl rfl (q_mv (.inl rfl) (is_sc rfl)) ?_
  refine s_q rfl rfl (q_mv (.inl rfl) (by first | exact is_im rfl | exact is_gs rfl | exact is_lit rfl | exact is_ms rfl | exact is_sc rfl | exact rfl)) ?_
  refine s_q rfl rfl (q_index rfl rfl rfl rfl (by simp) (by simp)) ?_
  refine s_q rfl rfl (q_field rfl rfl (by exact rfl)) ?_
  refine s_q rfl rfl (q_load rfl rfl (by exact (rfl : _ = some (D.sc _)))) ?_
  refine s_q rfl rfl (q_neq rfl rfl rfl) ?_
  refine s_q rfl rfl (q_pickT rfl rfl (is_sc rfl)) ?_
  refine s_q rfl rfl (q_mv (.inl rfl) (is_sc rfl)) ?_
  refine s_q rfl rfl (q_mv (.inl rfl) (by first | exact is_im rfl | exact is_gs rfl | exact is_lit rfl | exact is_ms rfl | exact is_sc rfl | exact rfl)) ?_
  refine s_q rfl rfl (q_index rfl rfl rfl rfl (by simp) (by simp)) ?_
  refine s_q rfl rfl (q_field rfl rfl (by exact rfl)) ?_
  refine s_q rfl rfl (q_load rfl rfl (by exact (rfl : _ = some (D.sc _)))) ?_
  refine s_q rfl rfl (q_neq rfl rfl rfl) ?_
  refine s_q rfl rfl (q_pickT rfl rfl (is_sc rfl)) ?_
  refine s_q rfl rfl (q_mv (.inl rfl) (is_sc rfl)) ?_
  refine s_q rfl rfl (q_mv (.inl rfl) (by first | exact is_im rfl | exact is_gs rfl | exact is_lit rfl | exact is_ms rfl | exact is_sc rfl | exact rfl)) ?_
  refine s_q rfl rfl (q_index rfl rfl rfl rfl (by simp) (by simp)) ?_
  refine s_q rfl rfl (q_load rfl rfl (by exact (rfl : _ = some (D.agg [_, _, _, _, _])))) ?_
  refine s_q rfl rfl (q_call rfl rfl rfl rfl (pf_betweenT _ _ _ (by omega) (by omega))) ?_
  refine s_q rfl rfl (q_pickT rfl rfl (is_sc rfl)) ?_
  refine s_q rfl rfl (q_mv (.inl rfl) (is_sc rfl)) ?_
  refine s_q rfl rfl (q_mv (.inl rfl) (by first | exact is_im rfl | exact is_gs rfl | exact is_lit rfl | exact is_ms rfl | exact is_sc rfl | exact rfl)) ?_
  refine s_q rfl rfl (q_index rfl rfl rfl rfl (by simp) (by simp)) ?_
  refine s_q rfl rfl (q_load rfl rfl (by exact (rfl : _ = some (D.agg [_, _, _, _, _])))) ?_
  refine s_q rfl rfl (q_call rfl rfl rfl rfl (pf_betweenT _ _ _ (by omega) (by omega))) ?_
  refine s_q rfl rfl (q_pickT rfl rfl (is_sc rfl)) ?_
  refine s_q rfl rfl (q_mv (.inr rfl) (is_sc rfl)) ?_
  refine s_q rfl rfl (q_mv (.inr rfl) (is_sc rfl)) ?_
  refine s_nil (n_n (w_ret (b_r (n_r ?_))))
  -- end 0
  refine r_r (ra_tmp (is_sc rfl) (ra_tmp (is_sc rfl) ra_nil)) (by exact (rfl : _ = D.tup [_, _])) (by exact rfl) sub_no ?_
  rfl


-- pub-tallysheet/spec.Fits
theorem pf_Fits_BITLSHIFTN (n k : Int) (hn : ¬ (99999999999 < n ∨ n < -99999999999)) (hn2 : n ≤ 1048576) (hk : 0 ≤ k) (hk2 : k ≤ 20) : PF Tryz.prog G 47 [st [66, 73, 84, 76, 83, 72, 73, 70, 84], lst [num n 1, num k 1]] (bl true) := by
  refine PC.intro rfl Tryz.func47 rfl (Nat.le_of_ble_eq_true rfl) rfl ?_
  refine w_seq (w_reg (s_q rfl rfl (q_mv (.inr rfl) (is_sc rfl)) ?_))
  refine s_nil (n_n (w_seq (w_seq (w_reg (s_q rfl rfl (q_mv (.inl rfl) (is_sc rfl)) ?_)))))
  refine s_q rfl rfl (q_mv (.inl rfl) (by first | exact is_im rfl | exact is_gs rfl | exact is_lit rfl | exact is_ms rfl | exact is_sc rfl | exact rfl)) ?_
  refine s_q rfl rfl (q_call rfl rfl rfl rfl (pf_fitsNumbers_BITLSHIFTN n k hn hn2 hk hk2)) ?_
  refine s_q rfl rfl (q_mv (.inl rfl) (by first | exact (rfl : _ = D.tup [_, _]) | exact rfl)) ?_
  refine s_q rfl rfl (q_extract rfl rfl rfl) ?_
  refine s_q rfl rfl (q_extract rfl rfl rfl) ?_
  refine s_q rfl rfl (q_mv (.inr rfl) (is_sc rfl)) ?_
  refine s_q rfl rfl (q_mv (.inr rfl) (is_sc rfl)) ?_
  refine s_nil (n_n (w_seq (w_reg (s_q rfl rfl (q_mv (.inl rfl) (is_sc rfl)) ?_))))
  refine s_nil (n_n (w_ifT rfl (w_seq (w_reg (s_q rfl rfl (q_mv (.inl rfl) (is_sc rfl)) ?_)))))
  refine s_q rfl rfl (q_mv (.inr rfl) (is_sc rfl)) ?_
  refine s_nil (n_n (w_ret (n_r ?_)))
  -- end 0
  refine r_r (ra_tmp (is_sc rfl) ra_nil) (by exact (is_sc rfl)) (by exact rfl) sub_no ?_
  rfl


-- pub-tallysheet/spec.CallMath
theorem pf_CallMath_BITLSHIFTN (n k : Int) (hn : ¬ (99999999999 < n ∨ n < -99999999999)) (hn2 : n ≤ 1048576) (hk : 0 ≤ k) (hk2 : k ≤ 20) : PF Tryz.prog G 51 [st [66, 73, 84, 76, 83, 72, 73, 70, 84], lst [num n 1, num k 1]] (.tup [(shlV n k).d, bl true]) := by
  refine PC.intro rfl Tryz.func51 rfl (Nat.le_of_ble_eq_true rfl) rfl ?_
  refine w_seq (w_reg (s_s rfl rfl (as_alloc0 (id := 0) rfl rfl (by exact (rfl : _ = [_, _, _, _, _]))) ?_))
  refine s_q rfl rfl (q_mv (.inr rfl) (is_sc rfl)) ?_
  refine s_nil (n_n (w_seq (w_seq (w_reg (s_q rfl rfl (q_mv (.inl rfl) (is_sc rfl)) ?_)))))
  refine s_nil (n_n (w_block (w_seq (w_seq (w_reg (s_q rfl rfl (q_eqs rfl rfl rfl) ?_))))))
  refine s_q rfl rfl (q_mv (.inr rfl) (is_sc rfl)) ?_
  refine s_nil (n_n (w_ifF rfl (w_seq (w_reg (s_q rfl rfl (q_eqs rfl rfl rfl) ?_)))))
  refine s_q rfl rfl (q_mv (.inr rfl) (is_sc rfl)) ?_
  refine s_nil (n_n (w_ifF rfl (w_seq (w_reg (s_q rfl rfl (q_eqs rfl rfl rfl) ?_)))))
  refine s_q rfl rfl (q_mv (.inr rfl) (is_sc rfl)) ?_
  refine s_nil (n_n (w_ifF rfl (w_seq (w_reg (s_q rfl rfl (q_eqs rfl rfl rfl) ?_)))))
  refine s_q rfl rfl (q_mv (.inr rfl) (is_sc rfl)) ?_
  refine s_nil (n_n (w_ifF rfl (w_seq (w_reg (s_q rfl rfl (q_eqs rfl rfl rfl) ?_)))))
  refine s_q rfl rfl (q_mv (.inr rfl) (is_sc rfl)) ?_
  refine s_nil (n_n (w_ifF rfl (w_seq (w_reg (s_q rfl rfl (q_eqs rfl rfl rfl) ?_)))))
  refine s_q rfl rfl (q_mv (.inr rfl) (is_sc rfl)) ?_
  refine s_nil (n_n (w_ifF rfl (w_seq (w_reg (s_q rfl rfl (q_eqs rfl rfl rfl) ?_)))))
  refine s_q rfl rfl (q_mv (.inr rfl) (is_sc rfl)) ?_
  refine s_nil (n_n (w_ifF rfl (w_seq (w_reg (s_q rfl rfl (q_eqs rfl rfl rfl) ?_)))))
  refine s_q rfl rfl (q_mv (.inr rfl) (is_sc rfl)) ?_
  refine s_nil (n_n (w_ifF rfl (w_seq (w_reg (s_q rfl rfl (q_eqs rfl rfl rfl) ?_)))))
  refine s_q rfl rfl (q_mv (.inr rfl) (is_sc rfl)) ?_
  refine s_nil (n_n (w_ifF rfl (w_seq (w_reg (s_q rfl rfl (q_eqs rfl rfl rfl) ?_)))))
  refine s_q rfl rfl (q_mv (.inr rfl) (is_sc rfl)) ?_
  refine s_nil (n_n (w_ifF rfl (w_seq (w_reg (s_q rfl rfl (q_eqs rfl rfl rfl) ?_)))))
  refine s_q rfl rfl (q_mv (.inr rfl) (is_sc rfl)) ?_
  refine s_nil (n_n (w_ifF rfl (w_reg (s_q rfl rfl (q_eqs rfl rfl rfl) ?_))))
  refine s_q rfl rfl (q_mv (.inr rfl) (is_sc rfl)) ?_
  refine s_nil (n_n (w_ifF rfl (w_seq (w_seq (w_reg (s_q rfl rfl (q_eqs rfl rfl rfl) ?_))))))
  refine s_q rfl rfl (q_mv (.inr rfl) (is_sc rfl)) ?_
  refine s_nil (n_n (w_ifF rfl (w_seq (w_reg (s_q rfl rfl (q_eqs rfl rfl rfl) ?_)))))
  refine s_q rfl rfl (q_mv (.inr rfl) (is_sc rfl)) ?_
  refine s_nil (n_n (w_ifF rfl (w_seq (w_reg (s_q rfl rfl (q_eqs rfl rfl rfl) ?_)))))
  refine s_q rfl rfl (q_mv (.inr rfl) (is_sc rfl)) ?_
  refine s_nil (n_n (w_ifF rfl (w_seq (w_reg (s_q rfl rfl (q_eqs rfl rfl rfl) ?_)))))
  refine s_q rfl rfl (q_mv (.inr rfl) (is_sc rfl)) ?_
  refine s_nil (n_n (w_ifF rfl (w_seq (w_reg (s_q rfl rfl (q_eqs rfl rfl rfl) ?_)))))
  refine s_q rfl rfl (q_mv (.inr rfl) (is_sc rfl)) ?_
  refine s_nil (n_n (w_ifF rfl (w_seq (w_reg (s_q rfl rfl (q_eqs rfl rfl rfl) ?_)))))
  refine s_q rfl rfl (q_mv (.inr rfl) (is_sc rfl)) ?_
  refine s_nil (n_n (w_ifF rfl (w_seq (w_reg (s_q rfl rfl (q_eqs rfl rfl rfl) ?_)))))
  refine s_q rfl rfl (q_mv (.inr rfl) (is_sc rfl)) ?_
  refine s_nil (n_n (w_ifF rfl (w_seq (w_reg (s_q rfl rfl (q_eqs rfl rfl rfl) ?_)))))
  refine s_q rfl rfl (q_mv (.inr rfl) (is_sc rfl)) ?_
  refine s_nil (n_n (w_ifF rfl (w_seq (w_reg (s_q rfl rfl (q_eqs rfl rfl rfl) ?_)))))
  refine s_q rfl rfl (q_mv (.inr rfl) (is_sc rfl)) ?_
  refine s_nil (n_n (w_ifF rfl (w_seq (w_reg (s_q rfl rfl (q_eqs rfl rfl rfl) ?_)))))
  refine s_q rfl rfl (q_mv (.inr rfl) (is_sc rfl)) ?_
  refine s_nil (n_n (w_ifF rfl (w_seq (w_reg (s_q rfl rfl (q_eqs rfl rfl rfl) ?_)))))
  refine s_q rfl rfl (q_mv (.inr rfl) (is_sc rfl)) ?_
  refine s_nil (n_n (w_ifF rfl (w_seq (w_reg (s_q rfl rfl (q_eqs rfl rfl rfl) ?_)))))
  refine s_q rfl rfl (q_mv (.inr rfl) (is_sc rfl)) ?_
  refine s_nil (n_n (w_ifF rfl (w_seq (w_reg (s_q rfl rfl (q_eqs rfl rfl rfl) ?_)))))
  refine s_q rfl rfl (q_mv (.inr rfl) (is_sc rfl)) ?_
  refine s_nil (n_n (w_ifF rfl (w_seq (w_reg (s_q rfl rfl (q_eqs rfl rfl rfl) ?_)))))
  refine s_q rfl rfl (q_mv (.inr rfl) (is_sc rfl)) ?_
  refine s_nil (n_n (w_ifF rfl (w_reg (s_q rfl rfl (q_eqs rfl rfl rfl) ?_))))
  refine s_q rfl rfl (q_mv (.inr rfl) (is_sc rfl)) ?_
  refine s_nil (n_n (w_ifF rfl (w_seq (w_seq (w_reg (s_q rfl rfl (q_eqs rfl rfl rfl) ?_))))))
  refine s_q rfl rfl (q_mv (.inr rfl) (is_sc rfl)) ?_
  refine s_nil (n_n (w_ifF rfl (w_seq (w_reg (s_q rfl rfl (q_eqs rfl rfl rfl) ?_)))))
  refine s_q rfl rfl (q_mv (.inr rfl) (is_sc rfl)) ?_
  refine s_nil (n_n (w_ifF rfl (w_reg (s_q rfl rfl (q_eqs rfl rfl rfl) ?_))))
  refine s_q rfl rfl (q_mv (.inr rfl) (is_sc rfl)) ?_
  refine s_nil (n_n (w_ifF rfl (w_seq (w_seq (w_reg (s_q rfl rfl (q_eqs rfl rfl rfl) ?_))))))
  refine s_q rfl rfl (q_mv (.inr rfl) (is_sc rfl)) ?_
  refine s_nil (n_n (w_ifF rfl (w_reg (s_q rfl rfl (q_eqs rfl rfl rfl) ?_))))
  refine s_q rfl rfl (q_mv (.inr rfl) (is_sc rfl)) ?_
  refine s_nil (n_n (w_ifF rfl (w_seq (w_seq (w_reg (s_q rfl rfl (q_eqs rfl rfl rfl) ?_))))))
  refine s_q rfl rfl (q_mv (.inr rfl) (is_sc rfl)) ?_
  refine s_nil (n_n (w_ifF rfl (w_seq (w_reg (s_q rfl rfl (q_eqs rfl rfl rfl) ?_)))))
  refine s_q rfl rfl (q_mv (.inr rfl) (is_sc rfl)) ?_
  refine s_nil (n_n (w_ifF rfl (w_seq (w_reg (s_q rfl rfl (q_eqs rfl rfl rfl) ?_)))))
  refine s_q rfl rfl (q_mv (.inr rfl) (is_sc rfl)) ?_
  refine s_nil (n_n (w_ifF rfl (w_seq (w_reg (s_q rfl rfl (q_eqs rfl rfl rfl) ?_)))))
  refine s_q rfl rfl (q_mv (.inr rfl) (is_sc rfl)) ?_
  refine s_nil (n_n (w_ifT rfl (w_skip (n_n (w_ifT rfl (w_seq (w_reg (s_q rfl rfl (q_mv (.inl rfl) (is_sc rfl)) ?_))))))))
  refine s_q rfl rfl (q_mv (.inl rfl) (by first | exact is_im rfl | exact is_gs rfl | exact is_lit rfl | exact is_ms rfl | exact is_sc rfl | exact rfl)) ?_
  refine s_q rfl rfl (q_call rfl rfl rfl rfl (pf_bits_BITLSHIFT n k hn hn2 hk hk2)) ?_
  refine s_u rfl rfl (as_st rfl rfl (by first | exact (rfl : _ = D.agg [_, _, _, _, _]) | exact rfl) rfl (by exact rfl) (by exact rfl) (by exact Nat.le_of_ble_eq_true rfl) (by exact (rfl : _ = [_, _, _, _, _]))) ?_
  refine s_q rfl rfl (q_mv (.inr rfl) (is_sc rfl)) ?_
  refine s_nil (n_n (w_ret (b_r (n_r ?_))))
  -- end 0
  refine r_r (ra_cell (by exact (rfl : _ = some (D.agg [_, _, _, _, _]))) (ra_tmp (is_sc rfl) ra_nil)) (by exact (rfl : _ = D.tup [_, _])) (by exact rfl) sub_no ?_
  rfl


-- pub-tallysheet/spec.CallOver
theorem pf_CallOver_BITLSHIFTN (n k : Int) (hn : ¬ (99999999999 < n ∨ n < -99999999999)) (hn2 : n ≤ 1048576) (hk : 0 ≤ k) (hk2 : k ≤ 20) : PF Tryz.prog G 34 [st [66, 73, 84, 76, 83, 72, 73, 70, 84], lst [num n 1, num k 1], lst [num n 1, num k 1]] (shlV n k).d := by
  refine PC.intro rfl Tryz.func34 rfl (Nat.le_of_ble_eq_true rfl) rfl ?_
  refine w_seq (w_reg (s_s rfl rfl (as_alloc0 (id := 0) rfl rfl (by exact (rfl : _ = [_, _, _, _, _]))) ?_))
  refine s_nil (n_n (w_seq (w_seq (w_reg (s_q rfl rfl (q_mv (.inl rfl) (is_sc rfl)) ?_)))))
  refine s_q rfl rfl (q_mv (.inl rfl) (by first | exact is_im rfl | exact is_gs rfl | exact is_lit rfl | exact is_ms rfl | exact is_sc rfl | exact rfl)) ?_
  refine s_q rfl rfl (q_call rfl rfl rfl rfl (pf_Fits_BITLSHIFTN n k hn hn2 hk hk2)) ?_
  refine s_q rfl rfl (q_not rfl rfl) ?_
  refine s_nil (n_n (w_ifF rfl (w_skip (n_n (w_seq (w_seq (w_reg (s_q rfl rfl (q_mv (.inl rfl) (is_sc rfl)) ?_))))))))
  refine s_q rfl rfl (q_mv (.inl rfl) (by first | exact is_im rfl | exact is_gs rfl | exact is_lit rfl | exact is_ms rfl | exact is_sc rfl | exact rfl)) ?_
  refine s_q rfl rfl (q_call rfl rfl rfl rfl (no_Stat_BITLSHIFT _)) ?_
  refine s_q rfl rfl (q_mv (.inl rfl) (by first | exact (rfl : _ = D.tup [_, _]) | exact rfl)) ?_
  refine s_q rfl rfl (q_extract rfl rfl rfl) ?_
  refine s_q rfl rfl (q_extract rfl rfl rfl) ?_
  refine s_s rfl rfl (as_alloc0 (id := 1) rfl rfl (by exact (rfl : _ = [_, _, _, _, _]))) ?_
  refine s_u rfl rfl (as_st rfl rfl (by first | exact (rfl : _ = D.agg [_, _, _, _, _]) | exact rfl) rfl (by exact rfl) (by exact rfl) (by exact Nat.le_of_ble_eq_true rfl) (by exact (rfl : _ = [_, _, _, _, _]))) ?_
  refine s_q rfl rfl (q_mv (.inr rfl) (is_sc rfl)) ?_
  refine s_nil (n_n (w_seq (w_reg (s_q rfl rfl (q_mv (.inl rfl) (is_sc rfl)) ?_))))
  refine s_nil (n_n (w_ifF rfl (w_skip (n_n (w_seq (w_seq (w_reg (s_q rfl rfl (q_mv (.inl rfl) (is_sc rfl)) ?_))))))))
  refine s_q rfl rfl (q_mv (.inl rfl) (by first | exact is_im rfl | exact is_gs rfl | exact is_lit rfl | exact is_ms rfl | exact is_sc rfl | exact rfl)) ?_
  refine s_q rfl rfl (q_call rfl rfl rfl rfl (no_Criteria_BITLSHIFT _)) ?_
  refine s_q rfl rfl (q_mv (.inl rfl) (by first | exact (rfl : _ = D.tup [_, _]) | exact rfl)) ?_
  refine s_q rfl rfl (q_extract rfl rfl rfl) ?_
  refine s_q rfl rfl (q_extract rfl rfl rfl) ?_
  refine s_s rfl rfl (as_alloc0 (id := 2) rfl rfl (by exact (rfl : _ = [_, _, _, _, _]))) ?_
  refine s_u rfl rfl (as_st rfl rfl (by first | exact (rfl : _ = D.agg [_, _, _, _, _]) | exact rfl) rfl (by exact rfl) (by exact rfl) (by exact Nat.le_of_ble_eq_true rfl) (by exact (rfl : _ = [_, _, _, _, _]))) ?_
  refine s_q rfl rfl (q_mv (.inr rfl) (is_sc rfl)) ?_
  refine s_nil (n_n (w_seq (w_reg (s_q rfl rfl (q_mv (.inl rfl) (is_sc rfl)) ?_))))
  refine s_nil (n_n (w_ifF rfl (w_skip (n_n (w_seq (w_seq (w_reg (s_q rfl rfl (q_mv (.inl rfl) (is_sc rfl)) ?_))))))))
  refine s_q rfl rfl (q_mv (.inl rfl) (by first | exact is_im rfl | exact is_gs rfl | exact is_lit rfl | exact is_ms rfl | exact is_sc rfl | exact rfl)) ?_
  refine s_q rfl rfl (q_call rfl rfl rfl rfl (no_Lookup_BITLSHIFT _)) ?_
  refine s_q rfl rfl (q_mv (.inl rfl) (by first | exact (rfl : _ = D.tup [_, _]) | exact rfl)) ?_
  refine s_q rfl rfl (q_extract rfl rfl rfl) ?_
  refine s_q rfl rfl (q_extract rfl rfl rfl) ?_
  refine s_s rfl rfl (as_alloc0 (id := 3) rfl rfl (by exact (rfl : _ = [_, _, _, _, _]))) ?_
  refine s_u rfl rfl (as_st rfl rfl (by first | exact (rfl : _ = D.agg [_, _, _, _, _]) | exact rfl) rfl (by exact rfl) (by exact rfl) (by exact Nat.le_of_ble_eq_true rfl) (by exact (rfl : _ = [_, _, _, _, _]))) ?_
  refine s_q rfl rfl (q_mv (.inr rfl) (is_sc rfl)) ?_
  refine s_nil (n_n (w_seq (w_reg (s_q rfl rfl (q_mv (.inl rfl) (is_sc rfl)) ?_))))
  refine s_nil (n_n (w_ifF rfl (w_skip (n_n (w_seq (w_seq (w_reg (s_q rfl rfl (q_mv (.inl rfl) (is_sc rfl)) ?_))))))))
  refine s_q rfl rfl (q_mv (.inl rfl) (by first | exact is_im rfl | exact is_gs rfl | exact is_lit rfl | exact is_ms rfl | exact is_sc rfl | exact rfl)) ?_
  refine s_q rfl rfl (q_call rfl rfl rfl rfl (pf_CallMath_BITLSHIFTN n k hn hn2 hk hk2)) ?_
  refine s_q rfl rfl (q_mv (.inl rfl) (by first | exact (rfl : _ = D.tup [_, _]) | exact rfl)) ?_
  refine s_q rfl rfl (q_extract rfl rfl rfl) ?_
  refine s_q rfl rfl (q_extract rfl rfl rfl) ?_
  refine s_s rfl rfl (as_alloc0 (id := 4) rfl rfl (by exact (rfl : _ = [_, _, _, _, _]))) ?_
  refine s_u rfl rfl (as_st rfl rfl (by first | exact (rfl : _ = D.agg [_, _, _, _, _]) | exact rfl) rfl (by exact rfl) (by exact rfl) (by exact Nat.le_of_ble_eq_true rfl) (by exact (rfl : _ = [_, _, _, _, _]))) ?_
  refine s_q rfl rfl (q_mv (.inr rfl) (is_sc rfl)) ?_
  refine s_nil (n_n (w_seq (w_reg (s_q rfl rfl (q_mv (.inl rfl) (is_sc rfl)) ?_))))
  refine s_nil (n_n (w_ifT rfl (w_seq (w_reg (s_q rfl rfl (q_load rfl rfl (by exact (rfl : _ = some (D.agg [_, _, _, _, _])))) ?_)))))
  refine s_u rfl rfl (as_st rfl rfl (by first | exact (rfl : _ = D.agg [_, _, _, _, _]) | exact rfl) rfl (by exact rfl) (by exact rfl) (by exact Nat.le_of_ble_eq_true rfl) (by exact (rfl : _ = [_, _, _, _, _]))) ?_
  refine s_nil (n_n (w_ret (n_r ?_)))
  -- end 0
  refine r_r (ra_cell (by exact (rfl : _ = some (D.agg [_, _, _, _, _]))) ra_nil) (by first | exact (rfl : _ = D.agg [_, _, _, _, _]) | exact rfl) (by exact rfl) sub_no ?_
  rfl


-- pub-tallysheet/spec.Call
theorem pf_Call_BITLSHIFTN (n k : Int) (hn : ¬ (99999999999 < n ∨ n < -99999999999)) (hn2 : n ≤ 1048576) (hk : 0 ≤ k) (hk2 : k ≤ 20) : PF Tryz.prog G 19 [st [66, 73, 84, 76, 83, 72, 73, 70, 84], lst [num n 1, num k 1]] (shlV n k).d := by
  refine PC.intro rfl Tryz.func19 rfl (Nat.le_of_ble_eq_true rfl) rfl ?_
  refine w_seq (w_reg (s_s rfl rfl (as_alloc0 (id := 0) rfl rfl (by exact (rfl : _ = [_, _, _, _, _]))) ?_))
  refine s_nil (n_n (w_seq (w_reg (s_q rfl rfl (q_mv (.inl rfl) (is_sc rfl)) ?_))))
  refine s_q rfl rfl (q_mv (.inl rfl) (by first | exact is_im rfl | exact is_gs rfl | exact is_lit rfl | exact is_ms rfl | exact is_sc rfl | exact rfl)) ?_
  refine s_q rfl rfl (q_mv (.inl rfl) (by first | exact is_im rfl | exact is_gs rfl | exact is_lit rfl | exact is_ms rfl | exact is_sc rfl | exact rfl)) ?_
  refine s_q rfl rfl (q_call rfl rfl rfl rfl (pf_CallOver_BITLSHIFTN n k hn hn2 hk hk2)) ?_
  refine s_u rfl rfl (as_st rfl rfl (by first | exact (rfl : _ = D.agg [_, _, _, _, _]) | exact rfl) rfl (by exact rfl) (by exact rfl) (by exact Nat.le_of_ble_eq_true rfl) (by exact (rfl : _ = [_, _, _, _, _]))) ?_
  refine s_nil (n_n (w_ret ?_))
  -- end 0
  refine r_r (ra_cell (by exact (rfl : _ = some (D.agg [_, _, _, _, _]))) ra_nil) (by first | exact (rfl : _ = D.agg [_, _, _, _, _]) | exact rfl) (by exact rfl) sub_no ?_
  rfl


-- pub-tallysheet/spec.fitsNumbers
theorem pf_fitsNumbers_BITLSHIFTF1 (n k : Int) (hn : ¬ (99999999999 < n ∨ n < -99999999999)) (hf : ¬ (-99999999999 ≤ n ∧ n ≤ 1048576)) : PF Tryz.prog G 73 [st [66, 73, 84, 76, 83, 72, 73, 70, 84], lst [num n 1, num k 1]] (.tup [bl false, bl true]) := by
  refine PC.intro rfl Tryz.func73 rfl (Nat.le_of_ble_eq_true rfl) rfl ?_
  refine w_seq (w_reg (s_q rfl rfl (q_mv (.inr rfl) (is_sc rfl)) ?_))
  refine s_q rfl rfl (q_mv (.inr rfl) (is_sc rfl)) ?_
  refine s_nil (n_n (w_seq (w_reg (s_q rfl rfl (q_mv (.inl rfl) (by first | exact is_im rfl | exact is_gs rfl | exact is_lit rfl | exact is_ms rfl | exact is_sc rfl | exact rfl)) ?_))))
  refine s_q rfl rfl (q_len rfl rfl rfl) ?_
  refine s_q rfl rfl (q_mv (.inr rfl) (is_sc rfl)) ?_
  refine s_nil (n_n (w_seq (w_reg (s_q rfl rfl (q_mv (.inl rfl) (by first | exact is_im rfl | exact is_gs rfl | exact is_lit rfl | exact is_ms rfl | exact is_sc rfl | exact rfl)) ?_))))
  refine s_q rfl rfl (q_call rfl rfl rfl rfl (pf_every _ (by simp only [List.length_cons, List.length_nil]; omega) 163 (fun v => decide (v.kind = 1)) (fun v hv => by
      rcases List.mem_cons.1 hv with rfl | hv
      · exact pf_numericN _ _
      rcases List.mem_cons.1 hv with rfl | hv
      · exact pf_numericN _ _
      cases hv))) ?_
  refine s_q rfl rfl (q_mv (.inr rfl) (is_sc rfl)) ?_
  refine s_nil (n_n (w_seq (w_seq (w_reg (s_q rfl rfl (q_mv (.inl rfl) (is_sc rfl)) ?_)))))
  refine s_nil (n_n (w_block (w_seq (w_seq (w_reg (s_q rfl rfl (q_eqs rfl rfl rfl) ?_))))))
  refine s_q rfl rfl (q_mv (.inr rfl) (is_sc rfl)) ?_
  refine s_nil (n_n (w_ifF rfl (w_seq (w_reg (s_q rfl rfl (q_eqs rfl rfl rfl) ?_)))))
  refine s_q rfl rfl (q_mv (.inr rfl) (is_sc rfl)) ?_
  refine s_nil (n_n (w_ifF rfl (w_seq (w_reg (s_q rfl rfl (q_eqs rfl rfl rfl) ?_)))))
  refine s_q rfl rfl (q_mv (.inr rfl) (is_sc rfl)) ?_
  refine s_nil (n_n (w_ifF rfl (w_seq (w_reg (s_q rfl rfl (q_eqs rfl rfl rfl) ?_)))))
  refine s_q rfl rfl (q_mv (.inr rfl) (is_sc rfl)) ?_
  refine s_nil (n_n (w_ifF rfl (w_reg (s_q rfl rfl (q_eqs rfl rfl rfl) ?_))))
  refine s_q rfl rfl (q_mv (.inr rfl) (is_sc rfl)) ?_
  refine s_nil (n_n (w_ifF rfl (w_seq (w_reg (s_q rfl rfl (q_eqs rfl rfl rfl) ?_)))))
  refine s_q rfl rfl (q_mv (.inr rfl) (is_sc rfl)) ?_
  refine s_nil (n_n (w_ifF rfl (w_seq (w_seq (w_reg (s_q rfl rfl (q_eqs rfl rfl rfl) ?_))))))
  refine s_q rfl rfl (q_mv (.inr rfl) (is_sc rfl)) ?_
  refine s_nil (n_n (w_ifF rfl (w_reg (s_q rfl rfl (q_eqs rfl rfl rfl) ?_))))
  refine s_q rfl rfl (q_mv (.inr rfl) (is_sc rfl)) ?_
  refine s_nil (n_n (w_ifF rfl (w_seq (w_seq (w_reg (s_q rfl rfl (q_eqs rfl rfl rfl) ?_))))))
  refine s_q rfl rfl (q_mv (.inr rfl) (is_sc rfl)) ?_
  refine s_nil (n_n (w_ifF rfl (w_reg (s_q rfl rfl (q_eqs rfl rfl rfl) ?_))))
  refine s_q rfl rfl (q_mv (.inr rfl) (is_sc rfl)) ?_
  refine s_nil (n_n (w_ifF rfl (w_seq (w_seq (w_reg (s_q rfl rfl (q_eqs rfl rfl rfl) ?_))))))
  refine s_q rfl rfl (q_mv (.inr rfl) (is_sc rfl)) ?_
  refine s_nil (n_n (w_ifF rfl (w_reg (s_q rfl rfl (q_eqs rfl rfl rfl) ?_))))
  refine s_q rfl rfl (q_mv (.inr rfl) (is_sc rfl)) ?_
  refine s_nil (n_n (w_ifF rfl (w_seq (w_seq (w_reg (s_q rfl rfl (q_eqs rfl rfl rfl) ?_))))))
  refine s_q rfl rfl (q_mv (.inr rfl) (is_sc rfl)) ?_
  refine s_nil (n_n (w_ifF rfl (w_seq (w_reg (s_q rfl rfl (q_eqs rfl rfl rfl) ?_)))))
  refine s_q rfl rfl (q_mv (.inr rfl) (is_sc rfl)) ?_
  refine s_nil (n_n (w_ifF rfl (w_reg (s_q rfl rfl (q_eqs rfl rfl rfl) ?_))))
  refine s_q rfl rfl (q_mv (.inr rfl) (is_sc rfl)) ?_
  refine s_nil (n_n (w_ifF rfl (w_seq (w_seq (w_reg (s_q rfl rfl (q_eqs rfl rfl rfl) ?_))))))
  refine s_q rfl rfl (q_mv (.inr rfl) (is_sc rfl)) ?_
  refine s_nil (n_n (w_ifT rfl (w_skip (n_n (w_ifT rfl (w_seq (w_reg (s_q rfl rfl (q_mv (.inl rfl) (is_sc rfl)) ?_))))))))
  refine s_q rfl rfl (q_eql rfl rfl rfl) ?_
  refine s_q rfl rfl (q_mv (.inl rfl) (is_sc rfl)) ?_
  refine s_q rfl rfl (q_mv (.inl rfl) (by first | exact is_im rfl | exact is_gs rfl | exact is_lit rfl | exact is_ms rfl | exact is_sc rfl | exact rfl)) ?_
  refine s_q rfl rfl (q_index rfl rfl rfl rfl (by simp) (by simp)) ?_
  refine s_q rfl rfl (q_field rfl rfl (by exact rfl)) ?_
  refine s_q rfl rfl (q_load rfl rfl (by exact (rfl : _ = some (D.sc _)))) ?_
  refine s_q rfl rfl (q_neq rfl rfl rfl) ?_
  refine s_q rfl rfl (q_pickT rfl rfl (is_sc rfl)) ?_
  refine s_q rfl rfl (q_mv (.inl rfl) (is_sc rfl)) ?_
  refine s_q rfl rfl (q_mv (.inl rfl) (by first | exact is_im rfl | exact is_gs rfl | exact is_lit rfl | exact is_ms rfl | exact is_sc rfl | exact rfl)) ?_
  refine s_q rfl rfl (q_index rfl rfl rfl rfl (by simp) (by simp)) ?_
  refine s_q rfl rfl (q_field rfl rfl (by exact rfl)) ?_
  refine s_q rfl rfl (q_load rfl rfl (by exact (rfl : _ = some (D.sc _)))) ?_
  refine s_q rfl rfl (q_neq rfl rfl rfl) ?_
  refine s_q rfl rfl (q_pickT rfl rfl (is_sc rfl)) ?_
  refine s_q rfl rfl (q_mv (.inl rfl) (is_sc rfl)) ?_
  refine s_q rfl rfl (q_mv (.inl rfl) (by first | exact is_im rfl | exact is_gs rfl | exact is_lit rfl | exact is_ms rfl | exact is_sc rfl | exact rfl)) ?_
  refine s_q rfl rfl (q_index rfl rfl rfl rfl (by simp) (by simp)) ?_
  refine s_q rfl rfl (q_load rfl rfl (by exact (rfl : _ = some (D.agg [_, _, _, _, _])))) ?_
  refine s_q rfl rfl (q_call rfl rfl rfl rfl (pf_betweenF _ _ _ hf)) ?_
  refine s_q rfl rfl (q_pickT rfl rfl (is_sc rfl)) ?_
  refine s_q rfl rfl (q_mv (.inl rfl) (is_sc rfl)) ?_
  refine s_off rfl rfl ?_
  refine s_off rfl rfl ?_
  refine s_off rfl rfl ?_
  refine s_off rfl rfl ?_
  refine s_q rfl rfl (q_pickF rfl rfl (is_sc rfl)) ?_
  refine s_q rfl rfl (q_mv (.inr rfl) (is_sc rfl)) ?_
  refine s_q rfl rfl (q_mv (.inr rfl) (is_sc rfl)) ?_
  refine s_nil (n_n (w_ret (b_r (n_r ?_))))
  -- end 0
  refine r_r (ra_tmp (is_sc rfl) (ra_tmp (is_sc rfl) ra_nil)) (by exact (rfl : _ = D.tup [_, _])) (by exact rfl) sub_no ?_
  rfl


-- pub-tallysheet/spec.Fits
theorem pf_Fits_BITLSHIFTF1 (n k : Int) (hn : ¬ (99999999999 < n ∨ n < -99999999999)) (hf : ¬ (-99999999999 ≤ n ∧ n ≤ 1048576)) : PF Tryz.prog G 47 [st [66, 73, 84, 76, 83, 72, 73, 70, 84], lst [num n 1, num k 1]] (bl false) := by
  refine PC.intro rfl Tryz.func47 rfl (Nat.le_of_ble_eq_true rfl) rfl ?_
  refine w_seq (w_reg (s_q rfl rfl (q_mv (.inr rfl) (is_sc rfl)) ?_))
  refine s_nil (n_n (w_seq (w_seq (w_reg (s_q rfl rfl (q_mv (.inl rfl) (is_sc rfl)) ?_)))))
  refine s_q rfl rfl (q_mv (.inl rfl) (by first | exact is_im rfl | exact is_gs rfl | exact is_lit rfl | exact is_ms rfl | exact is_sc rfl | exact rfl)) ?_
  refine s_q rfl rfl (q_call rfl rfl rfl rfl (pf_fitsNumbers_BITLSHIFTF1 n k hn hf)) ?_
  refine s_q rfl rfl (q_mv (.inl rfl) (by first | exact (rfl : _ = D.tup [_, _]) | exact rfl)) ?_
  refine s_q rfl rfl (q_extract rfl rfl rfl) ?_
  refine s_q rfl rfl (q_extract rfl rfl rfl) ?_
  refine s_q rfl rfl (q_mv (.inr rfl) (is_sc rfl)) ?_
  refine s_q rfl rfl (q_mv (.inr rfl) (is_sc rfl)) ?_
  refine s_nil (n_n (w_seq (w_reg (s_q rfl rfl (q_mv (.inl rfl) (is_sc rfl)) ?_))))
  refine s_nil (n_n (w_ifT rfl (w_seq (w_reg (s_q rfl rfl (q_mv (.inl rfl) (is_sc rfl)) ?_)))))
  refine s_q rfl rfl (q_mv (.inr rfl) (is_sc rfl)) ?_
  refine s_nil (n_n (w_ret (n_r ?_)))
  -- end 0
  refine r_r (ra_tmp (is_sc rfl) ra_nil) (by exact (is_sc rfl)) (by exact rfl) sub_no ?_
  rfl


-- pub-tallysheet/spec.CallOver
theorem pf_CallOver_BITLSHIFTF1 (n k : Int) (hn : ¬ (99999999999 < n ∨ n < -99999999999)) (hf : ¬ (-99999999999 ≤ n ∧ n ≤ 1048576)) : PF Tryz.prog G 34 [st [66, 73, 84, 76, 83, 72, 73, 70, 84], lst [num n 1, num k 1], lst [num n 1, num k 1]] (doubt).d := by
  refine PC.intro rfl Tryz.func34 rfl (Nat.le_of_ble_eq_true rfl) rfl ?_
  refine w_seq (w_reg (s_s rfl rfl (as_alloc0 (id := 0) rfl rfl (by exact (rfl : _ = [_, _, _, _, _]))) ?_))
  refine s_nil (n_n (w_seq (w_seq (w_reg (s_q rfl rfl (q_mv (.inl rfl) (is_sc rfl)) ?_)))))
  refine s_q rfl rfl (q_mv (.inl rfl) (by first | exact is_im rfl | exact is_gs rfl | exact is_lit rfl | exact is_ms rfl | exact is_sc rfl | exact rfl)) ?_
  refine s_q rfl rfl (q_call rfl rfl rfl rfl (pf_Fits_BITLSHIFTF1 n k hn hf)) ?_
  refine s_q rfl rfl (q_not rfl rfl) ?_
  refine s_nil (n_n (w_ifT rfl (w_seq (w_reg (s_q rfl rfl (q_call rfl rfl rfl rfl pf_doubt) ?_)))))
  refine s_u rfl rfl (as_st rfl rfl (by first | exact (rfl : _ = D.agg [_, _, _, _, _]) | exact rfl) rfl (by exact rfl) (by exact rfl) (by exact Nat.le_of_ble_eq_true rfl) (by exact (rfl : _ = [_, _, _, _, _]))) ?_
  refine s_nil (n_n (w_ret (n_r ?_)))
  -- end 0
  refine r_r (ra_cell (by exact (rfl : _ = some (D.agg [_, _, _, _, _]))) ra_nil) (by first | exact (rfl : _ = D.agg [_, _, _, _, _]) | exact rfl) (by exact rfl) sub_no ?_
  rfl


-- pub-tallysheet/spec.Call
theorem pf_Call_BITLSHIFTF1 (n k : Int) (hn : ¬ (99999999999 < n ∨ n < -99999999999)) (hf : ¬ (-99999999999 ≤ n ∧ n ≤ 1048576)) : PF Tryz.prog G 19 [st [66, 73, 84, 76, 83, 72, 73, 70, 84], lst [num n 1, num k 1]] (doubt).d := by
  refine PC.intro rfl Tryz.func19 rfl (Nat.le_of_ble_eq_true rfl) rfl ?_
  refine w_seq (w_reg (s_s rfl rfl (as_alloc0 (id := 0) rfl rfl (by exact (rfl : _ = [_, _, _, _, _]))) ?_))
  refine s_nil (n_n (w_seq (w_reg (s_q rfl rfl (q_mv (.inl rfl) (is_sc rfl)) ?_))))
  refine s_q rfl rfl (q_mv (.inl rfl) (by first | exact is_im rfl | exact is_gs rfl | exact is_lit rfl | exact is_ms rfl | exact is_sc rfl | exact rfl)) ?_
  refine s_q rfl rfl (q_mv (.inl rfl) (by first | exact is_im rfl | exact is_gs rfl | exact is_lit rfl | exact is_ms rfl | exact is_sc rfl | exact rfl)) ?_
  refine s_q rfl rfl (q_call rfl rfl rfl rfl (pf_CallOver_BITLSHIFTF1 n k hn hf)) ?_
  refine s_u rfl rfl (as_st rfl rfl (by first | exact (rfl : _ = D.agg [_, _, _, _, _]) | exact rfl) rfl (by exact rfl) (by exact rfl) (by exact Nat.le_of_ble_eq_true rfl) (by exact (rfl : _ = [_, _, _, _, _]))) ?_
  refine s_nil (n_n (w_ret ?_))
  -- end 0
  refine r_r (ra_cell (by exact (rfl : _ = some (D.agg [_, _, _, _, _]))) ra_nil) (by first | exact (rfl : _ = D.agg [_, _, _, _, _]) | exact rfl) (by exact rfl) sub_no ?_
  rfl


-- pub-tallysheet/spec.fitsNumbers
theorem pf_fitsNumbers_BITLSHIFTF2 (n k : Int) (hn : ¬ (99999999999 < n ∨ n < -99999999999)) (hn2 : n ≤ 1048576) (hf : ¬ (0 ≤ k ∧ k ≤ 20)) : PF Tryz.prog G 73 [st [66, 73, 84, 76, 83, 72, 73, 70, 84], lst [num n 1, num k 1]] (.tup [bl false, bl true]) := by
  refine PC.intro rfl Tryz.func73 rfl (Nat.le_of_ble_eq_true rfl) rfl ?_
  refine w_seq (w_reg (s_q rfl rfl (q_mv (.inr rfl) (is_sc rfl)) ?_))
  refine s_q rfl rfl (q_mv (.inr rfl) (is_sc rfl)) ?_
  refine s_nil (n_n (w_seq (w_reg (s_q rfl rfl (q_mv (.inl rfl) (by first | exact is_im rfl | exact is_gs rfl | exact is_lit rfl | exact is_ms rfl | exact is_sc rfl | exact rfl)) ?_))))
  refine s_q rfl rfl (q_len rfl rfl rfl) ?_
  refine s_q rfl rfl (q_mv (.inr rfl) (is_sc rfl)) ?_
  refine s_nil (n_n (w_seq (w_reg (s_q rfl rfl (q_mv (.inl rfl) (by first | exact is_im rfl | exact is_gs rfl | exact is_lit rfl | exact is_ms rfl | exact is_sc rfl | exact rfl)) ?_))))
  refine s_q rfl rfl (q_call rfl rfl rfl rfl (pf_every _ (by simp only [List.length_cons, List.length_nil]; omega) 163 (fun v => decide (v.kind = 1)) (fun v hv => by
      rcases List.mem_cons.1 hv with rfl | hv
      · exact pf_numericN _ _
      rcases List.mem_cons.1 hv with rfl | hv
      · exact pf_numericN _ _
      cases hv))) ?_
  refine s_q rfl rfl (q_mv (.inr rfl) (is_sc rfl)) ?_
  refine s_nil (n_n (w_seq (w_seq (w_reg (s_q rfl rfl (q_mv (.inl rfl) (is_sc rfl)) ?_)))))
  refine s_nil (n_n (w_block (w_seq (w_seq (w_reg (s_q rfl rfl (q_eqs rfl rfl rfl) ?_))))))
  refine s_q rfl rfl (q_mv (.inr rfl) (is_sc rfl)) ?_
  refine s_nil (n_n (w_ifF rfl (w_seq (w_reg (s_q rfl rfl (q_eqs rfl rfl rfl) ?_)))))
  refine s_q rfl rfl (q_mv (.inr rfl) (is_sc rfl)) ?_
  refine s_nil (n_n (w_ifF rfl (w_seq (w_reg (s_q rfl rfl (q_eqs rfl rfl rfl) ?_)))))
  refine s_q rfl rfl (q_mv (.inr rfl) (is_sc rfl)) ?_
  refine s_nil (n_n (w_ifF rfl (w_seq (w_reg (s_q rfl rfl (q_eqs rfl rfl rfl) ?_)))))
  refine s_q rfl rfl (q_mv (.inr rfl) (is_sc rfl)) ?_
  refine s_nil (n_n (w_ifF rfl (w_reg (s_q rfl rfl (q_eqs rfl rfl rfl) ?_))))
  refine s_q rfl rfl (q_mv (.inr rfl) (is_sc rfl)) ?_
  refine s_nil (n_n (w_ifF rfl (w_seq (w_reg (s_q rfl rfl (q_eqs rfl rfl rfl) ?_)))))
  refine s_q rfl rfl (q_mv (.inr rfl) (is_sc rfl)) ?_
  refine s_nil (n_n (w_ifF rfl (w_seq (w_seq (w_reg (s_q rfl rfl (q_eqs rfl rfl rfl) ?_))))))
  refine s_q rfl rfl (q_mv (.inr rfl) (is_sc rfl)) ?_
  refine s_nil (n_n (w_ifF rfl (w_reg (s_q rfl rfl (q_eqs rfl rfl rfl) ?_))))
  refine s_q rfl rfl (q_mv (.inr rfl) (is_sc rfl)) ?_
  refine s_nil (n_n (w_ifF rfl (w_seq (w_seq (w_reg (s_q rfl rfl (q_eqs rfl rfl rfl) ?_))))))
  refine s_q rfl rfl (q_mv (.inr rfl) (is_sc rfl)) ?_
  refine s_nil (n_n (w_ifF rfl (w_reg (s_q rfl rfl (q_eqs rfl rfl rfl) ?_))))
  refine s_q rfl rfl (q_mv (.inr rfl) (is_sc rfl)) ?_
  refine s_nil (n_n (w_ifF rfl (w_seq (w_seq (w_reg (s_q rfl rfl (q_eqs rfl rfl rfl) ?_))))))
  refine s_q rfl rfl (q_mv (.inr rfl) (is_sc rfl)) ?_
  refine s_nil (n_n (w_ifF rfl (w_reg (s_q rfl rfl (q_eqs rfl rfl rfl) ?_))))
  refine s_q rfl rfl (q_mv (.inr rfl) (is_sc rfl)) ?_
  refine s_nil (n_n (w_ifF rfl (w_seq (w_seq (w_reg (s_q rfl rfl (q_eqs rfl rfl rfl) ?_))))))
  refine s_q rfl rfl (q_mv (.inr rfl) (is_sc rfl)) ?_
  refine s_nil (n_n (w_ifF rfl (w_seq (w_reg (s_q rfl rfl (q_eqs rfl rfl rfl) ?_)))))
  refine s_q rfl rfl (q_mv (.inr rfl) (is_sc rfl)) ?_
  refine s_nil (n_n (w_ifF rfl (w_reg (s_q rfl rfl (q_eqs rfl rfl rfl) ?_))))
  refine s_q rfl rfl (q_mv (.inr rfl) (is_sc rfl)) ?_
  refine s_nil (n_n (w_ifF rfl (w_seq (w_seq (w_reg (s_q rfl rfl (q_eqs rfl rfl rfl) ?_))))))
  refine s_q rfl rfl (q_mv (.inr rfl) (is_sc rfl)) ?_
  refine s_nil (n_n (w_ifT rfl (w_skip (n_n (w_ifT rfl (w_seq (w_reg (s_q rfl rfl (q_mv (.inl rfl) (is_sc rfl)) ?_))))))))
  refine s_q rfl rfl (q_eql rfl rfl rfl) ?_
  refine s_q rfl rfl (q_mv (.inl rfl) (is_sc rfl)) ?_
  refine s_q rfl rfl (q_mv (.inl rfl) (by first | exact is_im rfl | exact is_gs rfl | exact is_lit rfl | exact is_ms rfl | exact is_sc rfl | exact rfl)) ?_
  refine s_q rfl rfl (q_index rfl rfl rfl rfl (by simp) (by simp)) ?_
  refine s_q rfl rfl (q_field rfl rfl (by exact rfl)) ?_
  refine s_q rfl rfl (q_load rfl rfl (by exact (rfl : _ = some (D.sc _)))) ?_
  refine s_q rfl rfl (q_neq rfl rfl rfl) ?_
  refine s_q rfl rfl (q_pickT rfl rfl (is_sc rfl)) ?_
  refine s_q rfl rfl (q_mv (.inl rfl) (is_sc rfl)) ?_
  refine s_q rfl rfl (q_mv (.inl rfl) (by first | exact is_im rfl | exact is_gs rfl | exact is_lit rfl | exact is_ms rfl | exact is_sc rfl | exact rfl)) ?_
  refine s_q rfl rfl (q_index rfl rfl rfl rfl (by simp) (by simp)) ?_
  refine s_q rfl rfl (q_field rfl rfl (by exact rfl)) ?_
  refine s_q rfl rfl (q_load rfl rfl (by exact (rfl : _ = some (D.sc _)))) ?_
  refine s_q rfl rfl (q_neq rfl rfl rfl) ?_
  refine s_q rfl rfl (q_pickT rfl rfl (is_sc rfl)) ?_
  refine s_q rfl rfl (q_mv (.inl rfl) (is_sc rfl)) ?_
  refine s_q rfl rfl (q_mv (.inl rfl) (by first | exact is_im rfl | exact is_gs rfl | exact is_lit rfl | exact is_ms rfl | exact is_sc rfl | exact rfl)) ?_
  refine s_q rfl rfl (q_index rfl rfl rfl rfl (by simp) (by simp)) ?_
  refine s_q rfl rfl (q_load rfl rfl (by exact (rfl : _ = some (D.agg [_, _, _, _, _])))) ?_
  refine s_q rfl rfl (q_call rfl rfl rfl rfl (pf_betweenT _ _ _ (by omega) (by omega))) ?_
  refine s_q rfl rfl (q_pickT rfl rfl (is_sc rfl)) ?_
  refine s_q rfl rfl (q_mv (.inl rfl) (is_sc rfl)) ?_
  refine s_q rfl rfl (q_mv (.inl rfl) (by first | exact is_im rfl | exact is_gs rfl | exact is_lit rfl | exact is_ms rfl | exact is_sc rfl | exact rfl)) ?_
  refine s_q rfl rfl (q_index rfl rfl rfl rfl (by simp) (by simp)) ?_
  refine s_q rfl rfl (q_load rfl rfl (by exact (rfl : _ = some (D.agg [_, _, _, _, _])))) ?_
  refine s_q rfl rfl (q_call rfl rfl rfl rfl (pf_betweenF _ _ _ hf)) ?_
  refine s_q rfl rfl (q_pickT rfl rfl (is_sc rfl)) ?_
  refine s_q rfl rfl (q_mv (.inr rfl) (is_sc rfl)) ?_
  refine s_q rfl rfl (q_mv (.inr rfl) (is_sc rfl)) ?_
  refine s_nil (n_n (w_ret (b_r (n_r ?_))))
  -- end 0
  refine r_r (ra_tmp (is_sc rfl) (ra_tmp (is_sc rfl) ra_nil)) (by exact (rfl : _ = D.tup [_, _])) (by exact rfl) sub_no ?_
  rfl


-- pub-tallysheet/spec.Fits
theorem pf_Fits_BITLSHIFTF2 (n k : Int) (hn : ¬ (99999999999 < n ∨ n < -99999999999)) (hn2 : n ≤ 1048576) (hf : ¬ (0 ≤ k ∧ k ≤ 20)) : PF Tryz.prog G 47 [st [66, 73, 84, 76, 83, 72, 73, 70, 84], lst [num n 1, num k 1]] (bl false) := by
  refine PC.intro rfl Tryz.func47 rfl (Nat.le_of_ble_eq_true rfl) rfl ?_
  refine w_seq (w_reg (s_q rfl rfl (q_mv (.inr rfl) (is_sc rfl)) ?_))
  refine s_nil (n_n (w_seq (w_seq (w_reg (s_q rfl rfl (q_mv (.inl rfl) (is_sc rfl)) ?_)))))
  refine s_q rfl rfl (q_mv (.inl rfl) (by first | exact is_im rfl | exact is_gs rfl | exact is_lit rfl | exact is_ms rfl | exact is_sc rfl | exact rfl)) ?_
  refine s_q rfl rfl (q_call rfl rfl rfl rfl (pf_fitsNumbers_BITLSHIFTF2 n k hn hn2 hf)) ?_
  refine s_q rfl rfl (q_mv (.inl rfl) (by first | exact (rfl : _ = D.tup [_, _]) | exact rfl)) ?_
  refine s_q rfl rfl (q_extract rfl rfl rfl) ?_
  refine s_q rfl rfl (q_extract rfl rfl rfl) ?_
  refine s_q rfl rfl (q_mv (.inr rfl) (is_sc rfl)) ?_
  refine s_q rfl rfl (q_mv (.inr rfl) (is_sc rfl)) ?_
  refine s_nil (n_n (w_seq (w_reg (s_q rfl rfl (q_mv (.inl rfl) (is_sc rfl)) ?_))))
  refine s_nil (n_n (w_ifT rfl (w_seq (w_reg (s_q rfl rfl (q_mv (.inl rfl) (is_sc rfl)) ?_)))))
  refine s_q rfl rfl (q_mv (.inr rfl) (is_sc rfl)) ?_
  refine s_nil (n_n (w_ret (n_r ?_)))
  -- end 0
  refine r_r (ra_tmp (is_sc rfl) ra_nil) (by exact (is_sc rfl)) (by exact rfl) sub_no ?_
  rfl


-- pub-tallysheet/spec.CallOver
theorem pf_CallOver_BITLSHIFTF2 (n k : Int) (hn : ¬ (99999999999 < n ∨ n < -99999999999)) (hn2 : n ≤ 1048576) (hf : ¬ (0 ≤ k ∧ k ≤ 20)) : PF Tryz.prog G 34 [st [66, 73, 84, 76, 83, 72, 73, 70, 84], lst [num n 1, num k 1], lst [num n 1, num k 1]] (doubt).d := by
  refine PC.intro rfl Tryz.func34 rfl (Nat.le_of_ble_eq_true rfl) rfl ?_
  refine w_seq (w_reg (s_s rfl rfl (as_alloc0 (id := 0) rfl rfl (by exact (rfl : _ = [_, _, _, _, _]))) ?_))
  refine s_nil (n_n (w_seq (w_seq (w_reg (s_q rfl rfl (q_mv (.inl rfl) (is_sc rfl)) ?_)))))
  refine s_q rfl rfl (q_mv (.inl rfl) (by first | exact is_im rfl | exact is_gs rfl | exact is_lit rfl | exact is_ms rfl | exact is_sc rfl | exact rfl)) ?_
  refine s_q rfl rfl (q_call rfl rfl rfl rfl (pf_Fits_BITLSHIFTF2 n k hn hn2 hf)) ?_
  refine s_q rfl rfl (q_not rfl rfl) ?_
  refine s_nil (n_n (w_ifT rfl (w_seq (w_reg (s_q rfl rfl (q_call rfl rfl rfl rfl pf_doubt) ?_)))))
  refine s_u rfl rfl (as_st rfl rfl (by first | exact (rfl : _ = D.agg [_, _, _, _, _]) | exact rfl) rfl (by exact rfl) (by exact rfl) (by exact Nat.le_of_ble_eq_true rfl) (by exact (rfl : _ = [_, _, _, _, _]))) ?_
  refine s_nil (n_n (w_ret (n_r ?_)))
  -- end 0
  refine r_r (ra_cell (by exact (rfl : _ = some (D.agg [_, _, _, _, _]))) ra_nil) (by first | exact (rfl : _ = D.agg [_, _, _, _, _]) | exact rfl) (by exact rfl) sub_no ?_
  rfl


-- pub-tallysheet/spec.Call
theorem pf_Call_BITLSHIFTF2 (n k : Int) (hn : ¬ (99999999999 < n ∨ n < -99999999999)) (hn2 : n ≤ 1048576) (hf : ¬ (0 ≤ k ∧ k ≤ 20)) : PF Tryz.prog G 19 [st [66, 73, 84, 76, 83, 72, 73, 70, 84], lst [num n 1, num k 1]] (doubt).d := by
  refine PC.intro rfl Tryz.func19 rfl (Nat.le_of_ble_eq_true rfl) rfl ?_
  refine w_seq (w_reg (s_s rfl rfl (as_alloc0 (id := 0) rfl rfl (by exact (rfl : _ = [_, _, _, _, _]))) ?_))
  refine s_nil (n_n (w_seq (w_reg (s_q rfl rfl (q_mv (.inl rfl) (is_sc rfl)) ?_))))
  refine s_q rfl rfl (q_mv (.inl rfl) (by first | exact is_im rfl | exact is_gs rfl | exact is_lit rfl | exact is_ms rfl | exact is_sc rfl | exact rfl)) ?_
  refine s_q rfl rfl (q_mv (.inl rfl) (by first | exact is_im rfl | exact is_gs rfl | exact is_lit rfl | exact is_ms rfl | exact is_sc rfl | exact rfl)) ?_
  refine s_q rfl rfl (q_call rfl rfl rfl rfl (pf_CallOver_BITLSHIFTF2 n k hn hn2 hf)) ?_
  refine s_u rfl rfl (as_st rfl rfl (by first | exact (rfl : _ = D.agg [_, _, _, _, _]) | exact rfl) rfl (by exact rfl) (by exact rfl) (by exact Nat.le_of_ble_eq_true rfl) (by exact (rfl : _ = [_, _, _, _, _]))) ?_
  refine s_nil (n_n (w_ret ?_))
  -- end 0
  refine r_r (ra_cell (by exact (rfl : _ = some (D.agg [_, _, _, _, _]))) ra_nil) (by first | exact (rfl : _ = D.agg [_, _, _, _, _]) | exact rfl) (by exact rfl) sub_no ?_
  rfl


-- pub-tallysheet/spec.fitsNumbers
theorem pf_fitsNumbers_BITLSHIFTQ1 (k : Int) : PF Tryz.prog G 73 [st [66, 73, 84, 76, 83, 72, 73, 70, 84], lst [doubt, num k 1]] (.tup [bl false, bl true]) := by
  refine PC.intro rfl Tryz.func73 rfl (Nat.le_of_ble_eq_true rfl) rfl ?_
  refine w_seq (w_reg (s_q rfl rfl (q_mv (.inr rfl) (is_sc rfl)) ?_))
  refine s_q rfl rfl (q_mv (.inr rfl) (is_sc rfl)) ?_
  refine s_nil (n_n (w_seq (w_reg (s_q rfl rfl (q_mv (.inl rfl) (by first | exact is_im rfl | exact is_gs rfl | exact is_lit rfl | exact is_ms rfl | exact is_sc rfl | exact rfl)) ?_))))
  refine s_q rfl rfl (q_len rfl rfl rfl) ?_
  refine s_q rfl rfl (q_mv (.inr rfl) (is_sc rfl)) ?_
  refine s_nil (n_n (w_seq (w_reg (s_q rfl rfl (q_mv (.inl rfl) (by first | exact is_im rfl | exact is_gs rfl | exact is_lit rfl | exact is_ms rfl | exact is_sc rfl | exact rfl)) ?_))))
  refine s_q rfl rfl (q_call rfl rfl rfl rfl (pf_every _ (by simp only [List.length_cons, List.length_nil]; omega) 163 (fun v => decide (v.kind = 1)) (fun v hv => by
      rcases List.mem_cons.1 hv with rfl | hv
      · exact pf_numericQ
      rcases List.mem_cons.1 hv with rfl | hv
      · exact pf_numericN _ _
      cases hv))) ?_
  refine s_q rfl rfl (q_mv (.inr rfl) (is_sc rfl)) ?_
  refine s_nil (n_n (w_seq (w_seq (w_reg (s_q rfl rfl (q_mv (.inl rfl) (is_sc rfl)) ?_)))))
  refine s_nil (n_n (w_block (w_seq (w_seq (w_reg (s_q rfl rfl (q_eqs rfl rfl rfl) ?_))))))
  refine s_q rfl rfl (q_mv (.inr rfl) (is_sc rfl)) ?_
  refine s_nil (n_n (w_ifF rfl (w_seq (w_reg (s_q rfl rfl (q_eqs rfl rfl rfl) ?_)))))
  refine s_q rfl rfl (q_mv (.inr rfl) (is_sc rfl)) ?_
  refine s_nil (n_n (w_ifF rfl (w_seq (w_reg (s_q rfl rfl (q_eqs rfl rfl rfl) ?_)))))
  refine s_q rfl rfl (q_mv (.inr rfl) (is_sc rfl)) ?_
  refine s_nil (n_n (w_ifF rfl (w_seq (w_reg (s_q rfl rfl (q_eqs rfl rfl rfl) ?_)))))
  refine s_q rfl rfl (q_mv (.inr rfl) (is_sc rfl)) ?_
  refine s_nil (n_n (w_ifF rfl (w_reg (s_q rfl rfl (q_eqs rfl rfl rfl) ?_))))
  refine s_q rfl rfl (q_mv (.inr rfl) (is_sc rfl)) ?_
  refine s_nil (n_n (w_ifF rfl (w_seq (w_reg (s_q rfl rfl (q_eqs rfl rfl rfl) ?_)))))
  refine s_q rfl rfl (q_mv (.inr rfl) (is_sc rfl)) ?_
  refine s_nil (n_n (w_ifF rfl (w_seq (w_seq (w_reg (s_q rfl rfl (q_eqs rfl rfl rfl) ?_))))))
  refine s_q rfl rfl (q_mv (.inr rfl) (is_sc rfl)) ?_
  refine s_nil (n_n (w_ifF rfl (w_reg (s_q rfl rfl (q_eqs rfl rfl rfl) ?_))))
  refine s_q rfl rfl (q_mv (.inr rfl) (is_sc rfl)) ?_
  refine s_nil (n_n (w_ifF rfl (w_seq (w_seq (w_reg (s_q rfl rfl (q_eqs rfl rfl rfl) ?_))))))
  refine s_q rfl rfl (q_mv (.inr rfl) (is_sc rfl)) ?_
  refine s_nil (n_n (w_ifF rfl (w_reg (s_q rfl rfl (q_eqs rfl rfl rfl) ?_))))
  refine s_q rfl rfl (q_mv (.inr rfl) (is_sc rfl)) ?_
  refine s_nil (n_n (w_ifF rfl (w_seq (w_seq (w_reg (s_q rfl rfl (q_eqs rfl rfl rfl) ?_))))))
  refine s_q rfl rfl (q_mv (.inr rfl) (is_sc rfl)) ?_
  refine s_nil (n_n (w_ifF rfl (w_reg (s_q rfl rfl (q_eqs rfl rfl rfl) ?_))))
  refine s_q rfl rfl (q_mv (.inr rfl) (is_sc rfl)) ?_
  refine s_nil (n_n (w_ifF rfl (w_seq (w_seq (w_reg (s_q rfl rfl (q_eqs rfl rfl rfl) ?_))))))
  refine s_q rfl rfl (q_mv (.inr rfl) (is_sc rfl)) ?_
  refine s_nil (n_n (w_ifF rfl (w_seq (w_reg (s_q rfl rfl (q_eqs rfl rfl rfl) ?_)))))
  refine s_q rfl rfl (q_mv (.inr rfl) (is_sc rfl)) ?_
  refine s_nil (n_n (w_ifF rfl (w_reg (s_q rfl rfl (q_eqs rfl rfl rfl) ?_))))
  refine s_q rfl rfl (q_mv (.inr rfl) (is_sc rfl)) ?_
  refine s_nil (n_n (w_ifF rfl (w_seq (w_seq (w_reg (s_q rfl rfl (q_eqs rfl rfl rfl) ?_))))))
  refine s_q rfl rfl (q_mv (.inr rfl) (is_sc rfl)) ?_
  refine s_nil (n_n (w_ifT rfl (w_skip (n_n (w_ifT rfl (w_seq (w_reg (s_q rfl rfl (q_mv (.inl rfl) (is_sc rfl)) ?_))))))))
  refine s_q rfl rfl (q_eql rfl rfl rfl) ?_
  refine s_q rfl rfl (q_mv (.inl rfl) (is_sc rfl)) ?_
  refine s_q rfl rfl (q_mv (.inl rfl) (by first | exact is_im rfl | exact is_gs rfl | exact is_lit rfl | exact is_ms rfl | exact is_sc rfl | exact rfl)) ?_
  refine s_q rfl rfl (q_index rfl rfl rfl rfl (by simp) (by simp)) ?_
  refine s_q rfl rfl (q_field rfl rfl (by exact rfl)) ?_
  refine s_q rfl rfl (q_load rfl rfl (by exact (rfl : _ = some (D.sc _)))) ?_
  refine s_q rfl rfl (q_neq rfl rfl rfl) ?_
  refine s_q rfl rfl (q_pickT rfl rfl (is_sc rfl)) ?_
  refine s_q rfl rfl (q_mv (.inl rfl) (is_sc rfl)) ?_
  refine s_q rfl rfl (q_mv (.inl rfl) (by first | exact is_im rfl | exact is_gs rfl | exact is_lit rfl | exact is_ms rfl | exact is_sc rfl | exact rfl)) ?_
  refine s_q rfl rfl (q_index rfl rfl rfl rfl (by simp) (by simp)) ?_
  refine s_q rfl rfl (q_field rfl rfl (by exact rfl)) ?_
  refine s_q rfl rfl (q_load rfl rfl (by exact (rfl : _ = some (D.sc _)))) ?_
  refine s_q rfl rfl (q_neq rfl rfl rfl) ?_
  refine s_q rfl rfl (q_pickT rfl rfl (is_sc rfl)) ?_
  refine s_q rfl rfl (q_mv (.inl rfl) (is_sc rfl)) ?_
  refine s_q rfl rfl (q_mv (.inl rfl) (by first | exact is_im rfl | exact is_gs rfl | exact is_lit rfl | exact is_ms rfl | exact is_sc rfl | exact rfl)) ?_
  refine s_q rfl rfl (q_index rfl rfl rfl rfl (by simp) (by simp)) ?_
  refine s_q rfl rfl (q_load rfl rfl (by exact (rfl : _ = some (D.agg [_, _, _, _, _])))) ?_
  refine s_q rfl rfl (q_call rfl rfl rfl rfl (pf_betweenQ _ _)) ?_
  refine s_q rfl rfl (q_pickT rfl rfl (is_sc rfl)) ?_
  refine s_q rfl rfl (q_mv (.inl rfl) (is_sc rfl)) ?_
  refine s_off rfl rfl ?_
  refine s_off rfl rfl ?_
  refine s_off rfl rfl ?_
  refine s_off rfl rfl ?_
  refine s_q rfl rfl (q_pickF rfl rfl (is_sc rfl)) ?_
  refine s_q rfl rfl (q_mv (.inr rfl) (is_sc rfl)) ?_
  refine s_q rfl rfl (q_mv (.inr rfl) (is_sc rfl)) ?_
  refine s_nil (n_n (w_ret (b_r (n_r ?_))))
  -- end 0
  refine r_r (ra_tmp (is_sc rfl) (ra_tmp (is_sc rfl) ra_nil)) (by exact (rfl : _ = D.tup [_, _])) (by exact rfl) sub_no ?_
  rfl


-- pub-tallysheet/spec.Fits
theorem pf_Fits_BITLSHIFTQ1 (k : Int) : PF Tryz.prog G 47 [st [66, 73, 84, 76, 83, 72, 73, 70, 84], lst [doubt, num k 1]] (bl false) := by
  refine PC.intro rfl Tryz.func47 rfl (Nat.le_of_ble_eq_true rfl) rfl ?_
  refine w_seq (w_reg (s_q rfl rfl (q_mv (.inr rfl) (is_sc rfl)) ?_))
  refine s_nil (n_n (w_seq (w_seq (w_reg (s_q rfl rfl (q_mv (.inl rfl) (is_sc rfl)) ?_)))))
  refine s_q rfl rfl (q_mv (.inl rfl) (by first | exact is_im rfl | exact is_gs rfl | exact is_lit rfl | exact is_ms rfl | exact is_sc rfl | exact rfl)) ?_
  refine s_q rfl rfl (q_call rfl rfl rfl rfl (pf_fitsNumbers_BITLSHIFTQ1 _)) ?_
  refine s_q rfl rfl (q_mv (.inl rfl) (by first | exact (rfl : _ = D.tup [_, _]) | exact rfl)) ?_
  refine s_q rfl rfl (q_extract rfl rfl rfl) ?_
  refine s_q rfl rfl (q_extract rfl rfl rfl) ?_
  refine s_q rfl rfl (q_mv (.inr rfl) (is_sc rfl)) ?_
  refine s_q rfl rfl (q_mv (.inr rfl) (is_sc rfl)) ?_
  refine s_nil (n_n (w_seq (w_reg (s_q rfl rfl (q_mv (.inl rfl) (is_sc rfl)) ?_))))
  refine s_nil (n_n (w_ifT rfl (w_seq (w_reg (s_q rfl rfl (q_mv (.inl rfl) (is_sc rfl)) ?_)))))
  refine s_q rfl rfl (q_mv (.inr rfl) (is_sc rfl)) ?_
  refine s_nil (n_n (w_ret (n_r ?_)))
  -- end 0
  refine r_r (ra_tmp (is_sc rfl) ra_nil) (by exact (is_sc rfl)) (by exact rfl) sub_no ?_
  rfl


-- pub-tallysheet/spec.CallOver
theorem pf_CallOver_BITLSHIFTQ1 (k : Int) : PF Tryz.prog G 34 [st [66, 73, 84, 76, 83, 72, 73, 70, 84], lst [doubt, num k 1], lst [doubt, num k 1]] (doubt).d := by
  refine PC.intro rfl Tryz.func34 rfl (Nat.le_of_ble_eq_true rfl) rfl ?_
  refine w_seq (w_reg (s_s rfl rfl (as_alloc0 (id := 0) rfl rfl (by exact (rfl : _ = [_, _, _, _, _]))) ?_))
  refine s_nil (n_n (w_seq (w_seq (w_reg (s_q rfl rfl (q_mv (.inl rfl) (is_sc rfl)) ?_)))))
  refine s_q rfl rfl (q_mv (.inl rfl) (by first | exact is_im rfl | exact is_gs rfl | exact is_lit rfl | exact is_ms rfl | exact is_sc rfl | exact rfl)) ?_
  refine s_q rfl rfl (q_call rfl rfl rfl rfl (pf_Fits_BITLSHIFTQ1 _)) ?_
  refine s_q rfl rfl (q_not rfl rfl) ?_
  refine s_nil (n_n (w_ifT rfl (w_seq (w_reg (s_q rfl rfl (q_call rfl rfl rfl rfl pf_doubt) ?_)))))
  refine s_u rfl rfl (as_st rfl rfl (by first | exact (rfl : _ = D.agg [_, _, _, _, _]) | exact rfl) rfl (by exact rfl) (by exact rfl) (by exact Nat.le_of_ble_eq_true rfl) (by exact (rfl : _ = [_, _, _, _, _]))) ?_
  refine s_nil (n_n (w_ret (n_r ?_)))
  -- end 0
  refine r_r (ra_cell (by exact (rfl : _ = some (D.agg [_, _, _, _, _]))) ra_nil) (by first | exact (rfl : _ = D.agg [_, _, _, _, _]) | exact rfl) (by exact rfl) sub_no ?_
  rfl


-- pub-tallysheet/spec.Call
theorem pf_Call_BITLSHIFTQ1 (k : Int) : PF Tryz.prog G 19 [st [66, 73, 84, 76, 83, 72, 73, 70, 84], lst [doubt, num k 1]] (doubt).d := by
  refine PC.intro rfl Tryz.func19 rfl (Nat.le_of_ble_eq_true rfl) rfl ?_
  refine w_seq (w_reg (s_s rfl rfl (as_alloc0 (id := 0) rfl rfl (by exact (rfl : _ = [_, _, _, _, _]))) ?_))
  refine s_nil (n_n (w_seq (w_reg (s_q rfl rfl (q_mv (.inl rfl) (is_sc rfl)) ?_))))
  refine s_q rfl rfl (q_mv (.inl rfl) (by first | exact is_im rfl | exact is_gs rfl | exact is_lit rfl | exact is_ms rfl | exact is_sc rfl | exact rfl)) ?_
  refine s_q rfl rfl (q_mv (.inl rfl) (by first | exact is_im rfl | exact is_gs rfl | exact is_lit rfl | exact is_ms rfl | exact is_sc rfl | exact rfl)) ?_
  refine s_q rfl rfl (q_call rfl rfl rfl rfl (pf_CallOver_BITLSHIFTQ1 _)) ?_
  refine s_u rfl rfl (as_st rfl rfl (by first | exact (rfl : _ = D.agg [_, _, _, _, _]) | exact rfl) rfl (by exact rfl) (by exact rfl) (by exact Nat.le_of_ble_eq_true rfl) (by exact (rfl : _ = [_, _, _, _, _]))) ?_
  refine s_nil (n_n (w_ret ?_))
  -- end 0
  refine r_r (ra_cell (by exact (rfl : _ = some (D.agg [_, _, _, _, _]))) ra_nil) (by first | exact (rfl : _ = D.agg [_, _, _, _, _]) | exact rfl) (by exact rfl) sub_no ?_
  rfl


-- pub-tallysheet/spec.fitsNumbers
theorem pf_fitsNumbers_BITLSHIFTQ2 (n : Int) (hn : ¬ (99999999999 < n ∨ n < -99999999999)) (hn2 : n ≤ 1048576) : PF Tryz.prog G 73 [st [66, 73, 84, 76, 83, 72, 73, 70, 84], lst [num n 1, doubt]] (.tup [bl false, bl true]) := by
  refine PC.intro rfl Tryz.func73 rfl (Nat.le_of_ble_eq_true rfl) rfl ?_
  refine w_seq (w_reg (s_q rfl rfl (q_mv (.inr rfl) (is_sc rfl)) ?_))
  refine s_q rfl rfl (q_mv (.inr rfl) (is_sc rfl)) ?_
  refine s_nil (n_n (w_seq (w_reg (s_q rfl rfl (q_mv (.inl rfl) (by first | exact is_im rfl | exact is_gs rfl | exact is_lit rfl | exact is_ms rfl | exact is_sc rfl | exact rfl)) ?_))))
  refine s_q rfl rfl (q_len rfl rfl rfl) ?_
  refine s_q rfl rfl (q_mv (.inr rfl) (is_sc rfl)) ?_
  refine s_nil (n_n (w_seq (w_reg (s_q rfl rfl (q_mv (.inl rfl) (by first | exact is_im rfl | exact is_gs rfl | exact is_lit rfl | exact is_ms rfl | exact is_sc rfl | exact rfl)) ?_))))
  refine s_q rfl rfl (q_call rfl rfl rfl rfl (pf_every _ (by simp only [List.length_cons, List.length_nil]; omega) 163 (fun v => decide (v.kind = 1)) (fun v hv => by
      rcases List.mem_cons.1 hv with rfl | hv
      · exact pf_numericN _ _
      rcases List.mem_cons.1 hv with rfl | hv
      · exact pf_numericQ
      cases hv))) ?_
  refine s_q rfl rfl (q_mv (.inr rfl) (is_sc rfl)) ?_
  refine s_nil (n_n (w_seq (w_seq (w_reg (s_q rfl rfl (q_mv (.inl rfl) (is_sc rfl)) ?_)))))
  refine s_nil (n_n (w_block (w_seq (w_seq (w_reg (s_q rfl rfl (q_eqs rfl rfl rfl) ?_))))))
  refine s_q rfl rfl (q_mv (.inr rfl) (is_sc rfl)) ?_
  refine s_nil (n_n (w_ifF rfl (w_seq (w_reg (s_q rfl rfl (q_eqs rfl rfl rfl) ?_)))))
  refine s_q rfl rfl (q_mv (.inr rfl) (is_sc rfl)) ?_
  refine s_nil (n_n (w_ifF rfl (w_seq (w_reg (s_q rfl rfl (q_eqs rfl rfl rfl) ?_)))))
  refine s_q rfl rfl (q_mv (.inr rfl) (is_sc rfl)) ?_
  refine s_nil (n_n (w_ifF rfl (w_seq (w_reg (s_q rfl rfl (q_eqs rfl rfl rfl) ?_)))))
  refine s_q rfl rfl (q_mv (.inr rfl) (is_sc rfl)) ?_
  refine s_nil (n_n (w_ifF rfl (w_reg (s_q rfl rfl (q_eqs rfl rfl rfl) ?_))))
  refine s_q rfl rfl (q_mv (.inr rfl) (is_sc rfl)) ?_
  refine s_nil (n_n (w_ifF rfl (w_seq (w_reg (s_q rfl rfl (q_eqs rfl rfl rfl) ?_)))))
  refine s_q rfl rfl (q_mv (.inr rfl) (is_sc rfl)) ?_
  refine s_nil (n_n (w_ifF rfl (w_seq (w_seq (w_reg (s_q rfl rfl (q_eqs rfl rfl rfl) ?_))))))
  refine s_q rfl rfl (q_mv (.inr rfl) (is_sc rfl)) ?_
  refine s_nil (n_n (w_ifF rfl (w_reg (s_q rfl rfl (q_eqs rfl rfl rfl) ?_))))
  refine s_q rfl rfl (q_mv (.inr rfl) (is_sc rfl)) ?_
  refine s_nil (n_n (w_ifF rfl (w_seq (w_seq (w_reg (s_q rfl rfl (q_eqs rfl rfl rfl) ?_))))))
  refine s_q rfl rfl (q_mv (.inr rfl) (is_sc rfl)) ?_
  refine s_nil (n_n (w_ifF rfl (w_reg (s_q rfl rfl (q_eqs rfl rfl rfl) ?_))))
  refine s_q rfl rfl (q_mv (.inr rfl) (is_sc rfl)) ?_
  refine s_nil (n_n (w_ifF rfl (w_seq (w_seq (w_reg (s_q rfl rfl (q_eqs rfl rfl rfl) ?_))))))
  refine s_q rfl rfl (q_mv (.inr rfl) (is_sc rfl)) ?_
  refine s_nil (n_n (w_ifF rfl (w_reg (s_q rfl rfl (q_eqs rfl rfl rfl) ?_))))
  refine s_q rfl rfl (q_mv (.inr rfl) (is_sc rfl)) ?_
  refine s_nil (n_n (w_ifF rfl (w_seq (w_seq (w_reg (s_q rfl rfl (q_eqs rfl rfl rfl) ?_))))))
  refine s_q rfl rfl (q_mv (.inr rfl) (is_sc rfl)) ?_
  refine s_nil (n_n (w_ifF rfl (w_seq (w_reg (s_q rfl rfl (q_eqs rfl rfl rfl) ?_)))))
  refine s_q rfl rfl (q_mv (.inr rfl) (is_sc rfl)) ?_
  refine s_nil (n_n (w_ifF rfl (w_reg (s_q rfl rfl (q_eqs rfl rfl rfl) ?_))))
  refine s_q rfl rfl (q_mv (.inr rfl) (is_sc rfl)) ?_
  refine s_nil (n_n (w_ifF rfl (w_seq (w_seq (w_reg (s_q rfl rfl (q_eqs rfl rfl rfl) ?_))))))
  refine s_q rfl rfl (q_mv (.inr rfl) (is_sc rfl)) ?_
  refine s_nil (n_n (w_ifT rfl (w_skip (n_n (w_ifT rfl (w_seq (w_reg (s_q rfl rfl (q_mv (.inl rfl) (is_sc rfl)) ?_))))))))
  refine s_q rfl rfl (q_eql rfl rfl rfl) ?_
  refine s_q rfl rfl (q_mv (.inl rfl) (is_sc rfl)) ?_
  refine s_q rfl rfl (q_mv (.inl rfl) (by first | exact is_im rfl | exact is_gs rfl | exact is_lit rfl | exact is_ms rfl | exact is_sc rfl | exact rfl)) ?_
  refine s_q rfl rfl (q_index rfl rfl rfl rfl (by simp) (by simp)) ?_
  refine s_q rfl rfl (q_field rfl rfl (by exact rfl)) ?_
  refine s_q rfl rfl (q_load rfl rfl (by exact (rfl : _ = some (D.sc _)))) ?_
  refine s_q rfl rfl (q_neq rfl rfl rfl) ?_
  refine s_q rfl rfl (q_pickT rfl rfl (is_sc rfl)) ?_
  refine s_q rfl rfl (q_mv (.inl rfl) (is_sc rfl)) ?_
  refine s_q rfl rfl (q_mv (.inl rfl) (by first | exact is_im rfl | exact is_gs rfl | exact is_lit rfl | exact is_ms rfl | exact is_sc rfl | exact rfl)) ?_
  refine s_q rfl rfl (q_index rfl rfl rfl rfl (by simp) (by simp)) ?_
  refine s_q rfl rfl (q_field rfl rfl (by exact rfl)) ?_
  refine s_q rfl rfl (q_load rfl rfl (by exact (rfl : _ = some (D.sc _)))) ?_
  refine s_q rfl rfl (q_neq rfl rfl rfl) ?_
  refine s_q rfl rfl (q_pickT rfl rfl (is_sc rfl)) ?_
  refine s_q rfl rfl (q_mv (.inl rfl) (is_sc rfl)) ?_
  refine s_q rfl rfl (q_mv (.inl rfl) (by first | exact is_im rfl | exact is_gs rfl | exact is_lit rfl | exact is_ms rfl | exact is_sc rfl | exact rfl)) ?_
  refine s_q rfl rfl (q_index rfl rfl rfl rfl (by simp) (by simp)) ?_
  refine s_q rfl rfl (q_load rfl rfl (by exact (rfl : _ = some (D.agg [_, _, _, _, _])))) ?_
  refine s_q rfl rfl (q_call rfl rfl rfl rfl (pf_betweenT _ _ _ (by omega) (by omega))) ?_
  refine s_q rfl rfl (q_pickT rfl rfl (is_sc rfl)) ?_
  refine s_q rfl rfl (q_mv (.inl rfl) (is_sc rfl)) ?_
  refine s_q rfl rfl (q_mv (.inl rfl) (by first | exact is_im rfl | exact is_gs rfl | exact is_lit rfl | exact is_ms rfl | exact is_sc rfl | exact rfl)) ?_
  refine s_q rfl rfl (q_index rfl rfl rfl rfl (by simp) (by simp)) ?_
  refine s_q rfl rfl (q_load rfl rfl (by exact (rfl : _ = some (D.agg [_, _, _, _, _])))) ?_
  refine s_q rfl rfl (q_call rfl rfl rfl rfl (pf_betweenQ _ _)) ?_
  refine s_q rfl rfl (q_pickT rfl rfl (is_sc rfl)) ?_
  refine s_q rfl rfl (q_mv (.inr rfl) (is_sc rfl)) ?_
  refine s_q rfl rfl (q_mv (.inr rfl) (is_sc rfl)) ?_
  refine s_nil (n_n (w_ret (b_r (n_r ?_))))
  -- end 0
  refine r_r (ra_tmp (is_sc rfl) (ra_tmp (is_sc rfl) ra_nil)) (by exact (rfl : _ = D.tup [_, _])) (by exact rfl) sub_no ?_
  rfl


-- pub-tallysheet/spec.Fits
theorem pf_Fits_BITLSHIFTQ2 (n : Int) (hn : ¬ (99999999999 < n ∨ n < -99999999999)) (hn2 : n ≤ 1048576) : PF Tryz.prog G 47 [st [66, 73, 84, 76, 83, 72, 73, 70, 84], lst [num n 1, doubt]] (bl false) := by
  refine PC.intro rfl Tryz.func47 rfl (Nat.le_of_ble_eq_true rfl) rfl ?_
  refine w_seq (w_reg (s_q rfl rfl (q_mv (.inr rfl) (is_sc rfl)) ?_))
  refine s_nil (n_n (w_seq (w_seq (w_reg (s_q rfl rfl (q_mv (.inl rfl) (is_sc rfl)) ?_)))))
  refine s_q rfl rfl (q_mv (.inl rfl) (by first | exact is_im rfl | exact is_gs rfl | exact is_lit rfl | exact is_ms rfl | exact is_sc rfl | exact rfl)) ?_
  refine s_q rfl rfl (q_call rfl rfl rfl rfl (pf_fitsNumbers_BITLSHIFTQ2 _ hn hn2)) ?_
  refine s_q rfl rfl (q_mv (.inl rfl) (by first | exact (rfl : _ = D.tup [_, _]) | exact rfl)) ?_
  refine s_q rfl rfl (q_extract rfl rfl rfl) ?_
  refine s_q rfl rfl (q_extract rfl rfl rfl) ?_
  refine s_q rfl rfl (q_mv (.inr rfl) (is_sc rfl)) ?_
  refine s_q rfl rfl (q_mv (.inr rfl) (is_sc rfl)) ?_
  refine s_nil (n_n (w_seq (w_reg (s_q rfl rfl (q_mv (.inl rfl) (is_sc rfl)) ?_))))
  refine s_nil (n_n (w_ifT rfl (w_seq (w_reg (s_q rfl rfl (q_mv (.inl rfl) (is_sc rfl)) ?_)))))
  refine s_q rfl rfl (q_mv (.inr rfl) (is_sc rfl)) ?_
  refine s_nil (n_n (w_ret (n_r ?_)))
  -- end 0
  refine r_r (ra_tmp (is_sc rfl) ra_nil) (by exact (is_sc rfl)) (by exact rfl) sub_no ?_
  rfl


-- pub-tallysheet/spec.CallOver
theorem pf_CallOver_BITLSHIFTQ2 (n : Int) (hn : ¬ (99999999999 < n ∨ n < -99999999999)) (hn2 : n ≤ 1048576) : PF Tryz.prog G 34 [st [66, 73, 84, 76, 83, 72, 73, 70, 84], lst [num n 1, doubt], lst [num n 1, doubt]] (doubt).d := by
  refine PC.intro rfl Tryz.func34 rfl (Nat.le_of_ble_eq_true rfl) rfl ?_
  refine w_seq (w_reg (s_s rfl rfl (as_alloc0 (id := 0) rfl rfl (by exact (rfl : _ = [_, _, _, _, _]))) ?_))
  refine s_nil (n_n (w_seq (w_seq (w_reg (s_q rfl rfl (q_mv (.inl rfl) (is_sc rfl)) ?_)))))
  refine s_q rfl rfl (q_mv (.inl rfl) (by first | exact is_im rfl | exact is_gs rfl | exact is_lit rfl | exact is_ms rfl | exact is_sc rfl | exact rfl)) ?_
  refine s_q rfl rfl (q_call rfl rfl rfl rfl (pf_Fits_BITLSHIFTQ2 _ hn hn2)) ?_
  refine s_q rfl rfl (q_not rfl rfl) ?_
  refine s_nil (n_n (w_ifT rfl (w_seq (w_reg (s_q rfl rfl (q_call rfl rfl rfl rfl pf_doubt) ?_)))))
  refine s_u rfl rfl (as_st rfl rfl (by first | exact (rfl : _ = D.agg [_, _, _, _, _]) | exact rfl) rfl (by exact rfl) (by exact rfl) (by exact Nat.le_of_ble_eq_true rfl) (by exact (rfl : _ = [_, _, _, _, _]))) ?_
  refine s_nil (n_n (w_ret (n_r ?_)))
  -- end 0
  refine r_r (ra_cell (by exact (rfl : _ = some (D.agg [_, _, _, _, _]))) ra_nil) (by first | exact (rfl : _ = D.agg [_, _, _, _, _]) | exact rfl) (by exact rfl) sub_no ?_
  rfl


-- pub-tallysheet/spec.Call
theorem pf_Call_BITLSHIFTQ2 (n : Int) (hn : ¬ (99999999999 < n ∨ n < -99999999999)) (hn2 : n ≤ 1048576) : PF Tryz.prog G 19 [st [66, 73, 84, 76, 83, 72, 73, 70, 84], lst [num n 1, doubt]] (doubt).d := by
  refine PC.intro rfl Tryz.func19 rfl (Nat.le_of_ble_eq_true rfl) rfl ?_
  refine w_seq (w_reg (s_s rfl rfl (as_alloc0 (id := 0) rfl rfl (by exact (rfl : _ = [_, _, _, _, _]))) ?_))
  refine s_nil (n_n (w_seq (w_reg (s_q rfl rfl (q_mv (.inl rfl) (is_sc rfl)) ?_))))
  refine s_q rfl rfl (q_mv (.inl rfl) (by first | exact is_im rfl | exact is_gs rfl | exact is_lit rfl | exact is_ms rfl | exact is_sc rfl | exact rfl)) ?_
  refine s_q rfl rfl (q_mv (.inl rfl) (by first | exact is_im rfl | exact is_gs rfl | exact is_lit rfl | exact is_ms rfl | exact is_sc rfl | exact rfl)) ?_
  refine s_q rfl rfl (q_call rfl rfl rfl rfl (pf_CallOver_BITLSHIFTQ2 _ hn hn2)) ?_
  refine s_u rfl rfl (as_st rfl rfl (by first | exact (rfl : _ = D.agg [_, _, _, _, _]) | exact rfl) rfl (by exact rfl) (by exact rfl) (by exact Nat.le_of_ble_eq_true rfl) (by exact (rfl : _ = [_, _, _, _, _]))) ?_
  refine s_nil (n_n (w_ret ?_))
  -- end 0
  refine r_r (ra_cell (by exact (rfl : _ = some (D.agg [_, _, _, _, _]))) ra_nil) (by first | exact (rfl : _ = D.agg [_, _, _, _, _]) | exact rfl) (by exact rfl) sub_no ?_
  rfl


-- pub-tallysheet/spec.fitsNumbers
theorem pf_fitsNumbers_BITLSHIFTQ2b (n : Int) (hn : ¬ (99999999999 < n ∨ n < -99999999999)) (hf : ¬ (-99999999999 ≤ n ∧ n ≤ 1048576)) : PF Tryz.prog G 73 [st [66, 73, 84, 76, 83, 72, 73, 70, 84], lst [num n 1, doubt]] (.tup [bl false, bl true]) := by
  refine PC.intro rfl Tryz.func73 rfl (Nat.le_of_ble_eq_true rfl) rfl ?_
  refine w_seq (w_reg (s_q rfl rfl (q_mv (.inr rfl) (is_sc rfl)) ?_))
  refine s_q rfl rfl (q_mv (.inr rfl) (is_sc rfl)) ?_
  refine s_nil (n_n (w_seq (w_reg (s_q rfl rfl (q_mv (.inl rfl) (by first | exact is_im rfl | exact is_gs rfl | exact is_lit rfl | exact is_ms rfl | exact is_sc rfl | exact rfl)) ?_))))
  refine s_q rfl rfl (q_len rfl rfl rfl) ?_
  refine s_q rfl rfl (q_mv (.inr rfl) (is_sc rfl)) ?_
  refine s_nil (n_n (w_seq (w_reg (s_q rfl rfl (q_mv (.inl rfl) (by first | exact is_im rfl | exact is_gs rfl | exact is_lit rfl | exact is_ms rfl | exact is_sc rfl | exact rfl)) ?_))))
  refine s_q rfl rfl (q_call rfl rfl rfl rfl (pf_every _ (by simp only [List.length_cons, List.length_nil]; omega) 163 (fun v => decide (v.kind = 1)) (fun v hv => by
      rcases List.mem_cons.1 hv with rfl | hv
      · exact pf_numericN _ _
      rcases List.mem_cons.1 hv with rfl | hv
      · exact pf_numericQ
      cases hv))) ?_
  refine s_q rfl rfl (q_mv (.inr rfl) (is_sc rfl)) ?_
  refine s_nil (n_n (w_seq (w_seq (w_reg (s_q rfl rfl (q_mv (.inl rfl) (is_sc rfl)) ?_)))))
  refine s_nil (n_n (w_block (w_seq (w_seq (w_reg (s_q rfl rfl (q_eqs rfl rfl rfl) ?_))))))
  refine s_q rfl rfl (q_mv (.inr rfl) (is_sc rfl)) ?_
  refine s_nil (n_n (w_ifF rfl (w_seq (w_reg (s_q rfl rfl (q_eqs rfl rfl rfl) ?_)))))
  refine s_q rfl rfl (q_mv (.inr rfl) (is_sc rfl)) ?_
  refine s_nil (n_n (w_ifF rfl (w_seq (w_reg (s_q rfl rfl (q_eqs rfl rfl rfl) ?_)))))
  refine s_q rfl rfl (q_mv (.inr rfl) (is_sc rfl)) ?_
  refine s_nil (n_n (w_ifF rfl (w_seq (w_reg (s_q rfl rfl (q_eqs rfl rfl rfl) ?_)))))
  refine s_q rfl rfl (q_mv (.inr rfl) (is_sc rfl)) ?_
  refine s_nil (n_n (w_ifF rfl (w_reg (s_q rfl rfl (q_eqs rfl rfl rfl) ?_))))
  refine s_q rfl rfl (q_mv (.inr rfl) (is_sc rfl)) ?_
  refine s_nil (n_n (w_ifF rfl (w_seq (w_reg (s_q rfl rfl (q_eqs rfl rfl rfl) ?_)))))
  refine s_q rfl rfl (q_mv (.inr rfl) (is_sc rfl)) ?_
  refine s_nil (n_n (w_ifF rfl (w_seq (w_seq (w_reg (s_q rfl rfl (q_eqs rfl rfl rfl) ?_))))))
  refine s_q rfl rfl (q_mv (.inr rfl) (is_sc rfl)) ?_
  refine s_nil (n_n (w_ifF rfl (w_reg (s_q rfl rfl (q_eqs rfl rfl rfl) ?_))))
  refine s_q rfl rfl (q_mv (.inr rfl) (is_sc rfl)) ?_
  refine s_nil (n_n (w_ifF rfl (w_seq (w_seq (w_reg (s_q rfl rfl (q_eqs rfl rfl rfl) ?_))))))
  refine s_q rfl rfl (q_mv (.inr rfl) (is_sc rfl)) ?_
  refine s_nil (n_n (w_ifF rfl (w_reg (s_q rfl rfl (q_eqs rfl rfl rfl) ?_))))
  refine s_q rfl rfl (q_mv (.inr rfl) (is_sc rfl)) ?_
  refine s_nil (n_n (w_ifF rfl (w_seq (w_seq (w_reg (s_q rfl rfl (q_eqs rfl rfl rfl) ?_))))))
  refine s_q rfl rfl (q_mv (.inr rfl) (is_sc rfl)) ?_
  refine s_nil (n_n (w_ifF rfl (w_reg (s_q rfl rfl (q_eqs rfl rfl rfl) ?_))))
  refine s_q rfl rfl (q_mv (.inr rfl) (is_sc rfl)) ?_
  refine s_nil (n_n (w_ifF rfl (w_seq (w_seq (w_reg (s_q rfl rfl (q_eqs rfl rfl rfl) ?_))))))
  refine s_q rfl rfl (q_mv (.inr rfl) (is_sc rfl)) ?_
  refine s_nil (n_n (w_ifF rfl (w_seq (w_reg (s_q rfl rfl (q_eqs rfl rfl rfl) ?_)))))
  refine s_q rfl rfl (q_mv (.inr rfl) (is_sc rfl)) ?_
  refine s_nil (n_n (w_ifF rfl (w_reg (s_q rfl rfl (q_eqs rfl rfl rfl) ?_))))
  refine s_q rfl rfl (q_mv (.inr rfl) (is_sc rfl)) ?_
  refine s_nil (n_n (w_ifF rfl (w_seq (w_seq (w_reg (s_q rfl rfl (q_eqs rfl rfl rfl) ?_))))))
  refine s_q rfl rfl (q_mv (.inr rfl) (is_sc rfl)) ?_
  refine s_nil (n_n (w_ifT rfl (w_skip (n_n (w_ifT rfl (w_seq (w_reg (s_q rfl rfl (q_mv (.inl rfl) (is_sc rfl)) ?_))))))))
  refine s_q rfl rfl (q_eql rfl rfl rfl) ?_
  refine s_q rfl rfl (q_mv (.inl rfl) (is_sc rfl)) ?_
  refine s_q rfl rfl (q_mv (.inl rfl) (by first | exact is_im rfl | exact is_gs rfl | exact is_lit rfl | exact is_ms rfl | exact is_sc rfl | exact rfl)) ?_
  refine s_q rfl rfl (q_index rfl rfl rfl rfl (by simp) (by simp)) ?_
  refine s_q rfl rfl (q_field rfl rfl (by exact rfl)) ?_
  refine s_q rfl rfl (q_load rfl rfl (by exact (rfl : _ = some (D.sc _)))) ?_
  refine s_q rfl rfl (q_neq rfl rfl rfl) ?_
  refine s_q rfl rfl (q_pickT rfl rfl (is_sc rfl)) ?_
  refine s_q rfl rfl (q_mv (.inl rfl) (is_sc rfl)) ?_
  refine s_q rfl rfl (q_mv (.inl rfl) (by first | exact is_im rfl | exact is_gs rfl | exact is_lit rfl | exact is_ms rfl | exact is_sc rfl | exact rfl)) ?_
  refine s_q rfl rfl (q_index rfl rfl rfl rfl (by simp) (by simp)) ?_
  refine s_q rfl rfl (q_field rfl rfl (by exact rfl)) ?_
  refine s_q rfl rfl (q_load rfl rfl (by exact (rfl : _ = some (D.sc _)))) ?_
  refine s_q rfl rfl (q_neq rfl rfl rfl) ?_
  refine s_q rfl rfl (q_pickT rfl rfl (is_sc rfl)) ?_
  refine s_q rfl rfl (q_mv (.inl rfl) (is_sc rfl)) ?_
  refine s_q rfl rfl (q_mv (.inl rfl) (by first | exact is_im rfl | exact is_gs rfl | exact is_lit rfl | exact is_ms rfl | exact is_sc rfl | exact rfl)) ?_
  refine s_q rfl rfl (q_index rfl rfl rfl rfl (by simp) (by simp)) ?_
  refine s_q rfl rfl (q_load rfl rfl (by exact (rfl : _ = some (D.agg [_, _, _, _, _])))) ?_
  refine s_q rfl rfl (q_call rfl rfl rfl rfl (pf_betweenF _ _ _ hf)) ?_
  refine s_q rfl rfl (q_pickT rfl rfl (is_sc rfl)) ?_
  refine s_q rfl rfl (q_mv (.inl rfl) (is_sc rfl)) ?_
  refine s_off rfl rfl ?_
  refine s_off rfl rfl ?_
  refine s_off rfl rfl ?_
  refine s_off rfl rfl ?_
  refine s_q rfl rfl (q_pickF rfl rfl (is_sc rfl)) ?_
  refine s_q rfl rfl (q_mv (.inr rfl) (is_sc rfl)) ?_
  refine s_q rfl rfl (q_mv (.inr rfl) (is_sc rfl)) ?_
  refine s_nil (n_n (w_ret (b_r (n_r ?_))))
  -- end 0
  refine r_r (ra_tmp (is_sc rfl) (ra_tmp (is_sc rfl) ra_nil)) (by exact (rfl : _ = D.tup [_, _])) (by exact rfl) sub_no ?_
  rfl


-- pub-tallysheet/spec.Fits
theorem pf_Fits_BITLSHIFTQ2b (n : Int) (hn : ¬ (99999999999 < n ∨ n < -99999999999)) (hf : ¬ (-99999999999 ≤ n ∧ n ≤ 1048576)) : PF Tryz.prog G 47 [st [66, 73, 84, 76, 83, 72, 73, 70, 84], lst [num n 1, doubt]] (bl false) := by
  refine PC.intro rfl Tryz.func47 rfl (Nat.le_of_ble_eq_true rfl) rfl ?_
  refine w_seq (w_reg (s_q rfl rfl (q_mv (.inr rfl) (is_sc rfl)) ?_))
  refine s_nil (n_n (w_seq (w_seq (w_reg (s_q rfl rfl (q_mv (.inl rfl) (is_sc rfl)) ?_)))))
  refine s_q rfl rfl (q_mv (.inl rfl) (by first | exact is_im rfl | exact is_gs rfl | exact is_lit rfl | exact is_ms rfl | exact is_sc rfl | exact rfl)) ?_
  refine s_q rfl rfl (q_call rfl rfl rfl rfl (pf_fitsNumbers_BITLSHIFTQ2b _ hn hf)) ?_
  refine s_q rfl rfl (q_mv (.inl rfl) (by first | exact (rfl : _ = D.tup [_, _]) | exact rfl)) ?_
  refine s_q rfl rfl (q_extract rfl rfl rfl) ?_
  refine s_q rfl rfl (q_extract rfl rfl rfl) ?_
  refine s_q rfl rfl (q_mv (.inr rfl) (is_sc rfl)) ?_
  refine s_q rfl rfl (q_mv (.inr rfl) (is_sc rfl)) ?_
  refine s_nil (n_n (w_seq (w_reg (s_q rfl rfl (q_mv (.inl rfl) (is_sc rfl)) ?_))))
  refine s_nil (n_n (w_ifT rfl (w_seq (w_reg (s_q rfl rfl (q_mv (.inl rfl) (is_sc rfl)) ?_)))))
  refine s_q rfl rfl (q_mv (.inr rfl) (is_sc rfl)) ?_
  refine s_nil (n_n (w_ret (n_r ?_)))
  -- end 0
  refine r_r (ra_tmp (is_sc rfl) ra_nil) (by exact (is_sc rfl)) (by exact rfl) sub_no ?_
  rfl


-- pub-tallysheet/spec.CallOver
theorem pf_CallOver_BITLSHIFTQ2b (n : Int) (hn : ¬ (99999999999 < n ∨ n < -99999999999)) (hf : ¬ (-99999999999 ≤ n ∧ n ≤ 1048576)) : PF Tryz.prog G 34 [st [66, 73, 84, 76, 83, 72, 73, 70, 84], lst [num n 1, doubt], lst [num n 1, doubt]] (doubt).d := by
  refine PC.intro rfl Tryz.func34 rfl (Nat.le_of_ble_eq_true rfl) rfl ?_
  refine w_seq (w_reg (s_s rfl rfl (as_alloc0 (id := 0) rfl rfl (by exact (rfl : _ = [_, _, _, _, _]))) ?_))
  refine s_nil (n_n (w_seq (w_seq (w_reg (s_q rfl rfl (q_mv (.inl rfl) (is_sc rfl)) ?_)))))
  refine s_q rfl rfl (q_mv (.inl rfl) (by first | exact is_im rfl | exact is_gs rfl | exact is_lit rfl | exact is_ms rfl | exact is_sc rfl | exact rfl)) ?_
  refine s_q rfl rfl (q_call rfl rfl rfl rfl (pf_Fits_BITLSHIFTQ2b _ hn hf)) ?_
  refine s_q rfl rfl (q_not rfl rfl) ?_
  refine s_nil (n_n (w_ifT rfl (w_seq (w_reg (s_q rfl rfl (q_call rfl rfl rfl rfl pf_doubt) ?_)))))
  refine s_u rfl rfl (as_st rfl rfl (by first | exact (rfl : _ = D.agg [_, _, _, _, _]) | exact rfl) rfl (by exact rfl) (by exact rfl) (by exact Nat.le_of_ble_eq_true rfl) (by exact (rfl : _ = [_, _, _, _, _]))) ?_
  refine s_nil (n_n (w_ret (n_r ?_)))
  -- end 0
  refine r_r (ra_cell (by exact (rfl : _ = some (D.agg [_, _, _, _, _]))) ra_nil) (by first | exact (rfl : _ = D.agg [_, _, _, _, _]) | exact rfl) (by exact rfl) sub_no ?_
  rfl


-- pub-tallysheet/spec.Call
theorem pf_Call_BITLSHIFTQ2b (n : Int) (hn : ¬ (99999999999 < n ∨ n < -99999999999)) (hf : ¬ (-99999999999 ≤ n ∧ n ≤ 1048576)) : PF Tryz.prog G 19 [st [66, 73, 84, 76, 83, 72, 73, 70, 84], lst [num n 1, doubt]] (doubt).d := by
  refine PC.intro rfl Tryz.func19 rfl (Nat.le_of_ble_eq_true rfl) rfl ?_
  refine w_seq (w_reg (s_s rfl rfl (as_alloc0 (id := 0) rfl rfl (by exact (rfl : _ = [_, _, _, _, _]))) ?_))
  refine s_nil (n_n (w_seq (w_reg (s_q rfl rfl (q_mv (.inl rfl) (is_sc rfl)) ?_))))
  refine s_q rfl rfl (q_mv (.inl rfl) (by first | exact is_im rfl | exact is_gs rfl | exact is_lit rfl | exact is_ms rfl | exact is_sc rfl | exact rfl)) ?_
  refine s_q rfl rfl (q_mv (.inl rfl) (by first | exact is_im rfl | exact is_gs rfl | exact is_lit rfl | exact is_ms rfl | exact is_sc rfl | exact rfl)) ?_
  refine s_q rfl rfl (q_call rfl rfl rfl rfl (pf_CallOver_BITLSHIFTQ2b _ hn hf)) ?_
  refine s_u rfl rfl (as_st rfl rfl (by first | exact (rfl : _ = D.agg [_, _, _, _, _]) | exact rfl) rfl (by exact rfl) (by exact rfl) (by exact Nat.le_of_ble_eq_true rfl) (by exact (rfl : _ = [_, _, _, _, _]))) ?_
  refine s_nil (n_n (w_ret ?_))
  -- end 0
  refine r_r (ra_cell (by exact (rfl : _ = some (D.agg [_, _, _, _, _]))) ra_nil) (by first | exact (rfl : _ = D.agg [_, _, _, _, _]) | exact rfl) (by exact rfl) sub_no ?_
  rfl


-- pub-tallysheet/spec.fitsNumbers
theorem pf_fitsNumbers_BITLSHIFTQ3  : PF Tryz.prog G 73 [st [66, 73, 84, 76, 83, 72, 73, 70, 84], lst [doubt, doubt]] (.tup [bl false, bl true]) := by
  refine PC.intro rfl Tryz.func73 rfl (Nat.le_of_ble_eq_true rfl) rfl ?_
  refine w_seq (w_reg (s_q rfl rfl (q_mv (.inr rfl) (is_sc rfl)) ?_))
  refine s_q rfl rfl (q_mv (.inr rfl) (is_sc rfl)) ?_
  refine s_nil (n_n (w_seq (w_reg (s_q rfl rfl (q_mv (.inl rfl) (by first | exact is_im rfl | exact is_gs rfl | exact is_lit rfl | exact is_ms rfl | exact is_sc rfl | exact rfl)) ?_))))
  refine s_q rfl rfl (q_len rfl rfl rfl) ?_
  refine s_q rfl rfl (q_mv (.inr rfl) (is_sc rfl)) ?_
  refine s_nil (n_n (w_seq (w_reg (s_q rfl rfl (q_mv (.inl rfl) (by first | exact is_im rfl | exact is_gs rfl | exact is_lit rfl | exact is_ms rfl | exact is_sc rfl | exact rfl)) ?_))))
  refine s_q rfl rfl (q_call rfl rfl rfl rfl (pf_every _ (by simp only [List.length_cons, List.length_nil]; omega) 163 (fun v => decide (v.kind = 1)) (fun v hv => by
      rcases List.mem_cons.1 hv with rfl | hv
      · exact pf_numericQ
      rcases List.mem_cons.1 hv with rfl | hv
      · exact pf_numericQ
      cases hv))) ?_
  refine s_q rfl rfl (q_mv (.inr rfl) (is_sc rfl)) ?_
  refine s_nil (n_n (w_seq (w_seq (w_reg (s_q rfl rfl (q_mv (.inl rfl) (is_sc rfl)) ?_)))))
  refine s_nil (n_n (w_block (w_seq (w_seq (w_reg (s_q rfl rfl (q_eqs rfl rfl rfl) ?_))))))
  refine s_q rfl rfl (q_mv (.inr rfl) (is_sc rfl)) ?_
  refine s_nil (n_n (w_ifF rfl (w_seq (w_reg (s_q rfl rfl (q_eqs rfl rfl rfl) ?_)))))
  refine s_q rfl rfl (q_mv (.inr rfl) (is_sc rfl)) ?_
  refine s_nil (n_n (w_ifF rfl (w_seq (w_reg (s_q rfl rfl (q_eqs rfl rfl rfl) ?_)))))
  refine s_q rfl rfl (q_mv (.inr rfl) (is_sc rfl)) ?_
  refine s_nil (n_n (w_ifF rfl (w_seq (w_reg (s_q rfl rfl (q_eqs rfl rfl rfl) ?_)))))
  refine s_q rfl rfl (q_mv (.inr rfl) (is_sc rfl)) ?_
  refine s_nil (n_n (w_ifF rfl (w_reg (s_q rfl rfl (q_eqs rfl rfl rfl) ?_))))
  refine s_q rfl rfl (q_mv (.inr rfl) (is_sc rfl)) ?_
  refine s_nil (n_n (w_ifF rfl (w_seq (w_reg (s_q rfl rfl (q_eqs rfl rfl rfl) ?_)))))
  refine s_q rfl rfl (q_mv (.inr rfl) (is_sc rfl)) ?_
  refine s_nil (n_n (w_ifF rfl (w_seq (w_seq (w_reg (s_q rfl rfl (q_eqs rfl rfl rfl) ?_))))))
  refine s_q rfl rfl (q_mv (.inr rfl) (is_sc rfl)) ?_
  refine s_nil (n_n (w_ifF rfl (w_reg (s_q rfl rfl (q_eqs rfl rfl rfl) ?_))))
  refine s_q rfl rfl (q_mv (.inr rfl) (is_sc rfl)) ?_
  refine s_nil (n_n (w_ifF rfl (w_seq (w_seq (w_reg (s_q rfl rfl (q_eqs rfl rfl rfl) ?_))))))
  refine s_q rfl rfl (q_mv (.inr rfl) (is_sc rfl)) ?_
  refine s_nil (n_n (w_ifF rfl (w_reg (s_q rfl rfl (q_eqs rfl rfl rfl) ?_))))
  refine s_q rfl rfl (q_mv (.inr rfl) (is_sc rfl)) ?_
  refine s_nil (n_n (w_ifF rfl (w_seq (w_seq (w_reg (s_q rfl rfl (q_eqs rfl rfl rfl) ?_))))))
  refine s_q rfl rfl (q_mv (.inr rfl) (is_sc rfl)) ?_
  refine s_nil (n_n (w_ifF rfl (w_reg (s_q rfl rfl (q_eqs rfl rfl rfl) ?_))))
  refine s_q rfl rfl (q_mv (.inr rfl) (is_sc rfl)) ?_
  refine s_nil (n_n (w_ifF rfl (w_seq (w_seq (w_reg (s_q rfl rfl (q_eqs rfl rfl rfl) ?_))))))
  refine s_q rfl rfl (q_mv (.inr rfl) (is_sc rfl)) ?_
  refine s_nil (n_n (w_ifF rfl (w_seq (w_reg (s_q rfl rfl (q_eqs rfl rfl rfl) ?_)))))
  refine s_q rfl rfl (q_mv (.inr rfl) (is_sc rfl)) ?_
  refine s_nil (n_n (w_ifF rfl (w_reg (s_q rfl rfl (q_eqs rfl rfl rfl) ?_))))
  refine s_q rfl rfl (q_mv (.inr rfl) (is_sc rfl)) ?_
  refine s_nil (n_n (w_ifF rfl (w_seq (w_seq (w_reg (s_q rfl rfl (q_eqs rfl rfl rfl) ?_))))))
  refine s_q rfl rfl (q_mv (.inr rfl) (is_sc rfl)) ?_
  refine s_nil (n_n (w_ifT rfl (w_skip (n_n (w_ifT rfl (w_seq (w_reg (s_q rfl rfl (q_mv (.inl rfl) (is_sc rfl)) ?_))))))))
  refine s_q rfl rfl (q_eql rfl rfl rfl) ?_
  refine s_q rfl rfl (q_mv (.inl rfl) (is_sc rfl)) ?_
  refine s_q rfl rfl (q_mv (.inl rfl) (by first | exact is_im rfl | exact is_gs rfl | exact is_lit rfl | exact is_ms rfl | exact is_sc rfl | exact rfl)) ?_
  refine s_q rfl rfl (q_index rfl rfl rfl rfl (by simp) (by simp)) ?_
  refine s_q rfl rfl (q_field rfl rfl (by exact rfl)) ?_
  refine s_q rfl rfl (q_load rfl rfl (by exact (rfl : _ = some (D.sc _)))) ?_
  refine s_q rfl rfl (q_neq rfl rfl rfl) ?_
  refine s_q rfl rfl (q_pickT rfl rfl (is_sc rfl)) ?_
  refine s_q rfl rfl (q_mv (.inl rfl) (is_sc rfl)) ?_
  refine s_q rfl rfl (q_mv (.inl rfl) (by first | exact is_im rfl | exact is_gs rfl | exact is_lit rfl | exact is_ms rfl | exact is_sc rfl | exact rfl)) ?_
  refine s_q rfl rfl (q_index rfl rfl rfl rfl (by simp) (by simp)) ?_
  refine s_q rfl rfl (q_field rfl rfl (by exact rfl)) ?_
  refine s_q rfl rfl (q_load rfl rfl (by exact (rfl : _ = some (D.sc _)))) ?_
  refine s_q rfl rfl (q_neq rfl rfl rfl) ?_
  refine s_q rfl rfl (q_pickT rfl rfl (is_sc rfl)) ?_
  refine s_q rfl rfl (q_mv (.inl rfl) (is_sc rfl)) ?_
  refine s_q rfl rfl (q_mv (.inl rfl) (by first | exact is_im rfl | exact is_gs rfl | exact is_lit rfl | exact is_ms rfl | exact is_sc rfl | exact rfl)) ?_
  refine s_q rfl rfl (q_index rfl rfl rfl rfl (by simp) (by simp)) ?_
  refine s_q rfl rfl (q_load rfl rfl (by exact (rfl : _ = some (D.agg [_, _, _, _, _])))) ?_
  refine s_q rfl rfl (q_call rfl rfl rfl rfl (pf_betweenQ _ _)) ?_
  refine s_q rfl rfl (q_pickT rfl rfl (is_sc rfl)) ?_
  refine s_q rfl rfl (q_mv (.inl rfl) (is_sc rfl)) ?_
  refine s_off rfl rfl ?_
  refine s_off rfl rfl ?_
  refine s_off rfl rfl ?_
  refine s_off rfl rfl ?_
  refine s_q rfl rfl (q_pickF rfl rfl (is_sc rfl)) ?_
  refine s_q rfl rfl (q_mv (.inr rfl) (is_sc rfl)) ?_
  refine s_q rfl rfl (q_mv (.inr rfl) (is_sc rfl)) ?_
  refine s_nil (n_n (w_ret (b_r (n_r ?_))))
  -- end 0
  refine r_r (ra_tmp (is_sc rfl) (ra_tmp (is_sc rfl) ra_nil)) (by exact (rfl : _ = D.tup [_, _])) (by exact rfl) sub_no ?_
  rfl


-- pub-tallysheet/spec.Fits
theorem pf_Fits_BITLSHIFTQ3  : PF Tryz.prog G 47 [st [66, 73, 84, 76, 83, 72, 73, 70, 84], lst [doubt, doubt]] (bl false) := by
  refine PC.intro rfl Tryz.func47 rfl (Nat.le_of_ble_eq_true rfl) rfl ?_
  refine w_seq (w_reg (s_q rfl rfl (q_mv (.inr rfl) (is_sc rfl)) ?_))
  refine s_nil (n_n (w_seq (w_seq (w_reg (s_q rfl rfl (q_mv (.inl rfl) (is_sc rfl)) ?_)))))
  refine s_q rfl rfl (q_mv (.inl rfl) (by first | exact is_im rfl | exact is_gs rfl | exact is_lit rfl | exact is_ms rfl | exact is_sc rfl | exact rfl)) ?_
  refine s_q rfl rfl (q_call rfl rfl rfl rfl pf_fitsNumbers_BITLSHIFTQ3) ?_
  refine s_q rfl rfl (q_mv (.inl rfl) (by first | exact (rfl : _ = D.tup [_, _]) | exact rfl)) ?_
  refine s_q rfl rfl (q_extract rfl rfl rfl) ?_
  refine s_q rfl rfl (q_extract rfl rfl rfl) ?_
  refine s_q rfl rfl (q_mv (.inr rfl) (is_sc rfl)) ?_
  refine s_q rfl rfl (q_mv (.inr rfl) (is_sc rfl)) ?_
  refine s_nil (n_n (w_seq (w_reg (s_q rfl rfl (q_mv (.inl rfl) (is_sc rfl)) ?_))))
  refine s_nil (n_n (w_ifT rfl (w_seq (w_reg (s_q rfl rfl (q_mv (.inl rfl) (is_sc rfl)) ?_)))))
  refine s_q rfl rfl (q_mv (.inr rfl) (is_sc rfl)) ?_
  refine s_nil (n_n (w_ret (n_r ?_)))
  -- end 0
  refine r_r (ra_tmp (is_sc rfl) ra_nil) (by exact (is_sc rfl)) (by exact rfl) sub_no ?_
  rfl


-- pub-tallysheet/spec.CallOver
theorem pf_CallOver_BITLSHIFTQ3  : PF Tryz.prog G 34 [st [66, 73, 84, 76, 83, 72, 73, 70, 84], lst [doubt, doubt], lst [doubt, doubt]] (doubt).d := by
  refine PC.intro rfl Tryz.func34 rfl (Nat.le_of_ble_eq_true rfl) rfl ?_
  refine w_seq (w_reg (s_s rfl rfl (as_alloc0 (id := 0) rfl rfl (by exact (rfl : _ = [_, _, _, _, _]))) ?_))
  refine s_nil (n_n (w_seq (w_seq (w_reg (s_q rfl rfl (q_mv (.inl rfl) (is_sc rfl)) ?_)))))
  refine s_q rfl rfl (q_mv (.inl rfl) (by first | exact is_im rfl | exact is_gs rfl | exact is_lit rfl | exact is_ms rfl | exact is_sc rfl | exact rfl)) ?_
  refine s_q rfl rfl (q_call rfl rfl rfl rfl pf_Fits_BITLSHIFTQ3) ?_
  refine s_q rfl rfl (q_not rfl rfl) ?_
  refine s_nil (n_n (w_ifT rfl (w_seq (w_reg (s_q rfl rfl (q_call rfl rfl rfl rfl pf_doubt) ?_)))))
  refine s_u rfl rfl (as_st rfl rfl (by first | exact (rfl : _ = D.agg [_, _, _, _, _]) | exact rfl) rfl (by exact rfl) (by exact rfl) (by exact Nat.le_of_ble_eq_true rfl) (by exact (rfl : _ = [_, _, _, _, _]))) ?_
  refine s_nil (n_n (w_ret (n_r ?_)))
  -- end 0
  refine r_r (ra_cell (by exact (rfl : _ = some (D.agg [_, _, _, _, _]))) ra_nil) (by first | exact (rfl : _ = D.agg [_, _, _, _, _]) | exact rfl) (by exact rfl) sub_no ?_
  rfl


-- pub-tallysheet/spec.Call
theorem pf_Call_BITLSHIFTQ3  : PF Tryz.prog G 19 [st [66, 73, 84, 76, 83, 72, 73, 70, 84], lst [doubt, doubt]] (doubt).d := by
  refine PC.intro rfl Tryz.func19 rfl (Nat.le_of_ble_eq_true rfl) rfl ?_
  refine w_seq (w_reg (s_s rfl rfl (as_alloc0 (id := 0) rfl rfl (by exact (rfl : _ = [_, _, _, _, _]))) ?_))
  refine s_nil (n_n (w_seq (w_reg (s_q rfl rfl (q_mv (.inl rfl) (is_sc rfl)) ?_))))
  refine s_q rfl rfl (q_mv (.inl rfl) (by first | exact is_im rfl | exact is_gs rfl | exact is_lit rfl | exact is_ms rfl | exact is_sc rfl | exact rfl)) ?_
  refine s_q rfl rfl (q_mv (.inl rfl) (by first | exact is_im rfl | exact is_gs rfl | exact is_lit rfl | exact is_ms rfl | exact is_sc rfl | exact rfl)) ?_
  refine s_q rfl rfl (q_call rfl rfl rfl rfl pf_CallOver_BITLSHIFTQ3) ?_
  refine s_u rfl rfl (as_st rfl rfl (by first | exact (rfl : _ = D.agg [_, _, _, _, _]) | exact rfl) rfl (by exact rfl) (by exact rfl) (by exact Nat.le_of_ble_eq_true rfl) (by exact (rfl : _ = [_, _, _, _, _]))) ?_
  refine s_nil (n_n (w_ret ?_))
  -- end 0
  refine r_r (ra_cell (by exact (rfl : _ = some (D.agg [_, _, _, _, _]))) ra_nil) (by first | exact (rfl : _ = D.agg [_, _, _, _, _]) | exact rfl) (by exact rfl) sub_no ?_
  rfl

end Go.Proofs.YtjobmjfdlkjaoaaGreatDoor.Zz
