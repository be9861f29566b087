/- Walks of the functions, printed by program, and the logic behind them: each theorem says what one function or one step answers. -/
import Derived.Test.YtopgbalmdocboaaGreatDoorZWe
import Derived.Test.YtopgbalmdocboaaGreatDoorZWa
import Derived.Test.YtopgbalmdocboaaGreatDoorZTt
import Derived.Test.YtopgbalmdocboaaGreatDoorZT3
import Derived.Test.YtopgbalmdocboaaGreatDoorZT4
import Derived.Test.YtopgbalmdocboaaGreatDoorZX1
import Derived.Test.YtopgbalmdocboaaGreatDoorZTx
import Derived.Test.YtopgbalmdocboaaGreatDoorZSlice
import Derived.Test.YtopgbalmdocboaaGreatDoorZText2
namespace Go.Proofs.YtopgbalmdocboaaGreatDoor.Zz
open Go.Abs
set_option maxRecDepth 100000
set_option linter.unusedVariables false
set_option linter.unusedSimpArgs false
set_option maxHeartbeats 4000000
variable {G : Nat → D}

-- (pub-tallysheet/pub/excelize.formulaArg).Value
theorem pf_ValueS (s : List UInt8) : PF Tryz.prog G 61 [(fStr s).d] (st s) := by
  refine PC.intro rfl Tryz.func61 rfl (Nat.le_of_ble_eq_true rfl) rfl ?_
  refine w_seq (w_reg (s_s rfl rfl (as_box0 (id := 0) rfl (by first | exact (rfl : _ = D.agg [_, _, _, _, _, _, _, _, _, _]) | exact rfl) (by exact rfl) rfl (by exact (rfl : _ = [_, _, _, _, _, _, _, _, _, _]))) ?_))
  refine s_q rfl rfl (q_mv (.inr rfl) (is_sc rfl)) ?_
  refine s_nil (n_n (w_seq (w_seq (w_reg (s_q rfl rfl (q_field rfl rfl (by exact rfl)) ?_)))))
  refine s_q rfl rfl (q_load rfl rfl (by exact (rfl : _ = some (D.sc _)))) ?_
  refine s_nil (n_n (w_block (w_seq (w_reg (s_q rfl rfl (q_eql rfl rfl rfl) ?_)))))
  refine s_q rfl rfl (q_mv (.inr rfl) (is_sc rfl)) ?_
  refine s_nil (n_n (w_ifF rfl (w_seq (w_reg (s_q rfl rfl (q_eql rfl rfl rfl) ?_)))))
  refine s_q rfl rfl (q_mv (.inr rfl) (is_sc rfl)) ?_
  refine s_nil (n_n (w_ifT rfl (w_seq (w_reg (s_q rfl rfl (q_field rfl rfl (by exact rfl)) ?_)))))
  refine s_q rfl rfl (q_load rfl rfl (by exact (rfl : _ = some (D.sc _)))) ?_
  refine s_q rfl rfl (q_mv (.inr rfl) (is_sc rfl)) ?_
  refine s_nil (n_n (w_ret (b_r (n_r ?_))))
  -- end 0
  refine r_r (ra_tmp (is_sc rfl) ra_nil) (by exact (is_sc rfl)) (by exact rfl) sub_no ?_
  rfl


-- pub-tallysheet/laws.shortTexts
theorem pf_shortTexts (l : List (List UInt8)) (hl : l.length < 1000000000) : PF Tryz.prog G 7 [.im (l.map st) l.length] (bl (l.all fun s => decide (s.length ≤ 1000))) := by
  refine PC.intro rfl Tryz.func7 rfl (Nat.le_of_ble_eq_true rfl) rfl ?_
  refine w_seq (w_reg (s_q rfl rfl (q_mv (.inr rfl) (is_sc rfl)) ?_))
  refine s_nil (n_n (w_seq (w_seq (w_reg (s_q rfl rfl (q_mv (.inr rfl) (is_sc rfl)) ?_)))))
  refine s_nil (n_n (w_block ?_))
  refine w_loop (fun env A => ∃ i : Nat, i ≤ l.length ∧ (∀ s ∈ l.take i, s.length ≤ 1000) ∧ Binds env [(0, .im (l.map st) l.length), (3, i64 i)] ∧ A = AH.start noHeap) (fun env _ => l.length - ctr (env 3)) ?_ ?_
  · exact ⟨0, Nat.zero_le _, by simp, ⟨rfl, rfl, trivial⟩, rfl⟩
  · rintro env A ⟨i, hi, hp, hB, rfl⟩
    rw [hB.eq]; clear hB
    refine w_seq (w_seq (w_reg (s_q rfl rfl (q_mv (.inl rfl) (is_sc rfl)) ?_)))
    refine s_q rfl rfl (q_mv (.inl rfl) (by first | exact is_im rfl | exact is_gs rfl | exact is_lit rfl | exact is_ms rfl | exact is_sc rfl | exact rfl)) ?_
    refine s_q rfl rfl (q_len rfl rfl rfl) ?_
    refine s_q rfl rfl (q_lss rfl rfl rfl) ?_
    refine s_nil (n_n (w_if (is_scb rfl) (fun h7 => ?_) (fun h7 => ?_)))
    · have hlt : i < l.length := by have := of_decide_eq_true h7; omega
      refine w_skip (n_n (w_seq (w_block (w_seq (w_reg (s_q rfl rfl (q_mv (.inl rfl) (by first | exact is_im rfl | exact is_gs rfl | exact is_lit rfl | exact is_ms rfl | exact is_sc rfl | exact rfl)) ?_))))))
      refine s_q rfl rfl (q_mv (.inl rfl) (is_sc rfl)) ?_
      refine s_q rfl rfl (q_index rfl rfl rfl rfl (Int.natCast_nonneg _) (by omega)) ?_
      refine s_q rfl rfl (q_loadPin rfl rfl (take_map st hlt)) ?_
      refine s_q rfl rfl (q_lens rfl rfl) ?_
      refine s_q rfl rfl (q_gtr rfl rfl rfl) ?_
      refine s_nil (n_n (w_if (is_scb rfl) (fun h15 => ?_) (fun h15 => ?_)))
      · have hs : ¬ l[i].length ≤ 1000 := by have := of_decide_eq_true h15; omega
        refine w_seq (w_reg (s_q rfl rfl (q_mv (.inr rfl) (is_sc rfl)) ?_))
        refine s_nil (n_n (w_ret (b_r (n_r (n_r (b_r (n_r ?_)))))))
        -- end 0
        refine r_r (ra_tmp (is_sc rfl) ra_nil) (by exact (is_sc rfl)) (by exact rfl) sub_no ?_
        rw [show (l.all fun s => decide (s.length ≤ 1000)) = false from List.all_eq_false.2 ⟨_, List.getElem_mem hlt, by simpa using hs⟩] <;> rfl
      · have hs : l[i].length ≤ 1000 := by have := of_decide_eq_false h15; omega
        refine w_skip (b_n (n_n (w_reg (s_q rfl rfl (q_mv (.inl rfl) (is_sc rfl)) ?_))))
        refine s_q rfl rfl (q_add rfl rfl rfl) ?_
        refine s_q rfl rfl (q_mv (.inr rfl) (is_sc rfl)) ?_
        refine s_nil (n_n ?_)
        have hw : IntKind.i64.wrap ((i : Int) + 1) = ((i + 1 : Nat) : Int) := wrap_nat (by omega)
        refine ⟨⟨i + 1, hlt, take_more' hlt hp hs, ⟨rfl, i64_eq hw, trivial⟩, rfl⟩, ?_⟩
        show l.length - (IntKind.i64.wrap ((i : Int) + 1)).toNat < l.length - (i : Int).toNat
        rw [hw]; omega
    · have hge : l.length ≤ i := by have := of_decide_eq_false h7; omega
      refine w_exit (n_e (n_e (b_hit (n_n (w_seq (w_reg (s_q rfl rfl (q_mv (.inr rfl) (is_sc rfl)) ?_)))))))
      refine s_nil (n_n (w_ret ?_))
      -- end 1
      refine r_r (ra_tmp (is_sc rfl) ra_nil) (by exact (is_sc rfl)) (by exact rfl) sub_no ?_
      rw [show (l.all fun s => decide (s.length ≤ 1000)) = true from List.all_eq_true.2 fun s hs => decide_eq_true (take_all' hge hp s hs)] <;> rfl


-- pub-tallysheet/laws.of
theorem pf_ofB (b : Bool) : PF Tryz.prog G 41 [(boolV b).d] (iBool (FloatKind.f64.nearest (if b then 1 else 0))).d := by
  refine PC.intro rfl Tryz.func41 rfl (Nat.le_of_ble_eq_true rfl) rfl ?_
  refine w_seq (w_reg (s_s rfl rfl (as_box0 (id := 0) rfl (by first | exact (rfl : _ = D.agg [_, _, _, _, _]) | exact rfl) (by exact rfl) rfl (by exact (rfl : _ = [_, _, _, _, _]))) ?_))
  refine s_s rfl rfl (as_alloc0 (id := 1) rfl rfl (by exact (rfl : _ = [_, _, _, _]))) ?_
  refine s_nil (n_n (w_seq (w_reg (s_q rfl rfl (q_field rfl rfl (by exact rfl)) ?_))))
  refine s_q rfl rfl (q_load rfl rfl (by exact (rfl : _ = some (D.sc _)))) ?_
  refine s_q rfl rfl (q_field rfl rfl (by exact rfl)) ?_
  refine s_q rfl rfl (q_load rfl rfl (by exact (rfl : _ = some (D.sc _)))) ?_
  refine s_q rfl rfl (q_build rfl (pt_cons (is_sc rfl) (pt_cons (is_sc rfl) pt_nil)) (by exact (rfl : _ = some [_, _, _, _]))) ?_
  refine s_s rfl rfl (as_alloc0 (id := 2) rfl rfl (by exact (rfl : _ = [_, _, _, _]))) ?_
  refine s_u rfl rfl (as_st rfl rfl (by first | exact (rfl : _ = D.agg [_, _, _, _]) | exact rfl) rfl (by exact rfl) (by exact rfl) (by exact Nat.le_of_ble_eq_true rfl) (by exact (rfl : _ = [_, _, _, _]))) ?_
  refine s_nil (n_n (w_seq (w_seq (w_reg (s_q rfl rfl (q_field rfl rfl (by exact rfl)) ?_)))))
  refine s_q rfl rfl (q_load rfl rfl (by exact (rfl : _ = some (D.sc _)))) ?_
  refine s_nil (n_n (w_block (w_seq (w_reg (s_q rfl rfl (q_eql rfl rfl rfl) ?_)))))
  refine s_q rfl rfl (q_mv (.inr rfl) (is_sc rfl)) ?_
  refine s_nil (n_n (w_ifF rfl (w_seq (w_reg (s_q rfl rfl (q_eql rfl rfl rfl) ?_)))))
  refine s_q rfl rfl (q_mv (.inr rfl) (is_sc rfl)) ?_
  refine s_nil (n_n (w_ifT rfl (w_reg (s_q rfl rfl (q_field rfl rfl (by exact rfl)) ?_))))
  refine s_q rfl rfl (q_load rfl rfl (by exact (rfl : _ = some (D.sc _)))) ?_
  refine s_q rfl rfl (q_cif rfl rfl) ?_
  refine s_q rfl rfl (q_field rfl rfl (by exact rfl)) ?_
  refine s_u rfl rfl (as_st rfl rfl (is_sc rfl) rfl (by exact rfl) (by exact rfl) (by exact Nat.le_of_ble_eq_true rfl) (by exact (rfl : _ = [_, _, _, _]))) ?_
  refine s_nil (b_n (n_n (w_seq (w_reg (s_q rfl rfl (q_load rfl rfl (by exact (rfl : _ = some (D.agg [_, _, _, _])))) ?_)))))
  refine s_u rfl rfl (as_st rfl rfl (by first | exact (rfl : _ = D.agg [_, _, _, _]) | exact rfl) rfl (by exact rfl) (by exact rfl) (by exact Nat.le_of_ble_eq_true rfl) (by exact (rfl : _ = [_, _, _, _]))) ?_
  refine s_nil (n_n (w_ret ?_))
  -- end 0
  refine r_r (ra_cell (by exact (rfl : _ = some (D.agg [_, _, _, _]))) ra_nil) (by first | exact (rfl : _ = D.agg [_, _, _, _]) | exact rfl) (by exact rfl) sub_no ?_
  rfl

end Go.Proofs.YtopgbalmdocboaaGreatDoor.Zz
