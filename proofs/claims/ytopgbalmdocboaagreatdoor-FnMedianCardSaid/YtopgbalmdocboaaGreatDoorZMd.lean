/- Walks of the functions, printed by program, and the logic behind them: each theorem says what one function or one step answers. -/
import Derived.Test.YtopgbalmdocboaaGreatDoorZN1
import Derived.Test.YtopgbalmdocboaaGreatDoorZTt
import Derived.Test.YtopgbalmdocboaaGreatDoorZSrt
import Derived.Test.YtopgbalmdocboaaGreatDoorZSlice
import Derived.Test.YtopgbalmdocboaaGreatDoorZTe
import Derived.Test.YtopgbalmdocboaaGreatDoorZSm
namespace Go.Proofs.YtopgbalmdocboaaGreatDoor.Zz
open Go.Abs
set_option maxRecDepth 100000
set_option linter.unusedVariables false
set_option linter.unusedSimpArgs false
set_option maxHeartbeats 4000000
variable {G : Nat → D}

-- pub-tallysheet/spec.kinds
theorem pf_kindsT (v : V) (F : List V) (hk : v.kind = 5) (hl : F.length < 1000000000) (hf : PF Tryz.prog G 40 [lst [v]] (lst F)) : PF Tryz.prog G 103 [v.d, .im [i64 1, i64 2, i64 0, i64 3] 4] (bl (F.all kOKv)) := by
  refine PC.intro rfl Tryz.func103 rfl (Nat.le_of_ble_eq_true rfl) rfl ?_
  refine w_seq (w_reg (s_s rfl rfl (as_box0 (id := 0) rfl (by first | exact (rfl : _ = D.agg [_, _, _, _, _]) | exact rfl) (by exact rfl) rfl (by exact (rfl : _ = [_, _, _, _, _]))) ?_))
  refine s_q rfl rfl (q_mv (.inr rfl) (is_sc rfl)) ?_
  refine s_nil (n_n (w_seq (w_seq (w_reg (s_q rfl rfl (q_field rfl rfl (by exact rfl)) ?_)))))
  refine s_q rfl rfl (q_load rfl rfl (by exact (rfl : _ = some (D.sc _)))) ?_
  refine s_q rfl rfl (q_as (bl_no (fun h => h hk)) (q_neq rfl rfl rfl)) ?_
  refine s_nil (n_n (w_ifF rfl (w_skip (n_n (w_seq (w_reg (s_q rfl rfl (q_load rfl rfl (by exact (rfl : _ = some (D.agg [_, _, _, _, _])))) ?_)))))))
  refine s_q rfl rfl (q_bs rfl (pt_cons (by first | exact (rfl : _ = D.agg [_, _, _, _, _]) | exact rfl) pt_nil) (by decide) (by decide) (by exact (rfl : _ = some [_, _, _, _, _])) (by exact (rfl : _ = [_, _, _, _, _])) (by exact rfl) (by exact rfl)) ?_
  refine s_q rfl rfl (q_call rfl rfl rfl rfl hf) ?_
  refine s_q rfl rfl (q_mv (.inr rfl) (by first | exact is_im rfl | exact is_gs rfl | exact is_lit rfl | exact is_ms rfl | exact is_sc rfl | exact rfl)) ?_
  refine s_nil (n_n (w_seq (w_seq (w_reg (s_q rfl rfl (q_mv (.inr rfl) (is_sc rfl)) ?_)))))
  refine s_nil (n_n (w_block ?_))
  refine w_loop (fun env A => ∃ i : Nat, i ≤ F.length ∧ (∀ x ∈ F.take i, kOKv x = true) ∧ Binds env [(1, .im [i64 1, i64 2, i64 0, i64 3] 4), (5, lst F), (6, i64 i)] ∧ A = ⟨[.cells (V.c v)], fun _ => false, 0, noHeap⟩) (fun env _ => F.length - ctr (env 6)) ?_ ?_
  · exact ⟨0, Nat.zero_le _, by simp, ⟨rfl, rfl, rfl, trivial⟩, rfl⟩
  · rintro env A ⟨i, hi, hp, hB, rfl⟩
    rw [hB.eq]; clear hB
    refine w_seq (w_seq (w_reg (s_q rfl rfl (q_mv (.inl rfl) (is_sc rfl)) ?_)))
    refine s_q rfl rfl (q_mv (.inl rfl) (by first | exact is_im rfl | exact is_gs rfl | exact is_lit rfl | exact is_ms rfl | exact is_sc rfl | exact rfl)) ?_
    refine s_q rfl rfl (q_len rfl rfl rfl) ?_
    refine s_q rfl rfl (q_lss rfl rfl rfl) ?_
    refine s_nil (n_n (w_if (is_scb rfl) (fun h18 => ?_) (fun h18 => ?_)))
    · have hlt : i < F.length := by have h' : (i : Int) < ((F.length : Nat) : Int) := of_decide_eq_true h18; omega
      refine w_skip (n_n (w_seq (w_block (w_seq (w_reg (s_q rfl rfl (q_mv (.inr rfl) (is_sc rfl)) ?_))))))
      refine s_nil (n_n (w_seq (w_seq (w_reg (s_q rfl rfl (q_mv (.inr rfl) (is_sc rfl)) ?_)))))
      refine s_nil (n_n (w_block (w_unroll 4 (u_s ?_))))
      refine w_seq (w_seq (w_reg (s_q rfl rfl (q_mv (.inl rfl) (is_sc rfl)) ?_)))
      refine s_q rfl rfl (q_mv (.inl rfl) (by first | exact is_im rfl | exact is_gs rfl | exact is_lit rfl | exact is_ms rfl | exact is_sc rfl | exact rfl)) ?_
      refine s_q rfl rfl (q_len rfl rfl rfl) ?_
      refine s_q rfl rfl (q_lss rfl rfl rfl) ?_
      refine s_nil (n_n (w_ifT rfl (w_skip (n_n (w_seq (w_block (w_draw [0, 1, 3, 3, 15, 31, 63, 3, 3, 387, 899, 2047, 4095, 8191] [0, 0, 0, 0, 0, 0, 1, 0, 0, 0, 1, 0, 0, 0] rfl ?_)))))))
      refine d_q0 rfl rfl (q_mv (.inl rfl) (is_sc rfl)) ?_
      refine d_q0 rfl rfl (q_mv (.inl rfl) (is_sc rfl)) ?_
      refine d_q0 rfl rfl (q_mv (.inl rfl) (by first | exact is_im rfl | exact is_gs rfl | exact is_lit rfl | exact is_ms rfl | exact is_sc rfl | exact rfl)) ?_
      refine d_q0 rfl rfl (q_mv (.inl rfl) (is_sc rfl)) ?_
      refine d_q0 rfl rfl (q_index rfl rfl rfl rfl (Int.natCast_nonneg _) (by omega)) ?_
      refine d_q0 rfl rfl (q_field rfl rfl (by exact rfl)) ?_
      refine d_q1 rfl rfl (q_loadPin rfl rfl (by exact (take_lst1 hlt (by decide)).trans rfl)) ?_
      refine d_q0 rfl rfl (q_mv (.inl rfl) (by first | exact is_im rfl | exact is_gs rfl | exact is_lit rfl | exact is_ms rfl | exact is_sc rfl | exact rfl)) ?_
      refine d_q0 rfl rfl (q_mv (.inl rfl) (is_sc rfl)) ?_
      refine d_q0 rfl rfl (q_index rfl rfl rfl rfl (by first | decide | (simp; done)) (by first | (simp; done) | decide | (show IntKind.i64.wrap (0 + 1) < 2; decide))) ?_
      refine d_q1 rfl rfl (q_load rfl rfl (by exact (rfl : _ = some (D.sc _)))) ?_
      refine d_q0 rfl rfl (q_eql rfl rfl rfl) ?_
      refine d_q0 rfl rfl (q_pickF rfl rfl (is_sc rfl)) ?_
      refine d_q0 rfl rfl (q_mv (.inr rfl) (is_sc rfl)) ?_
      refine d_nil (b_n (n_n (w_reg (s_q rfl rfl (q_mv (.inl rfl) (is_sc rfl)) ?_))))
      refine s_q rfl rfl (q_add rfl rfl rfl) ?_
      refine s_q rfl rfl (q_mv (.inr rfl) (is_sc rfl)) ?_
      refine s_nil (n_n (u_s (w_seq (w_seq (w_reg (s_q rfl rfl (q_mv (.inl rfl) (is_sc rfl)) ?_))))))
      refine s_q rfl rfl (q_mv (.inl rfl) (by first | exact is_im rfl | exact is_gs rfl | exact is_lit rfl | exact is_ms rfl | exact is_sc rfl | exact rfl)) ?_
      refine s_q rfl rfl (q_len rfl rfl rfl) ?_
      refine s_q rfl rfl (q_lss rfl rfl rfl) ?_
      refine s_nil (n_n (w_ifT rfl (w_skip (n_n (w_seq (w_block (w_draw [0, 1, 3, 3, 15, 31, 63, 3, 3, 387, 899, 2047, 4095, 8191] [0, 0, 0, 0, 0, 0, 1, 0, 0, 0, 1, 0, 0, 0] rfl ?_)))))))
      refine d_q0 rfl rfl (q_mv (.inl rfl) (is_sc rfl)) ?_
      refine d_q0 rfl rfl (q_mv (.inl rfl) (is_sc rfl)) ?_
      refine d_split 28 (is_scb rfl) (fun h28 => ?_) (fun h28 => ?_)
      · have g28 := of_decide_eq_true h28
        refine d_off rfl rfl ?_
        refine d_off rfl rfl ?_
        refine d_off rfl rfl ?_
        refine d_off rfl rfl ?_
        refine d_off rfl rfl ?_
        refine d_off rfl rfl ?_
        refine d_off rfl rfl ?_
        refine d_off rfl rfl ?_
        refine d_off rfl rfl ?_
        refine d_off rfl rfl ?_
        refine d_q0 rfl rfl (q_pickT rfl rfl (is_sc rfl)) ?_
        refine d_q0 rfl rfl (q_mv (.inr rfl) (is_sc rfl)) ?_
        refine d_nil (b_n (n_n (w_reg (s_q rfl rfl (q_mv (.inl rfl) (is_sc rfl)) ?_))))
        refine s_q rfl rfl (q_add rfl rfl rfl) ?_
        refine s_q rfl rfl (q_mv (.inr rfl) (is_sc rfl)) ?_
        refine s_nil (n_n (u_s (w_seq (w_seq (w_reg (s_q rfl rfl (q_mv (.inl rfl) (is_sc rfl)) ?_))))))
        refine s_q rfl rfl (q_mv (.inl rfl) (by first | exact is_im rfl | exact is_gs rfl | exact is_lit rfl | exact is_ms rfl | exact is_sc rfl | exact rfl)) ?_
        refine s_q rfl rfl (q_len rfl rfl rfl) ?_
        refine s_q rfl rfl (q_lss rfl rfl rfl) ?_
        refine s_nil (n_n (w_ifT rfl (w_skip (n_n (w_seq (w_block (w_draw [0, 1, 3, 3, 15, 31, 63, 3, 3, 387, 899, 2047, 4095, 8191] [0, 0, 0, 0, 0, 0, 1, 0, 0, 0, 1, 0, 0, 0] rfl ?_)))))))
        refine d_q0 rfl rfl (q_mv (.inl rfl) (is_sc rfl)) ?_
        refine d_q0 rfl rfl (q_mv (.inl rfl) (is_sc rfl)) ?_
        refine d_off rfl rfl ?_
        refine d_off rfl rfl ?_
        refine d_off rfl rfl ?_
        refine d_off rfl rfl ?_
        refine d_off rfl rfl ?_
        refine d_off rfl rfl ?_
        refine d_off rfl rfl ?_
        refine d_off rfl rfl ?_
        refine d_off rfl rfl ?_
        refine d_off rfl rfl ?_
        refine d_q0 rfl rfl (q_pickT rfl rfl (is_sc rfl)) ?_
        refine d_q0 rfl rfl (q_mv (.inr rfl) (is_sc rfl)) ?_
        refine d_nil (b_n (n_n (w_reg (s_q rfl rfl (q_mv (.inl rfl) (is_sc rfl)) ?_))))
        refine s_q rfl rfl (q_add rfl rfl rfl) ?_
        refine s_q rfl rfl (q_mv (.inr rfl) (is_sc rfl)) ?_
        refine s_nil (n_n (u_s (w_seq (w_seq (w_reg (s_q rfl rfl (q_mv (.inl rfl) (is_sc rfl)) ?_))))))
        refine s_q rfl rfl (q_mv (.inl rfl) (by first | exact is_im rfl | exact is_gs rfl | exact is_lit rfl | exact is_ms rfl | exact is_sc rfl | exact rfl)) ?_
        refine s_q rfl rfl (q_len rfl rfl rfl) ?_
        refine s_q rfl rfl (q_lss rfl rfl rfl) ?_
        refine s_nil (n_n (w_ifT rfl (w_skip (n_n (w_seq (w_block (w_draw [0, 1, 3, 3, 15, 31, 63, 3, 3, 387, 899, 2047, 4095, 8191] [0, 0, 0, 0, 0, 0, 1, 0, 0, 0, 1, 0, 0, 0] rfl ?_)))))))
        refine d_q0 rfl rfl (q_mv (.inl rfl) (is_sc rfl)) ?_
        refine d_q0 rfl rfl (q_mv (.inl rfl) (is_sc rfl)) ?_
        refine d_off rfl rfl ?_
        refine d_off rfl rfl ?_
        refine d_off rfl rfl ?_
        refine d_off rfl rfl ?_
        refine d_off rfl rfl ?_
        refine d_off rfl rfl ?_
        refine d_off rfl rfl ?_
        refine d_off rfl rfl ?_
        refine d_off rfl rfl ?_
        refine d_off rfl rfl ?_
        refine d_q0 rfl rfl (q_pickT rfl rfl (is_sc rfl)) ?_
        refine d_q0 rfl rfl (q_mv (.inr rfl) (is_sc rfl)) ?_
        refine d_nil (b_n (n_n (w_reg (s_q rfl rfl (q_mv (.inl rfl) (is_sc rfl)) ?_))))
        refine s_q rfl rfl (q_add rfl rfl rfl) ?_
        refine s_q rfl rfl (q_mv (.inr rfl) (is_sc rfl)) ?_
        refine s_nil (n_n (u_0 (w_seq (w_seq (w_reg (s_q rfl rfl (q_mv (.inl rfl) (is_sc rfl)) ?_))))))
        refine s_q rfl rfl (q_mv (.inl rfl) (by first | exact is_im rfl | exact is_gs rfl | exact is_lit rfl | exact is_ms rfl | exact is_sc rfl | exact rfl)) ?_
        refine s_q rfl rfl (q_len rfl rfl rfl) ?_
        refine s_q rfl rfl (q_lss rfl rfl rfl) ?_
        refine s_nil (n_n (w_ifF rfl (w_exit (n_e (n_e (b_hit (n_n (w_seq (w_reg (s_q rfl rfl (q_mv (.inl rfl) (is_sc rfl)) ?_))))))))))
        refine s_q rfl rfl (q_not rfl rfl) ?_
        refine s_nil (n_n (w_ifF rfl (w_skip (b_n (n_n (w_reg (s_q rfl rfl (q_mv (.inl rfl) (is_sc rfl)) ?_)))))))
        refine s_q rfl rfl (q_add rfl rfl rfl) ?_
        refine s_q rfl rfl (q_mv (.inr rfl) (is_sc rfl)) ?_
        refine s_nil (n_n ?_)
        have hw : IntKind.i64.wrap ((i : Int) + 1) = ((i + 1 : Nat) : Int) := wrap_nat (by omega)
        have hs : kOKv F[i] = true := by unfold kOKv; simp only [Bool.or_eq_true, decide_eq_true_eq]; omega
        refine ⟨⟨i + 1, hlt, take_more' hlt hp hs, ⟨rfl, rfl, i64_eq hw, trivial⟩, rfl⟩, ?_⟩
        show F.length - (IntKind.i64.wrap ((i : Int) + 1)).toNat < F.length - (i : Int).toNat
        rw [hw]; omega
      · have g28 := of_decide_eq_false h28
        refine d_q0 rfl rfl (q_mv (.inl rfl) (by first | exact is_im rfl | exact is_gs rfl | exact is_lit rfl | exact is_ms rfl | exact is_sc rfl | exact rfl)) ?_
        refine d_q0 rfl rfl (q_mv (.inl rfl) (is_sc rfl)) ?_
        refine d_q0 rfl rfl (q_index rfl rfl rfl rfl (Int.natCast_nonneg _) (by omega)) ?_
        refine d_q0 rfl rfl (q_field rfl rfl (by exact rfl)) ?_
        refine d_q1 rfl rfl (q_loadPin rfl rfl (by exact (take_lst1 hlt (by decide)).trans rfl)) ?_
        refine d_q0 rfl rfl (q_mv (.inl rfl) (by first | exact is_im rfl | exact is_gs rfl | exact is_lit rfl | exact is_ms rfl | exact is_sc rfl | exact rfl)) ?_
        refine d_q0 rfl rfl (q_mv (.inl rfl) (is_sc rfl)) ?_
        refine d_q0 rfl rfl (q_index rfl rfl rfl rfl (by first | decide | (simp; done)) (by first | (simp; done) | decide | (show IntKind.i64.wrap (0 + 1) < 2; decide))) ?_
        refine d_q1 rfl rfl (q_load rfl rfl (by exact (rfl : _ = some (D.sc _)))) ?_
        refine d_q0 rfl rfl (q_eql rfl rfl rfl) ?_
        refine d_q0 rfl rfl (q_pickF rfl rfl (is_sc rfl)) ?_
        refine d_q0 rfl rfl (q_mv (.inr rfl) (is_sc rfl)) ?_
        refine d_nil (b_n (n_n (w_reg (s_q rfl rfl (q_mv (.inl rfl) (is_sc rfl)) ?_))))
        refine s_q rfl rfl (q_add rfl rfl rfl) ?_
        refine s_q rfl rfl (q_mv (.inr rfl) (is_sc rfl)) ?_
        refine s_nil (n_n (u_s (w_seq (w_seq (w_reg (s_q rfl rfl (q_mv (.inl rfl) (is_sc rfl)) ?_))))))
        refine s_q rfl rfl (q_mv (.inl rfl) (by first | exact is_im rfl | exact is_gs rfl | exact is_lit rfl | exact is_ms rfl | exact is_sc rfl | exact rfl)) ?_
        refine s_q rfl rfl (q_len rfl rfl rfl) ?_
        refine s_q rfl rfl (q_lss rfl rfl rfl) ?_
        refine s_nil (n_n (w_ifT rfl (w_skip (n_n (w_seq (w_block (w_draw [0, 1, 3, 3, 15, 31, 63, 3, 3, 387, 899, 2047, 4095, 8191] [0, 0, 0, 0, 0, 0, 1, 0, 0, 0, 1, 0, 0, 0] rfl ?_)))))))
        refine d_q0 rfl rfl (q_mv (.inl rfl) (is_sc rfl)) ?_
        refine d_q0 rfl rfl (q_mv (.inl rfl) (is_sc rfl)) ?_
        refine d_split 28 (is_scb rfl) (fun h28 => ?_) (fun h28 => ?_)
        · have g28 := of_decide_eq_true h28
          refine d_off rfl rfl ?_
          refine d_off rfl rfl ?_
          refine d_off rfl rfl ?_
          refine d_off rfl rfl ?_
          refine d_off rfl rfl ?_
          refine d_off rfl rfl ?_
          refine d_off rfl rfl ?_
          refine d_off rfl rfl ?_
          refine d_off rfl rfl ?_
          refine d_off rfl rfl ?_
          refine d_q0 rfl rfl (q_pickT rfl rfl (is_sc rfl)) ?_
          refine d_q0 rfl rfl (q_mv (.inr rfl) (is_sc rfl)) ?_
          refine d_nil (b_n (n_n (w_reg (s_q rfl rfl (q_mv (.inl rfl) (is_sc rfl)) ?_))))
          refine s_q rfl rfl (q_add rfl rfl rfl) ?_
          refine s_q rfl rfl (q_mv (.inr rfl) (is_sc rfl)) ?_
          refine s_nil (n_n (u_s (w_seq (w_seq (w_reg (s_q rfl rfl (q_mv (.inl rfl) (is_sc rfl)) ?_))))))
          refine s_q rfl rfl (q_mv (.inl rfl) (by first | exact is_im rfl | exact is_gs rfl | exact is_lit rfl | exact is_ms rfl | exact is_sc rfl | exact rfl)) ?_
          refine s_q rfl rfl (q_len rfl rfl rfl) ?_
          refine s_q rfl rfl (q_lss rfl rfl rfl) ?_
          refine s_nil (n_n (w_ifT rfl (w_skip (n_n (w_seq (w_block (w_draw [0, 1, 3, 3, 15, 31, 63, 3, 3, 387, 899, 2047, 4095, 8191] [0, 0, 0, 0, 0, 0, 1, 0, 0, 0, 1, 0, 0, 0] rfl ?_)))))))
          refine d_q0 rfl rfl (q_mv (.inl rfl) (is_sc rfl)) ?_
          refine d_q0 rfl rfl (q_mv (.inl rfl) (is_sc rfl)) ?_
          refine d_off rfl rfl ?_
          refine d_off rfl rfl ?_
          refine d_off rfl rfl ?_
          refine d_off rfl rfl ?_
          refine d_off rfl rfl ?_
          refine d_off rfl rfl ?_
          refine d_off rfl rfl ?_
          refine d_off rfl rfl ?_
          refine d_off rfl rfl ?_
          refine d_off rfl rfl ?_
          refine d_q0 rfl rfl (q_pickT rfl rfl (is_sc rfl)) ?_
          refine d_q0 rfl rfl (q_mv (.inr rfl) (is_sc rfl)) ?_
          refine d_nil (b_n (n_n (w_reg (s_q rfl rfl (q_mv (.inl rfl) (is_sc rfl)) ?_))))
          refine s_q rfl rfl (q_add rfl rfl rfl) ?_
          refine s_q rfl rfl (q_mv (.inr rfl) (is_sc rfl)) ?_
          refine s_nil (n_n (u_0 (w_seq (w_seq (w_reg (s_q rfl rfl (q_mv (.inl rfl) (is_sc rfl)) ?_))))))
          refine s_q rfl rfl (q_mv (.inl rfl) (by first | exact is_im rfl | exact is_gs rfl | exact is_lit rfl | exact is_ms rfl | exact is_sc rfl | exact rfl)) ?_
          refine s_q rfl rfl (q_len rfl rfl rfl) ?_
          refine s_q rfl rfl (q_lss rfl rfl rfl) ?_
          refine s_nil (n_n (w_ifF rfl (w_exit (n_e (n_e (b_hit (n_n (w_seq (w_reg (s_q rfl rfl (q_mv (.inl rfl) (is_sc rfl)) ?_))))))))))
          refine s_q rfl rfl (q_not rfl rfl) ?_
          refine s_nil (n_n (w_ifF rfl (w_skip (b_n (n_n (w_reg (s_q rfl rfl (q_mv (.inl rfl) (is_sc rfl)) ?_)))))))
          refine s_q rfl rfl (q_add rfl rfl rfl) ?_
          refine s_q rfl rfl (q_mv (.inr rfl) (is_sc rfl)) ?_
          refine s_nil (n_n ?_)
          have hw : IntKind.i64.wrap ((i : Int) + 1) = ((i + 1 : Nat) : Int) := wrap_nat (by omega)
          have hs : kOKv F[i] = true := by unfold kOKv; simp only [Bool.or_eq_true, decide_eq_true_eq]; omega
          refine ⟨⟨i + 1, hlt, take_more' hlt hp hs, ⟨rfl, rfl, i64_eq hw, trivial⟩, rfl⟩, ?_⟩
          show F.length - (IntKind.i64.wrap ((i : Int) + 1)).toNat < F.length - (i : Int).toNat
          rw [hw]; omega
        · have g28 := of_decide_eq_false h28
          refine d_q0 rfl rfl (q_mv (.inl rfl) (by first | exact is_im rfl | exact is_gs rfl | exact is_lit rfl | exact is_ms rfl | exact is_sc rfl | exact rfl)) ?_
          refine d_q0 rfl rfl (q_mv (.inl rfl) (is_sc rfl)) ?_
          refine d_q0 rfl rfl (q_index rfl rfl rfl rfl (Int.natCast_nonneg _) (by omega)) ?_
          refine d_q0 rfl rfl (q_field rfl rfl (by exact rfl)) ?_
          refine d_q1 rfl rfl (q_loadPin rfl rfl (by exact (take_lst1 hlt (by decide)).trans rfl)) ?_
          refine d_q0 rfl rfl (q_mv (.inl rfl) (by first | exact is_im rfl | exact is_gs rfl | exact is_lit rfl | exact is_ms rfl | exact is_sc rfl | exact rfl)) ?_
          refine d_q0 rfl rfl (q_mv (.inl rfl) (is_sc rfl)) ?_
          refine d_q0 rfl rfl (q_index rfl rfl rfl rfl (by first | decide | (simp; done)) (by first | (simp; done) | decide | (show IntKind.i64.wrap (0 + 1) < 2; decide))) ?_
          refine d_q1 rfl rfl (q_load rfl rfl (by exact (rfl : _ = some (D.sc _)))) ?_
          refine d_q0 rfl rfl (q_eql rfl rfl rfl) ?_
          refine d_q0 rfl rfl (q_pickF rfl rfl (is_sc rfl)) ?_
          refine d_q0 rfl rfl (q_mv (.inr rfl) (is_sc rfl)) ?_
          refine d_nil (b_n (n_n (w_reg (s_q rfl rfl (q_mv (.inl rfl) (is_sc rfl)) ?_))))
          refine s_q rfl rfl (q_add rfl rfl rfl) ?_
          refine s_q rfl rfl (q_mv (.inr rfl) (is_sc rfl)) ?_
          refine s_nil (n_n (u_s (w_seq (w_seq (w_reg (s_q rfl rfl (q_mv (.inl rfl) (is_sc rfl)) ?_))))))
          refine s_q rfl rfl (q_mv (.inl rfl) (by first | exact is_im rfl | exact is_gs rfl | exact is_lit rfl | exact is_ms rfl | exact is_sc rfl | exact rfl)) ?_
          refine s_q rfl rfl (q_len rfl rfl rfl) ?_
          refine s_q rfl rfl (q_lss rfl rfl rfl) ?_
          refine s_nil (n_n (w_ifT rfl (w_skip (n_n (w_seq (w_block (w_draw [0, 1, 3, 3, 15, 31, 63, 3, 3, 387, 899, 2047, 4095, 8191] [0, 0, 0, 0, 0, 0, 1, 0, 0, 0, 1, 0, 0, 0] rfl ?_)))))))
          refine d_q0 rfl rfl (q_mv (.inl rfl) (is_sc rfl)) ?_
          refine d_q0 rfl rfl (q_mv (.inl rfl) (is_sc rfl)) ?_
          refine d_split 28 (is_scb rfl) (fun h28 => ?_) (fun h28 => ?_)
          · have g28 := of_decide_eq_true h28
            refine d_off rfl rfl ?_
            refine d_off rfl rfl ?_
            refine d_off rfl rfl ?_
            refine d_off rfl rfl ?_
            refine d_off rfl rfl ?_
            refine d_off rfl rfl ?_
            refine d_off rfl rfl ?_
            refine d_off rfl rfl ?_
            refine d_off rfl rfl ?_
            refine d_off rfl rfl ?_
            refine d_q0 rfl rfl (q_pickT rfl rfl (is_sc rfl)) ?_
            refine d_q0 rfl rfl (q_mv (.inr rfl) (is_sc rfl)) ?_
            refine d_nil (b_n (n_n (w_reg (s_q rfl rfl (q_mv (.inl rfl) (is_sc rfl)) ?_))))
            refine s_q rfl rfl (q_add rfl rfl rfl) ?_
            refine s_q rfl rfl (q_mv (.inr rfl) (is_sc rfl)) ?_
            refine s_nil (n_n (u_0 (w_seq (w_seq (w_reg (s_q rfl rfl (q_mv (.inl rfl) (is_sc rfl)) ?_))))))
            refine s_q rfl rfl (q_mv (.inl rfl) (by first | exact is_im rfl | exact is_gs rfl | exact is_lit rfl | exact is_ms rfl | exact is_sc rfl | exact rfl)) ?_
            refine s_q rfl rfl (q_len rfl rfl rfl) ?_
            refine s_q rfl rfl (q_lss rfl rfl rfl) ?_
            refine s_nil (n_n (w_ifF rfl (w_exit (n_e (n_e (b_hit (n_n (w_seq (w_reg (s_q rfl rfl (q_mv (.inl rfl) (is_sc rfl)) ?_))))))))))
            refine s_q rfl rfl (q_not rfl rfl) ?_
            refine s_nil (n_n (w_ifF rfl (w_skip (b_n (n_n (w_reg (s_q rfl rfl (q_mv (.inl rfl) (is_sc rfl)) ?_)))))))
            refine s_q rfl rfl (q_add rfl rfl rfl) ?_
            refine s_q rfl rfl (q_mv (.inr rfl) (is_sc rfl)) ?_
            refine s_nil (n_n ?_)
            have hw : IntKind.i64.wrap ((i : Int) + 1) = ((i + 1 : Nat) : Int) := wrap_nat (by omega)
            have hs : kOKv F[i] = true := by unfold kOKv; simp only [Bool.or_eq_true, decide_eq_true_eq]; omega
            refine ⟨⟨i + 1, hlt, take_more' hlt hp hs, ⟨rfl, rfl, i64_eq hw, trivial⟩, rfl⟩, ?_⟩
            show F.length - (IntKind.i64.wrap ((i : Int) + 1)).toNat < F.length - (i : Int).toNat
            rw [hw]; omega
          · have g28 := of_decide_eq_false h28
            refine d_q0 rfl rfl (q_mv (.inl rfl) (by first | exact is_im rfl | exact is_gs rfl | exact is_lit rfl | exact is_ms rfl | exact is_sc rfl | exact rfl)) ?_
            refine d_q0 rfl rfl (q_mv (.inl rfl) (is_sc rfl)) ?_
            refine d_q0 rfl rfl (q_index rfl rfl rfl rfl (Int.natCast_nonneg _) (by omega)) ?_
            refine d_q0 rfl rfl (q_field rfl rfl (by exact rfl)) ?_
            refine d_q1 rfl rfl (q_loadPin rfl rfl (by exact (take_lst1 hlt (by decide)).trans rfl)) ?_
            refine d_q0 rfl rfl (q_mv (.inl rfl) (by first | exact is_im rfl | exact is_gs rfl | exact is_lit rfl | exact is_ms rfl | exact is_sc rfl | exact rfl)) ?_
            refine d_q0 rfl rfl (q_mv (.inl rfl) (is_sc rfl)) ?_
            refine d_q0 rfl rfl (q_index rfl rfl rfl rfl (by first | decide | (simp; done)) (by first | (simp; done) | decide | (show IntKind.i64.wrap (0 + 1) < 2; decide))) ?_
            refine d_q1 rfl rfl (q_load rfl rfl (by exact (rfl : _ = some (D.sc _)))) ?_
            refine d_q0 rfl rfl (q_eql rfl rfl rfl) ?_
            refine d_q0 rfl rfl (q_pickF rfl rfl (is_sc rfl)) ?_
            refine d_q0 rfl rfl (q_mv (.inr rfl) (is_sc rfl)) ?_
            refine d_nil (b_n (n_n (w_reg (s_q rfl rfl (q_mv (.inl rfl) (is_sc rfl)) ?_))))
            refine s_q rfl rfl (q_add rfl rfl rfl) ?_
            refine s_q rfl rfl (q_mv (.inr rfl) (is_sc rfl)) ?_
            refine s_nil (n_n (u_0 (w_seq (w_seq (w_reg (s_q rfl rfl (q_mv (.inl rfl) (is_sc rfl)) ?_))))))
            refine s_q rfl rfl (q_mv (.inl rfl) (by first | exact is_im rfl | exact is_gs rfl | exact is_lit rfl | exact is_ms rfl | exact is_sc rfl | exact rfl)) ?_
            refine s_q rfl rfl (q_len rfl rfl rfl) ?_
            refine s_q rfl rfl (q_lss rfl rfl rfl) ?_
            refine s_nil (n_n (w_ifF rfl (w_exit (n_e (n_e (b_hit (n_n (w_seq (w_reg (s_q rfl rfl (q_mv (.inl rfl) (is_sc rfl)) ?_))))))))))
            refine s_q rfl rfl (q_not rfl rfl) ?_
            refine s_nil (n_n (w_if (is_scb rfl) (fun h41 => ?_) (fun h41 => ?_)))
            · have g41 : ¬ F[i].kind = 3 := by simpa using h41
              refine w_seq (w_reg (s_q rfl rfl (q_mv (.inr rfl) (is_sc rfl)) ?_))
              refine s_nil (n_n (w_ret (b_r (n_r (n_r (b_r (n_r ?_)))))))
              -- end 0
              refine r_r (ra_tmp (is_sc rfl) ra_nil) (by exact (is_sc rfl)) (by exact rfl) sub_no ?_
              rw [show F.all kOKv = false from List.all_eq_false.2 ⟨F[i], List.getElem_mem hlt, by unfold kOKv; simp only [Bool.or_eq_true, decide_eq_true_eq]; omega⟩]
            · have g41 : F[i].kind = 3 := by simpa using h41
              refine w_skip (b_n (n_n (w_reg (s_q rfl rfl (q_mv (.inl rfl) (is_sc rfl)) ?_))))
              refine s_q rfl rfl (q_add rfl rfl rfl) ?_
              refine s_q rfl rfl (q_mv (.inr rfl) (is_sc rfl)) ?_
              refine s_nil (n_n ?_)
              have hw : IntKind.i64.wrap ((i : Int) + 1) = ((i + 1 : Nat) : Int) := wrap_nat (by omega)
              have hs : kOKv F[i] = true := by unfold kOKv; simp only [Bool.or_eq_true, decide_eq_true_eq]; omega
              refine ⟨⟨i + 1, hlt, take_more' hlt hp hs, ⟨rfl, rfl, i64_eq hw, trivial⟩, rfl⟩, ?_⟩
              show F.length - (IntKind.i64.wrap ((i : Int) + 1)).toNat < F.length - (i : Int).toNat
              rw [hw]; omega
    · have hge : F.length ≤ i := by have h' : ¬ (i : Int) < ((F.length : Nat) : Int) := of_decide_eq_false h18; omega
      refine w_exit (n_e (n_e (b_hit (n_n (w_seq (w_reg (s_q rfl rfl (q_mv (.inr rfl) (is_sc rfl)) ?_)))))))
      refine s_nil (n_n (w_ret ?_))
      -- end 1
      refine r_r (ra_tmp (is_sc rfl) ra_nil) (by exact (is_sc rfl)) (by exact rfl) sub_no ?_
      rw [show F.all kOKv = true from List.all_eq_true.2 fun x hx => take_all' hge hp x hx]


-- pub-tallysheet/spec.kinds
theorem pf_kindsF (v : V) (hk : ¬ v.kind = 5) : PF Tryz.prog G 103 [v.d, .im [i64 1, i64 2, i64 0, i64 3] 4] (bl false) := by
  refine PC.intro rfl Tryz.func103 rfl (Nat.le_of_ble_eq_true rfl) rfl ?_
  refine w_seq (w_reg (s_s rfl rfl (as_box0 (id := 0) rfl (by first | exact (rfl : _ = D.agg [_, _, _, _, _]) | exact rfl) (by exact rfl) rfl (by exact (rfl : _ = [_, _, _, _, _]))) ?_))
  refine s_q rfl rfl (q_mv (.inr rfl) (is_sc rfl)) ?_
  refine s_nil (n_n (w_seq (w_seq (w_reg (s_q rfl rfl (q_field rfl rfl (by exact rfl)) ?_)))))
  refine s_q rfl rfl (q_load rfl rfl (by exact (rfl : _ = some (D.sc _)))) ?_
  refine s_q rfl rfl (q_as (bl_yes (hk)) (q_neq rfl rfl rfl)) ?_
  refine s_nil (n_n (w_ifT rfl (w_seq (w_reg (s_q rfl rfl (q_mv (.inr rfl) (is_sc rfl)) ?_)))))
  refine s_nil (n_n (w_ret (n_r ?_)))
  -- end 0
  refine r_r (ra_tmp (is_sc rfl) ra_nil) (by exact (is_sc rfl)) (by exact rfl) sub_no ?_
  rfl


theorem pf_kindsA (v : V) (hO : Ok [v]) : PF Tryz.prog G 103 [v.d, .im [i64 1, i64 2, i64 0, i64 3] 4] (bl (decide (v.kind = 5) && (flatV [v]).all kOKv)) := by
  by_cases hk : v.kind = 5
  · rw [decide_eq_true hk, Bool.true_and]
    exact pf_kindsT v (flatV [v]) hk hO.flat (pf_flat [v] hO)
  · rw [decide_eq_false hk, Bool.false_and]
    exact pf_kindsF v hk


theorem ok_at {l : List V} {i : Nat} (hO : Ok l) (h : i < l.length) : Ok [l[i]] where
  len := by simp
  flat := by
    have hfs := flatV_le l (i + 1)
    rw [List.take_succ_eq_append_getElem h, flatV_append, List.length_append] at hfs
    have := hO.flat
    omega
  rows := fun v hv e => by rw [List.mem_singleton.1 hv] at e ⊢; exact hO.rows _ (List.getElem_mem h) e
theorem flat_mem {l : List V} {i : Nat} (h : i < l.length) {v : V} (hv : v ∈ flatV [l[i]]) : v ∈ flatV l := by
  unfold flatV at hv ⊢
  rw [List.mem_flatMap] at hv ⊢
  obtain ⟨w, hw, h2⟩ := hv
  exact ⟨w, by rw [List.mem_singleton.1 hw]; exact List.getElem_mem h, h2⟩
theorem kok_at {v : V} {F : List V} (hk : v.kind = 1 ∨ (v.kind = 5 ∧ F.all kOKv = true)) (hF : flatV [v] = F) {j : Nat} (hj : j < F.length) : kOKv F[j] = true := by
  rcases hk with hk | ⟨_, ha⟩
  · have e : F = [v] := by rw [← hF, flatV_one, if_neg (by omega)]
    have : F[j] = v := by subst e; simp at hj; subst hj; rfl
    rw [this]; unfold kOKv; rw [decide_eq_true hk]; rfl
  · exact List.all_eq_true.1 ha _ (List.getElem_mem hj)
theorem mid_cell {v : V} {F : List V} (hk : v.kind = 1 ∨ (v.kind = 5 ∧ F.all kOKv = true)) (hF : flatV [v] = F) {j : Nat} (hj : j < F.length) (h1 : ¬ F[j].kind = 1) (hb : okMc F[j] = false) : okM v = false := by
  rcases hk with hk | ⟨hk, _⟩
  · have e : F = [v] := by rw [← hF, flatV_one, if_neg (by omega)]
    have : F[j] = v := by subst e; simp at hj; subst hj; rfl
    rw [this] at h1; exact absurd hk h1
  · unfold okM
    rw [decide_eq_false (by omega), Bool.false_or, decide_eq_true hk, Bool.true_and, show v.rows.flatten.map U.v = F by rw [← hF, flatV_one, if_pos hk]]
    exact List.all_eq_false.2 ⟨_, List.getElem_mem hj, by rw [hb]; simp⟩


-- pub-tallysheet/spec.middle
theorem pf_middle (l : List V) (hne : ¬ l = []) (hO : Ok l) (hl9 : (flatV l).length ≤ 100000) (hT : ∀ v ∈ flatV l, v.text.length < 4000000000) : PF Tryz.prog G 184 [lst l, bl false] (midD l) := by
  have hlen := hO.len
  have hpos : 0 < l.length := List.length_pos_iff.mpr hne
  refine PC.intro rfl Tryz.func184 rfl (Nat.le_of_ble_eq_true rfl) rfl ?_
  refine w_seq (w_reg (s_q rfl rfl (q_mv (.inr rfl) (by first | exact is_im rfl | exact is_gs rfl | exact is_lit rfl | exact is_ms rfl | exact is_sc rfl | exact rfl)) ?_))
  refine s_q rfl rfl (q_mv (.inr rfl) (is_sc rfl)) ?_
  refine s_nil (n_n (w_seq (w_reg (s_s rfl rfl (as_nil (e := 27) (.inl rfl) rfl) ?_))))
  refine s_nil (n_n (w_seq (w_seq (w_reg (s_q rfl rfl (q_mv (.inr rfl) (is_sc rfl)) ?_)))))
  refine s_nil (n_n (w_block ?_))
  refine w_loop (fun env A => ∃ (i t : Nat) (live : Nat → Bool) (ln : Nat), i ≤ l.length ∧ (∀ x ∈ l.take i, okM x = true) ∧ Binds env [(0, lst l), (1, bl false), (6, .gs t 27 ((n1 (flatV (l.take i))).flatMap V.c) (n1 (flatV (l.take i))).length), (7, i64 i)] ∧ A = ⟨[], live, ln, noHeap⟩ ∧ live t = true) (fun env _ => l.length - ctr (env 7)) ?_ ?_
  · exact ⟨0, _, _, _, Nat.zero_le _, by simp, ⟨rfl, rfl, rfl, rfl, trivial⟩, rfl, rfl⟩
  · rintro env A ⟨i, t, live, ln, hi, hp, hB, rfl, hv⟩
    rw [hB.eq]; clear hB
    refine w_seq (w_seq (w_reg (s_q rfl rfl (q_mv (.inl rfl) (is_sc rfl)) ?_)))
    refine s_q rfl rfl (q_mv (.inl rfl) (by first | exact is_im rfl | exact is_gs rfl | exact is_lit rfl | exact is_ms rfl | exact is_sc rfl | exact rfl)) ?_
    refine s_q rfl rfl (q_len rfl rfl rfl) ?_
    refine s_q rfl rfl (q_lss rfl rfl rfl) ?_
    refine s_nil (n_n (w_if (is_scb rfl) (fun h13 => ?_) (fun h13 => ?_)))
    · have hlt : i < l.length := by have h' : (i : Int) < ((l.length : Nat) : Int) := of_decide_eq_true h13; omega
      obtain ⟨F, hF⟩ : ∃ F, flatV [l[i]] = F := ⟨_, rfl⟩
      have hO1 : Ok [l[i]] := ok_at hO hlt
      have hfl1 := pf_flat (G := G) [l[i]] hO1
      rw [hF] at hfl1
      have hFl : F.length < 1000000000 := by rw [← hF]; exact hO1.flat
      have hkin := pf_kindsA (G := G) l[i] hO1
      rw [hF] at hkin
      refine w_skip (n_n (w_seq (w_block (w_seq (w_joinQ (fun env A => (l[i].kind = 1 ∨ (l[i].kind = 5 ∧ F.all kOKv = true)) ∧ Binds env [(0, lst l), (1, bl false), (6, .gs t 27 ((n1 (flatV (l.take i))).flatMap V.c) (n1 (flatV (l.take i))).length), (7, i64 i)] ∧ A = ⟨[], live, ln, noHeap⟩) ?_ ?_)))))
      · refine w_seq (w_reg (s_q rfl rfl (q_mv (.inl rfl) (by first | exact is_im rfl | exact is_gs rfl | exact is_lit rfl | exact is_ms rfl | exact is_sc rfl | exact rfl)) ?_))
        refine s_q rfl rfl (q_mv (.inl rfl) (is_sc rfl)) ?_
        refine s_q rfl rfl (q_index rfl rfl rfl rfl (Int.natCast_nonneg _) (by omega)) ?_
        refine s_q rfl rfl (q_field rfl rfl (by exact rfl)) ?_
        refine s_q rfl rfl (q_loadPin rfl rfl (by exact (take_lst1 hlt (by decide)).trans rfl)) ?_
        refine s_q rfl rfl (q_neq rfl rfl rfl) ?_
        refine s_q rfl rfl (q_mv (.inl rfl) (is_sc rfl)) ?_
        refine s_split 22 (is_scb rfl) (fun h22 => ?_) (fun h22 => ?_)
        · have g22 := of_decide_eq_true h22
          refine s_q rfl rfl (q_mv (.inl rfl) (by first | exact is_im rfl | exact is_gs rfl | exact is_lit rfl | exact is_ms rfl | exact is_sc rfl | exact rfl)) ?_
          refine s_q rfl rfl (q_mv (.inl rfl) (is_sc rfl)) ?_
          refine s_q rfl rfl (q_index rfl rfl rfl rfl (Int.natCast_nonneg _) (by omega)) ?_
          refine s_q rfl rfl (q_loadPin rfl rfl (by exact take_lst hlt)) ?_
          refine s_q rfl rfl (q_bs rfl (pt_cons (is_sc rfl) (pt_cons (is_sc rfl) (pt_cons (is_sc rfl) (pt_cons (is_sc rfl) pt_nil)))) (by decide) (by decide) (by exact (rfl : _ = some [_, _, _, _])) (by exact (rfl : _ = [_, _, _, _])) (by exact rfl) (by exact rfl)) ?_
          refine s_q rfl rfl (q_call rfl rfl rfl rfl hkin) ?_
          refine s_q rfl rfl (q_not rfl rfl) ?_
          refine s_q rfl rfl (q_pickT rfl rfl (is_sc rfl)) ?_
          refine s_nil (n_n (w_if (is_scb rfl) (fun h30 => ?_) (fun h30 => ?_)))
          · refine w_seq (w_reg (s_q rfl rfl (q_mv (.inr rfl) (by first | exact is_im rfl | exact is_gs rfl | exact is_lit rfl | exact is_ms rfl | exact is_sc rfl | exact rfl)) ?_))
            refine s_q rfl rfl (q_mv (.inr rfl) (is_sc rfl)) ?_
            refine s_nil (n_n (w_ret (j_r (n_r (b_r (n_r (n_r (b_r (n_r ?_)))))))))
            -- end 0
            refine r_r (ra_tmp (by first | exact is_im rfl | exact is_gs rfl | exact is_lit rfl | exact is_ms rfl | exact is_sc rfl | exact rfl) (ra_tmp (is_sc rfl) ra_nil)) (by exact (rfl : _ = D.tup [_, _])) (by exact rfl) sub_no ?_
            have g30 : (decide (l[i].kind = 5) && F.all kOKv) = false := by
              cases hb : (decide (l[i].kind = 5) && F.all kOKv) with
              | false => rfl
              | true => rw [hb] at h30; cases h30
            rw [mid_bad hlt (mid_arg g22 hF g30)]; rfl
          · refine w_skip (j_n ?_)
            have g30 : (decide (l[i].kind = 5) && F.all kOKv) = true := by simpa using h30
            rw [Bool.and_eq_true, decide_eq_true_eq] at g30
            exact ⟨.inr g30, ⟨rfl, rfl, rfl, rfl, trivial⟩, rfl⟩
        · have g22 := of_decide_eq_false h22
          refine s_off rfl rfl ?_
          refine s_off rfl rfl ?_
          refine s_off rfl rfl ?_
          refine s_off rfl rfl ?_
          refine s_off rfl rfl ?_
          refine s_off rfl rfl ?_
          refine s_off rfl rfl ?_
          refine s_q rfl rfl (q_pickF rfl rfl (is_sc rfl)) ?_
          refine s_nil (n_n (w_ifF rfl (w_skip (j_n ?_))))
          exact ⟨.inl (by omega), ⟨rfl, rfl, rfl, rfl, trivial⟩, rfl⟩
      · rintro env A ⟨hk, hB, rfl⟩
        rw [hB.eq]; clear hB
        refine n_n (w_seq (w_reg (s_q rfl rfl (q_mv (.inl rfl) (by first | exact is_im rfl | exact is_gs rfl | exact is_lit rfl | exact is_ms rfl | exact is_sc rfl | exact rfl)) ?_)))
        refine s_q rfl rfl (q_mv (.inl rfl) (is_sc rfl)) ?_
        refine s_q rfl rfl (q_mv (.inl rfl) (is_sc rfl)) ?_
        refine s_q rfl rfl (q_add rfl rfl rfl) ?_
        refine s_q rfl rfl (q_cutIm (a := i) (b := i + 1) (k := 1) rfl rfl rfl ⟨_, _, rfl, Int.natCast_nonneg _, rfl⟩ ⟨_, _, rfl, by rw [wrap_nat (by omega)]; exact Int.natCast_nonneg _, by rw [wrap_nat (by omega)]; rfl⟩ (by omega) (by omega) (cut_one hlt) (by omega)) ?_
        refine s_q rfl rfl (q_call rfl rfl rfl rfl hfl1) ?_
        refine s_q rfl rfl (q_mv (.inr rfl) (by first | exact is_im rfl | exact is_gs rfl | exact is_lit rfl | exact is_ms rfl | exact is_sc rfl | exact rfl)) ?_
        refine s_nil (n_n (w_seq (w_reg (s_q rfl rfl (q_mv (.inr rfl) (is_sc rfl)) ?_))))
        refine s_nil (n_n (w_block ?_))
        refine w_loop (fun env A => ∃ (j t : Nat) (live : Nat → Bool) (ln : Nat), j ≤ F.length ∧ (∀ x ∈ F.take j, okMc x = true) ∧ Binds env [(0, lst l), (1, bl false), (6, .gs t 27 (((n1 (flatV (l.take i))) ++ n1 (F.take j)).flatMap V.c) ((n1 (flatV (l.take i))) ++ n1 (F.take j)).length), (7, i64 i), (8, lst F), (9, i64 j)] ∧ A = ⟨[], live, ln, noHeap⟩ ∧ live t = true) (fun env _ => F.length - ctr (env 9)) ?_ ?_
        · refine ⟨0, t, live, ln, Nat.zero_le _, by simp, ⟨rfl, rfl, ?_, rfl, rfl, rfl, trivial⟩, rfl, hv⟩
          rw [show n1 (F.take 0) = [] from rfl, List.append_nil]
          rfl
        · clear hv
          rintro env A ⟨j, t, live, ln, hj, hq, hB, rfl, hv⟩
          rw [hB.eq]; clear hB
          have hyl : ((n1 (flatV (l.take i))) ++ n1 (F.take j)).length ≤ 100000 := by rw [List.length_append]; have a1 := n1_len (flatV (l.take i)); have a2 := n1_len (F.take j); have a3 := flatV_le l (i + 1); rw [List.take_succ_eq_append_getElem hlt, flatV_append, hF, List.length_append] at a3; rw [List.length_take] at a2; omega
          refine w_seq (w_seq (w_reg (s_q rfl rfl (q_mv (.inl rfl) (is_sc rfl)) ?_)))
          refine s_q rfl rfl (q_mv (.inl rfl) (by first | exact is_im rfl | exact is_gs rfl | exact is_lit rfl | exact is_ms rfl | exact is_sc rfl | exact rfl)) ?_
          refine s_q rfl rfl (q_len rfl rfl rfl) ?_
          refine s_q rfl rfl (q_lss rfl rfl rfl) ?_
          refine s_nil (n_n (w_if (is_scb rfl) (fun h40 => ?_) (fun h40 => ?_)))
          · have hjlt : j < F.length := by have h' : (j : Int) < ((F.length : Nat) : Int) := of_decide_eq_true h40; omega
            have hjm : F[j] ∈ flatV l := flat_mem hlt (by rw [hF]; exact List.getElem_mem hjlt)
            have htx := hT _ hjm
            refine w_skip (n_n (w_seq (w_block (w_block (w_seq (w_reg (s_q rfl rfl (q_mv (.inl rfl) (by first | exact is_im rfl | exact is_gs rfl | exact is_lit rfl | exact is_ms rfl | exact is_sc rfl | exact rfl)) ?_)))))))
            refine s_q rfl rfl (q_mv (.inl rfl) (is_sc rfl)) ?_
            refine s_q rfl rfl (q_index rfl rfl rfl rfl (Int.natCast_nonneg _) (by omega)) ?_
            refine s_q rfl rfl (q_field rfl rfl (by exact rfl)) ?_
            refine s_q rfl rfl (q_loadPin rfl rfl (by exact (take_lst1 hjlt (by decide)).trans rfl)) ?_
            refine s_q rfl rfl (q_eql rfl rfl rfl) ?_
            refine s_q rfl rfl (q_mv (.inr rfl) (is_sc rfl)) ?_
            refine s_nil (n_n (w_if (is_scb rfl) (fun h43 => ?_) (fun h43 => ?_)))
            · have g43 := of_decide_eq_true h43
              refine w_reg (s_q rfl rfl (q_mv (.inl rfl) (by first | exact is_im rfl | exact is_gs rfl | exact is_lit rfl | exact is_ms rfl | exact is_sc rfl | exact rfl)) ?_)
              refine s_q rfl rfl (q_mv (.inl rfl) (by first | exact is_im rfl | exact is_gs rfl | exact is_lit rfl | exact is_ms rfl | exact is_sc rfl | exact rfl)) ?_
              refine s_q rfl rfl (q_mv (.inl rfl) (is_sc rfl)) ?_
              refine s_q rfl rfl (q_index rfl rfl rfl rfl (Int.natCast_nonneg _) (by omega)) ?_
              refine s_q rfl rfl (q_loadPin rfl rfl (by exact take_lst hjlt)) ?_
              refine s_q rfl rfl (q_bs rfl (pt_cons (by first | exact (rfl : _ = D.agg [_, _, _, _, _]) | exact rfl) pt_nil) (by decide) (by decide) (by exact (rfl : _ = some [_, _, _, _, _])) (by exact (rfl : _ = [_, _, _, _, _])) (by exact rfl) (by exact rfl)) ?_
              refine s_s rfl rfl (as_append rfl rfl hv rfl rfl (by decide) (by exact len_lst _) (by exact rfl) (by show (_ + 1) * 64 ≤ _; omega) (by show _ + 1 ≤ 9223372036854775807; omega)) ?_
              refine s_q rfl rfl (q_mv (.inr rfl) (by first | exact is_im rfl | exact is_gs rfl | exact is_lit rfl | exact is_ms rfl | exact is_sc rfl | exact rfl)) ?_
              refine s_nil (b_n (b_n (n_n (w_reg (s_q rfl rfl (q_mv (.inl rfl) (is_sc rfl)) ?_)))))
              refine s_q rfl rfl (q_add rfl rfl rfl) ?_
              refine s_q rfl rfl (q_mv (.inr rfl) (is_sc rfl)) ?_
              refine s_nil (n_n ?_)
              have hw : IntKind.i64.wrap ((j : Int) + 1) = ((j + 1 : Nat) : Int) := wrap_nat (by omega)
              have hkk := kok_at hk hF hjlt
              have hs : okMc F[j] = true := by unfold okMc; rw [hkk, Bool.true_and]; simp [g43]
              have hn := n1_succ hjlt
              rw [if_pos g43] at hn
              refine ⟨⟨j + 1, ln, _, _, hjlt, take_more' hjlt hq hs, ⟨rfl, rfl, ?_, rfl, rfl, i64_eq hw, trivial⟩, rfl, live_app ⟨_, live, ln, noHeap⟩ t⟩, ?_⟩
              · rw [hn, ← List.append_assoc]; exact gs_cat _ [F[j]]
              · show F.length - (IntKind.i64.wrap ((j : Int) + 1)).toNat < F.length - (j : Int).toNat
                rw [hw]; omega
            · have g43 := of_decide_eq_false h43
              refine w_seq (w_seq (w_reg (s_q rfl rfl (q_mv (.inl rfl) (by first | exact is_im rfl | exact is_gs rfl | exact is_lit rfl | exact is_ms rfl | exact is_sc rfl | exact rfl)) ?_)))
              refine s_q rfl rfl (q_mv (.inl rfl) (is_sc rfl)) ?_
              refine s_q rfl rfl (q_index rfl rfl rfl rfl (Int.natCast_nonneg _) (by omega)) ?_
              refine s_q rfl rfl (q_field rfl rfl (by exact rfl)) ?_
              refine s_q rfl rfl (q_loadPin rfl rfl (by exact (take_lst1 hjlt (by decide)).trans rfl)) ?_
              refine s_q rfl rfl (q_eql rfl rfl rfl) ?_
              refine s_q rfl rfl (q_mv (.inl rfl) (is_sc rfl)) ?_
              refine s_split 64 (is_scb rfl) (fun h64 => ?_) (fun h64 => ?_)
              · have g64 := of_decide_eq_true h64
                refine s_q rfl rfl (q_mv (.inl rfl) (is_sc rfl)) ?_
                refine s_q rfl rfl (q_not rfl rfl) ?_
                refine s_q rfl rfl (q_pickT rfl rfl (is_sc rfl)) ?_
                refine s_q rfl rfl (q_mv (.inr rfl) (is_sc rfl)) ?_
                refine s_nil (n_n (w_ifT rfl (w_skip (n_n (w_ifT rfl (w_seq (w_reg (s_q rfl rfl (q_mv (.inr rfl) (by first | exact is_im rfl | exact is_gs rfl | exact is_lit rfl | exact is_ms rfl | exact is_sc rfl | exact rfl)) ?_))))))))
                refine s_q rfl rfl (q_mv (.inr rfl) (is_sc rfl)) ?_
                refine s_nil (n_n (w_ret (b_r (b_r (n_r (n_r (b_r (b_r (n_r (n_r (b_r (n_r ?_))))))))))))
                -- end 1
                refine r_r (ra_tmp (by first | exact is_im rfl | exact is_gs rfl | exact is_lit rfl | exact is_ms rfl | exact is_sc rfl | exact rfl) (ra_tmp (is_sc rfl) ra_nil)) (by exact (rfl : _ = D.tup [_, _])) (by exact rfl) sub_no ?_
                have hbc : okMc F[j] = false := by unfold okMc; rw [kok_at hk hF hjlt, Bool.true_and]; simp [g64]
                rw [mid_bad hlt (mid_cell hk hF hjlt g43 hbc)]; rfl
              · have g64 := of_decide_eq_false h64
                refine s_off rfl rfl ?_
                refine s_off rfl rfl ?_
                refine s_q rfl rfl (q_pickF rfl rfl (is_sc rfl)) ?_
                refine s_q rfl rfl (q_mv (.inr rfl) (is_sc rfl)) ?_
                refine s_nil (n_n (w_ifF rfl (w_reg (s_q rfl rfl (q_mv (.inl rfl) (by first | exact is_im rfl | exact is_gs rfl | exact is_lit rfl | exact is_ms rfl | exact is_sc rfl | exact rfl)) ?_))))
                refine s_q rfl rfl (q_mv (.inl rfl) (is_sc rfl)) ?_
                refine s_q rfl rfl (q_index rfl rfl rfl rfl (Int.natCast_nonneg _) (by omega)) ?_
                refine s_q rfl rfl (q_field rfl rfl (by exact rfl)) ?_
                refine s_q rfl rfl (q_loadPin rfl rfl (by exact (take_lst1 hjlt (by decide)).trans rfl)) ?_
                refine s_q rfl rfl (q_eql rfl rfl rfl) ?_
                refine s_q rfl rfl (q_mv (.inl rfl) (is_sc rfl)) ?_
                refine s_split 74 (is_scb rfl) (fun h74 => ?_) (fun h74 => ?_)
                · have g74 := of_decide_eq_true h74
                  refine s_q rfl rfl (q_mv (.inl rfl) (by first | exact is_im rfl | exact is_gs rfl | exact is_lit rfl | exact is_ms rfl | exact is_sc rfl | exact rfl)) ?_
                  refine s_q rfl rfl (q_mv (.inl rfl) (is_sc rfl)) ?_
                  refine s_q rfl rfl (q_index rfl rfl rfl rfl (Int.natCast_nonneg _) (by omega)) ?_
                  refine s_q rfl rfl (q_field rfl rfl (by exact rfl)) ?_
                  refine s_q rfl rfl (q_loadPin rfl rfl (by exact (take_lst1 hjlt (by decide)).trans rfl)) ?_
                  refine s_q rfl rfl (q_call rfl rfl rfl rfl (pf_letters _ htx)) ?_
                  refine s_q rfl rfl (q_not rfl rfl) ?_
                  refine s_q rfl rfl (q_pickT rfl rfl (is_sc rfl)) ?_
                  refine s_q rfl rfl (q_mv (.inr rfl) (is_sc rfl)) ?_
                  refine s_nil (n_n (w_if (is_scb rfl) (fun h57 => ?_) (fun h57 => ?_)))
                  · have g57 : lettersB F[j].text = false := by simpa using h57
                    refine w_seq (w_reg (s_q rfl rfl (q_mv (.inr rfl) (by first | exact is_im rfl | exact is_gs rfl | exact is_lit rfl | exact is_ms rfl | exact is_sc rfl | exact rfl)) ?_))
                    refine s_q rfl rfl (q_mv (.inr rfl) (is_sc rfl)) ?_
                    refine s_nil (n_n (w_ret (b_r (b_r (n_r (n_r (b_r (b_r (n_r (n_r (b_r (n_r ?_))))))))))))
                    -- end 2
                    refine r_r (ra_tmp (by first | exact is_im rfl | exact is_gs rfl | exact is_lit rfl | exact is_ms rfl | exact is_sc rfl | exact rfl) (ra_tmp (is_sc rfl) ra_nil)) (by exact (rfl : _ = D.tup [_, _])) (by exact rfl) sub_no ?_
                    have hbc : okMc F[j] = false := by unfold okMc; rw [kok_at hk hF hjlt, Bool.true_and]; simp [g64, g74, g57]
                    rw [mid_bad hlt (mid_cell hk hF hjlt g43 hbc)]; rfl
                  · have g57 : lettersB F[j].text = true := by simpa using h57
                    refine w_skip (b_n (b_n (n_n (w_reg (s_q rfl rfl (q_mv (.inl rfl) (is_sc rfl)) ?_)))))
                    refine s_q rfl rfl (q_add rfl rfl rfl) ?_
                    refine s_q rfl rfl (q_mv (.inr rfl) (is_sc rfl)) ?_
                    refine s_nil (n_n ?_)
                    have hw : IntKind.i64.wrap ((j : Int) + 1) = ((j + 1 : Nat) : Int) := wrap_nat (by omega)
                    have hkk := kok_at hk hF hjlt
                    have hs : okMc F[j] = true := by unfold okMc; rw [hkk, Bool.true_and]; simp [g64, g74, g57]
                    have hn := n1_succ hjlt
                    rw [if_neg g43, List.append_nil] at hn
                    refine ⟨⟨j + 1, t, live, ln, hjlt, take_more' hjlt hq hs, ⟨rfl, rfl, (by rw [hn]; rfl), rfl, rfl, i64_eq hw, trivial⟩, rfl, hv⟩, ?_⟩
                    show F.length - (IntKind.i64.wrap ((j : Int) + 1)).toNat < F.length - (j : Int).toNat
                    rw [hw]; omega
                · have g74 := of_decide_eq_false h74
                  refine s_off rfl rfl ?_
                  refine s_off rfl rfl ?_
                  refine s_off rfl rfl ?_
                  refine s_off rfl rfl ?_
                  refine s_off rfl rfl ?_
                  refine s_off rfl rfl ?_
                  refine s_off rfl rfl ?_
                  refine s_q rfl rfl (q_pickF rfl rfl (is_sc rfl)) ?_
                  refine s_q rfl rfl (q_mv (.inr rfl) (is_sc rfl)) ?_
                  refine s_nil (n_n (w_ifF rfl (w_skip (b_n (b_n (n_n (w_reg (s_q rfl rfl (q_mv (.inl rfl) (is_sc rfl)) ?_))))))))
                  refine s_q rfl rfl (q_add rfl rfl rfl) ?_
                  refine s_q rfl rfl (q_mv (.inr rfl) (is_sc rfl)) ?_
                  refine s_nil (n_n ?_)
                  have hw : IntKind.i64.wrap ((j : Int) + 1) = ((j + 1 : Nat) : Int) := wrap_nat (by omega)
                  have hkk := kok_at hk hF hjlt
                  have hs : okMc F[j] = true := by unfold okMc; rw [hkk, Bool.true_and]; simp [g64, g74]
                  have hn := n1_succ hjlt
                  rw [if_neg g43, List.append_nil] at hn
                  refine ⟨⟨j + 1, t, live, ln, hjlt, take_more' hjlt hq hs, ⟨rfl, rfl, (by rw [hn]; rfl), rfl, rfl, i64_eq hw, trivial⟩, rfl, hv⟩, ?_⟩
                  show F.length - (IntKind.i64.wrap ((j : Int) + 1)).toNat < F.length - (j : Int).toNat
                  rw [hw]; omega
          · have hjge : F.length ≤ j := by have h' : ¬ (j : Int) < ((F.length : Nat) : Int) := of_decide_eq_false h40; omega
            rw [List.take_of_length_le hjge]
            refine w_exit (n_e (n_e (b_hit (b_n (n_n (w_reg (s_q rfl rfl (q_mv (.inl rfl) (is_sc rfl)) ?_)))))))
            refine s_q rfl rfl (q_add rfl rfl rfl) ?_
            refine s_q rfl rfl (q_mv (.inr rfl) (is_sc rfl)) ?_
            refine s_nil (n_n ?_)
            have hw : IntKind.i64.wrap ((i : Int) + 1) = ((i + 1 : Nat) : Int) := wrap_nat (by omega)
            have hF2 : (l.take (i + 1)) = l.take i ++ [l[i]] := List.take_succ_eq_append_getElem hlt
            have hok : okM l[i] = true := by
              unfold okM
              rcases hk with hk | ⟨hk, hka⟩
              · rw [decide_eq_true hk]; rfl
              · rw [decide_eq_true hk, Bool.true_and, show l[i].rows.flatten.map U.v = F by rw [← hF, flatV_one, if_pos hk], List.all_eq_true.2 (take_all' hjge hq), Bool.or_true]
            refine ⟨⟨i + 1, t, _, _, hlt, take_more' hlt hp hok, ⟨rfl, rfl, ?_, i64_eq hw, trivial⟩, rfl, hv⟩, ?_⟩
            · rw [hF2, flatV_append, n1_app, hF]; rfl
            · show l.length - (IntKind.i64.wrap ((i : Int) + 1)).toNat < l.length - (i : Int).toNat
              rw [hw]; omega
    · have hge : l.length ≤ i := by have h' : ¬ (i : Int) < ((l.length : Nat) : Int) := of_decide_eq_false h13; omega
      rw [List.take_of_length_le hge]
      refine w_exit (n_e (n_e (b_hit (n_n (w_seq (w_reg (s_q rfl rfl (q_mv (.inl rfl) (by first | exact is_im rfl | exact is_gs rfl | exact is_lit rfl | exact is_ms rfl | exact is_sc rfl | exact rfl)) ?_)))))))
      refine s_q rfl rfl (q_mv (.inl rfl) (by first | exact is_im rfl | exact is_gs rfl | exact is_lit rfl | exact is_ms rfl | exact is_sc rfl | exact rfl)) ?_
      refine s_q rfl rfl (q_len rfl rfl rfl) ?_
      refine s_q rfl rfl (q_as (bl_yes (show (0 : Int) < ((l.length : Nat) : Int) by omega)) (q_gtr rfl rfl rfl)) ?_
      refine s_q rfl rfl (q_mv (.inr rfl) (by first | exact is_im rfl | exact is_gs rfl | exact is_lit rfl | exact is_ms rfl | exact is_sc rfl | exact rfl)) ?_
      refine s_q rfl rfl (q_mv (.inr rfl) (is_sc rfl)) ?_
      refine s_nil (n_n (w_ret ?_))
      -- end 3
      refine r_r (ra_tmp (by first | exact is_im rfl | exact is_gs rfl | exact is_lit rfl | exact is_ms rfl | exact is_sc rfl | exact rfl) (ra_tmp (is_sc rfl) ra_nil)) (by exact (rfl : _ = D.tup [_, _])) (by exact rfl) sub_no ?_
      rw [show midD l = .tup [lst (numsV l), bl true] from if_pos (List.all_eq_true.2 fun x hx => take_all' hge hp x hx)]; rfl

end Go.Proofs.YtopgbalmdocboaaGreatDoor.Zz
namespace Go.Proofs.YtopgbalmdocboaaGreatDoor.Zz
open Go.Abs
set_option maxRecDepth 100000
set_option linter.unusedVariables false
set_option linter.unusedSimpArgs false
set_option maxHeartbeats 4000000
variable {G : Nat → D}

-- pub-tallysheet/spec.Frac
theorem pf_fracE (n d : Int) (hd : 0 < d) (hd2 : d ≤ 1048576) (hn : -1000000000000000 ≤ n) (hn2 : n ≤ 1000000000000000) : PF Tryz.prog G 35 [i64 n, i64 d] (fracD n d).d := by
  have hw : IntKind.i64.wrap (n * 16) = n * 16 := wrap_id (by omega) (by omega)
  refine PC.intro rfl Tryz.func35 rfl (Nat.le_of_ble_eq_true rfl) rfl ?_
  refine w_seq (w_reg (s_s rfl rfl (as_alloc0 (id := 0) rfl rfl (by exact (rfl : _ = [_, _, _, _, _]))) ?_))
  refine s_nil (n_n (w_seq (w_seq (w_reg (s_q rfl rfl (q_mv (.inl rfl) (is_sc rfl)) ?_)))))
  refine s_q rfl rfl (q_as (bl_no (show ¬ d < 0 by omega)) (q_lss rfl rfl rfl)) ?_
  refine s_nil (n_n (w_ifF rfl (w_skip (n_n (w_seq (w_seq (w_reg (s_q rfl rfl (q_mv (.inl rfl) (is_sc rfl)) ?_))))))))
  refine s_q rfl rfl (q_as (bl_no (show ¬ d = 0 by omega)) (q_eql rfl rfl rfl)) ?_
  refine s_q rfl rfl (q_mv (.inl rfl) (is_sc rfl)) ?_
  refine s_q rfl rfl (q_mv (.inl rfl) (is_sc rfl)) ?_
  refine s_q rfl rfl (q_as (bl_no (show ¬ 1048576 < d by omega)) (q_gtr rfl rfl rfl)) ?_
  refine s_q rfl rfl (q_pickF rfl rfl (is_sc rfl)) ?_
  refine s_q rfl rfl (q_mv (.inl rfl) (is_sc rfl)) ?_
  refine s_q rfl rfl (q_mv (.inl rfl) (is_sc rfl)) ?_
  refine s_q rfl rfl (q_as (bl_no (show ¬ 1125899906842624 < n by omega)) (q_gtr rfl rfl rfl)) ?_
  refine s_q rfl rfl (q_pickF rfl rfl (is_sc rfl)) ?_
  refine s_q rfl rfl (q_mv (.inl rfl) (is_sc rfl)) ?_
  refine s_q rfl rfl (q_mv (.inl rfl) (is_sc rfl)) ?_
  refine s_q rfl rfl (q_as (bl_no (show ¬ n < -1125899906842624 by omega)) (q_lss rfl rfl rfl)) ?_
  refine s_q rfl rfl (q_pickF rfl rfl (is_sc rfl)) ?_
  refine s_q rfl rfl (q_mv (.inl rfl) (is_sc rfl)) ?_
  refine s_q rfl rfl (q_mv (.inl rfl) (is_sc rfl)) ?_
  refine s_q rfl rfl (q_as (i64_eq hw) (q_mul rfl rfl rfl)) ?_
  refine s_q rfl rfl (q_mv (.inl rfl) (is_sc rfl)) ?_
  refine s_q rfl rfl (q_rem rfl rfl rfl (by omega)) ?_
  refine s_q rfl rfl (q_neq rfl rfl rfl) ?_
  refine s_q rfl rfl (q_pickF rfl rfl (is_sc rfl)) ?_
  refine s_nil (n_n (w_if (is_scb rfl) (fun h31 => ?_) (fun h31 => ?_)))
  · refine w_seq (w_reg (s_q rfl rfl (q_call rfl rfl rfl rfl pf_doubt) ?_))
    refine s_u rfl rfl (as_st rfl rfl (by first | exact (rfl : _ = D.agg [_, _, _, _, _]) | exact rfl) rfl (by exact rfl) (by exact rfl) (by exact Nat.le_of_ble_eq_true rfl) (by exact (rfl : _ = [_, _, _, _, _]))) ?_
    refine s_nil (n_n (w_ret (n_r ?_)))
    -- end 0
    refine r_r (ra_cell (by exact (rfl : _ = some (D.agg [_, _, _, _, _]))) ra_nil) (by first | exact (rfl : _ = D.agg [_, _, _, _, _]) | exact rfl) (by exact rfl) sub_no ?_
    rw [show fracD n d = doubt from if_neg (of_decide_eq_true h31)]; rfl
  · have h31' : (n * 16).tmod d = 0 := by have := of_decide_eq_false h31; omega
    clear h31
    obtain ⟨v, hvv⟩ : ∃ v, (n * 16).tdiv d = v := ⟨_, rfl⟩
    have hb : -16000000000000000 ≤ v ∧ v ≤ 16000000000000000 := by
      have h1 := Int.natAbs_tdiv_le_natAbs (n * 16) d
      omega
    have hq : IntKind.i64.wrap ((n * 16).tdiv d) = v := by rw [hvv, wrap_id (by omega) (by omega)]
    refine w_skip (n_n (w_seq (w_reg (s_q rfl rfl (q_mv (.inl rfl) (is_sc rfl)) ?_))))
    refine s_q rfl rfl (q_as (i64_eq hw) (q_mul rfl rfl rfl)) ?_
    refine s_q rfl rfl (q_mv (.inl rfl) (is_sc rfl)) ?_
    refine s_q rfl rfl (q_as (i64_eq hq) (q_quo rfl rfl rfl (by omega))) ?_
    refine s_q rfl rfl (q_mv (.inr rfl) (is_sc rfl)) ?_
    refine s_q rfl rfl (q_mv (.inr rfl) (is_sc rfl)) ?_
    refine s_nil (n_n (w_seq (w_block (w_unroll 4 (u_s ?_)))))
    refine w_seq (w_seq (w_reg (s_q rfl rfl (q_mv (.inl rfl) (is_sc rfl)) ?_)))
    refine s_q rfl rfl (q_gtr rfl rfl rfl) ?_
    refine s_q rfl rfl (q_mv (.inl rfl) (is_sc rfl)) ?_
    refine s_q rfl rfl (q_mv (.inl rfl) (is_sc rfl)) ?_
    refine s_q rfl rfl (q_rem rfl rfl rfl (by decide)) ?_
    refine s_q rfl rfl (q_eql rfl rfl rfl) ?_
    refine s_q rfl rfl (q_pickT rfl rfl (is_sc rfl)) ?_
    refine s_nil (n_n (w_if (is_scb rfl) (fun h43 => ?_) (fun h43 => ?_)))
    · have e43 := ev_of h43; clear h43
      refine w_skip (n_n (w_block (w_reg (s_q rfl rfl (q_mv (.inl rfl) (is_sc rfl)) ?_))))
      refine s_q rfl rfl (q_as (i64_eq (half2 e43 (by omega) (by omega))) (q_quo rfl rfl rfl (by decide))) ?_
      refine s_q rfl rfl (q_mv (.inl rfl) (is_sc rfl)) ?_
      refine s_q rfl rfl (q_quo rfl rfl rfl (by decide)) ?_
      refine s_q rfl rfl (q_mv (.inr rfl) (is_sc rfl)) ?_
      refine s_q rfl rfl (q_mv (.inr rfl) (is_sc rfl)) ?_
      refine s_nil (b_n (n_n (u_s (w_seq (w_seq (w_reg (s_q rfl rfl (q_mv (.inl rfl) (is_sc rfl)) ?_)))))))
      refine s_q rfl rfl (q_gtr rfl rfl rfl) ?_
      refine s_q rfl rfl (q_mv (.inl rfl) (is_sc rfl)) ?_
      refine s_q rfl rfl (q_mv (.inl rfl) (is_sc rfl)) ?_
      refine s_q rfl rfl (q_rem rfl rfl rfl (by decide)) ?_
      refine s_q rfl rfl (q_eql rfl rfl rfl) ?_
      refine s_q rfl rfl (q_pickT rfl rfl (is_sc rfl)) ?_
      refine s_nil (n_n (w_if (is_scb rfl) (fun h43 => ?_) (fun h43 => ?_)))
      · have e43 := ev_of h43; clear h43
        refine w_skip (n_n (w_block (w_reg (s_q rfl rfl (q_mv (.inl rfl) (is_sc rfl)) ?_))))
        refine s_q rfl rfl (q_as (i64_eq (half2 e43 (by omega) (by omega))) (q_quo rfl rfl rfl (by decide))) ?_
        refine s_q rfl rfl (q_mv (.inl rfl) (is_sc rfl)) ?_
        refine s_q rfl rfl (q_quo rfl rfl rfl (by decide)) ?_
        refine s_q rfl rfl (q_mv (.inr rfl) (is_sc rfl)) ?_
        refine s_q rfl rfl (q_mv (.inr rfl) (is_sc rfl)) ?_
        refine s_nil (b_n (n_n (u_s (w_seq (w_seq (w_reg (s_q rfl rfl (q_mv (.inl rfl) (is_sc rfl)) ?_)))))))
        refine s_q rfl rfl (q_gtr rfl rfl rfl) ?_
        refine s_q rfl rfl (q_mv (.inl rfl) (is_sc rfl)) ?_
        refine s_q rfl rfl (q_mv (.inl rfl) (is_sc rfl)) ?_
        refine s_q rfl rfl (q_rem rfl rfl rfl (by decide)) ?_
        refine s_q rfl rfl (q_eql rfl rfl rfl) ?_
        refine s_q rfl rfl (q_pickT rfl rfl (is_sc rfl)) ?_
        refine s_nil (n_n (w_if (is_scb rfl) (fun h43 => ?_) (fun h43 => ?_)))
        · have e43 := ev_of h43; clear h43
          refine w_skip (n_n (w_block (w_reg (s_q rfl rfl (q_mv (.inl rfl) (is_sc rfl)) ?_))))
          refine s_q rfl rfl (q_as (i64_eq (half2 e43 (by omega) (by omega))) (q_quo rfl rfl rfl (by decide))) ?_
          refine s_q rfl rfl (q_mv (.inl rfl) (is_sc rfl)) ?_
          refine s_q rfl rfl (q_quo rfl rfl rfl (by decide)) ?_
          refine s_q rfl rfl (q_mv (.inr rfl) (is_sc rfl)) ?_
          refine s_q rfl rfl (q_mv (.inr rfl) (is_sc rfl)) ?_
          refine s_nil (b_n (n_n (u_s (w_seq (w_seq (w_reg (s_q rfl rfl (q_mv (.inl rfl) (is_sc rfl)) ?_)))))))
          refine s_q rfl rfl (q_gtr rfl rfl rfl) ?_
          refine s_q rfl rfl (q_mv (.inl rfl) (is_sc rfl)) ?_
          refine s_q rfl rfl (q_mv (.inl rfl) (is_sc rfl)) ?_
          refine s_q rfl rfl (q_rem rfl rfl rfl (by decide)) ?_
          refine s_q rfl rfl (q_eql rfl rfl rfl) ?_
          refine s_q rfl rfl (q_pickT rfl rfl (is_sc rfl)) ?_
          refine s_nil (n_n (w_if (is_scb rfl) (fun h43 => ?_) (fun h43 => ?_)))
          · have e43 := ev_of h43; clear h43
            refine w_skip (n_n (w_block (w_reg (s_q rfl rfl (q_mv (.inl rfl) (is_sc rfl)) ?_))))
            refine s_q rfl rfl (q_as (i64_eq (half2 e43 (by omega) (by omega))) (q_quo rfl rfl rfl (by decide))) ?_
            refine s_q rfl rfl (q_mv (.inl rfl) (is_sc rfl)) ?_
            refine s_q rfl rfl (q_quo rfl rfl rfl (by decide)) ?_
            refine s_q rfl rfl (q_mv (.inr rfl) (is_sc rfl)) ?_
            refine s_q rfl rfl (q_mv (.inr rfl) (is_sc rfl)) ?_
            refine s_nil (b_n (n_n (u_0 (w_seq (w_seq (w_reg (s_q rfl rfl (q_mv (.inl rfl) (is_sc rfl)) ?_)))))))
            refine s_q rfl rfl (q_gtr rfl rfl rfl) ?_
            refine s_q rfl rfl (q_mv (.inl rfl) (is_sc rfl)) ?_
            refine s_off rfl rfl ?_
            refine s_off rfl rfl ?_
            refine s_off rfl rfl ?_
            refine s_q rfl rfl (q_pickF rfl rfl (is_sc rfl)) ?_
            refine s_nil (n_n (w_ifF rfl (w_exit (n_e (n_e (b_hit (n_n (w_seq (w_seq (w_reg (s_q rfl rfl (q_mv (.inl rfl) (is_sc rfl)) ?_)))))))))))
            refine s_q rfl rfl (q_gtr rfl rfl rfl) ?_
            refine s_q rfl rfl (q_mv (.inl rfl) (is_sc rfl)) ?_
            refine s_split 50 (is_scb rfl) (fun h1 => ?_) (fun h1 => ?_)
            · refine s_off rfl rfl ?_
              refine s_off rfl rfl ?_
              refine s_q rfl rfl (q_pickT rfl rfl (is_sc rfl)) ?_
              refine s_nil (n_n (w_ifT rfl (w_seq (w_reg (s_q rfl rfl (q_call rfl rfl rfl rfl pf_doubt) ?_)))))
              refine s_u rfl rfl (as_st rfl rfl (by first | exact (rfl : _ = D.agg [_, _, _, _, _]) | exact rfl) rfl (by exact rfl) (by exact rfl) (by exact Nat.le_of_ble_eq_true rfl) (by exact (rfl : _ = [_, _, _, _, _]))) ?_
              refine s_nil (n_n (w_ret (n_r ?_)))
              -- end 1
              refine r_r (ra_cell (by exact (rfl : _ = some (D.agg [_, _, _, _, _]))) ra_nil) (by first | exact (rfl : _ = D.agg [_, _, _, _, _]) | exact rfl) (by exact rfl) sub_no ?_
              have e : fracD n d = doubt := by
                rw [show fracD n d = sixV v by unfold fracD; rw [if_pos h31', hvv]]
                simp only [decide_eq_true_eq, decide_eq_false_iff_not] at *
                unfold sixV finV
                (repeat' split) <;> first | rfl | (exfalso; omega)
              rw [e]; rfl
            · refine s_q rfl rfl (q_mv (.inl rfl) (is_sc rfl)) ?_
              refine s_q rfl rfl (q_lss rfl rfl rfl) ?_
              refine s_q rfl rfl (q_pickF rfl rfl (is_sc rfl)) ?_
              refine s_nil (n_n (w_if (is_scb rfl) (fun h2 => ?_) (fun h2 => ?_)))
              · refine w_seq (w_reg (s_q rfl rfl (q_call rfl rfl rfl rfl pf_doubt) ?_))
                refine s_u rfl rfl (as_st rfl rfl (by first | exact (rfl : _ = D.agg [_, _, _, _, _]) | exact rfl) rfl (by exact rfl) (by exact rfl) (by exact Nat.le_of_ble_eq_true rfl) (by exact (rfl : _ = [_, _, _, _, _]))) ?_
                refine s_nil (n_n (w_ret (n_r ?_)))
                -- end 2
                refine r_r (ra_cell (by exact (rfl : _ = some (D.agg [_, _, _, _, _]))) ra_nil) (by first | exact (rfl : _ = D.agg [_, _, _, _, _]) | exact rfl) (by exact rfl) sub_no ?_
                have e : fracD n d = doubt := by
                  rw [show fracD n d = sixV v by unfold fracD; rw [if_pos h31', hvv]]
                  simp only [decide_eq_true_eq, decide_eq_false_iff_not] at *
                  unfold sixV finV
                  (repeat' split) <;> first | rfl | (exfalso; omega)
                rw [e]; rfl
              · refine w_skip (n_n (w_seq (w_reg (s_q rfl rfl (q_mv (.inl rfl) (is_sc rfl)) ?_))))
                refine s_q rfl rfl (q_mv (.inl rfl) (is_sc rfl)) ?_
                refine s_q rfl rfl (q_build rfl (pt_cons (is_sc rfl) (pt_cons (is_sc rfl) (pt_cons (is_sc rfl) pt_nil))) (by exact (rfl : _ = some [_, _, _, _, _]))) ?_
                refine s_u rfl rfl (as_st rfl rfl (by first | exact (rfl : _ = D.agg [_, _, _, _, _]) | exact rfl) rfl (by exact rfl) (by exact rfl) (by exact Nat.le_of_ble_eq_true rfl) (by exact (rfl : _ = [_, _, _, _, _]))) ?_
                refine s_nil (n_n (w_ret ?_))
                -- end 3
                refine r_r (ra_cell (by exact (rfl : _ = some (D.agg [_, _, _, _, _]))) ra_nil) (by first | exact (rfl : _ = D.agg [_, _, _, _, _]) | exact rfl) (by exact rfl) sub_no ?_
                have e : fracD n d = num (v / 2 / 2 / 2 / 2) 1 := by
                  rw [show fracD n d = sixV v by unfold fracD; rw [if_pos h31', hvv]]
                  simp only [decide_eq_true_eq, decide_eq_false_iff_not] at *
                  unfold sixV finV
                  (repeat' split) <;> first | rfl | (exfalso; omega)
                rw [e]; rfl
          · have e43 := od_of h43; clear h43
            refine w_exit (n_e (n_e (b_hit (n_n (w_seq (w_seq (w_reg (s_q rfl rfl (q_mv (.inl rfl) (is_sc rfl)) ?_))))))))
            refine s_q rfl rfl (q_gtr rfl rfl rfl) ?_
            refine s_q rfl rfl (q_mv (.inl rfl) (is_sc rfl)) ?_
            refine s_split 50 (is_scb rfl) (fun h3 => ?_) (fun h3 => ?_)
            · refine s_off rfl rfl ?_
              refine s_off rfl rfl ?_
              refine s_q rfl rfl (q_pickT rfl rfl (is_sc rfl)) ?_
              refine s_nil (n_n (w_ifT rfl (w_seq (w_reg (s_q rfl rfl (q_call rfl rfl rfl rfl pf_doubt) ?_)))))
              refine s_u rfl rfl (as_st rfl rfl (by first | exact (rfl : _ = D.agg [_, _, _, _, _]) | exact rfl) rfl (by exact rfl) (by exact rfl) (by exact Nat.le_of_ble_eq_true rfl) (by exact (rfl : _ = [_, _, _, _, _]))) ?_
              refine s_nil (n_n (w_ret (n_r ?_)))
              -- end 4
              refine r_r (ra_cell (by exact (rfl : _ = some (D.agg [_, _, _, _, _]))) ra_nil) (by first | exact (rfl : _ = D.agg [_, _, _, _, _]) | exact rfl) (by exact rfl) sub_no ?_
              have e : fracD n d = doubt := by
                rw [show fracD n d = sixV v by unfold fracD; rw [if_pos h31', hvv]]
                simp only [decide_eq_true_eq, decide_eq_false_iff_not] at *
                unfold sixV finV
                (repeat' split) <;> first | rfl | (exfalso; omega)
              rw [e]; rfl
            · refine s_q rfl rfl (q_mv (.inl rfl) (is_sc rfl)) ?_
              refine s_q rfl rfl (q_lss rfl rfl rfl) ?_
              refine s_q rfl rfl (q_pickF rfl rfl (is_sc rfl)) ?_
              refine s_nil (n_n (w_if (is_scb rfl) (fun h4 => ?_) (fun h4 => ?_)))
              · refine w_seq (w_reg (s_q rfl rfl (q_call rfl rfl rfl rfl pf_doubt) ?_))
                refine s_u rfl rfl (as_st rfl rfl (by first | exact (rfl : _ = D.agg [_, _, _, _, _]) | exact rfl) rfl (by exact rfl) (by exact rfl) (by exact Nat.le_of_ble_eq_true rfl) (by exact (rfl : _ = [_, _, _, _, _]))) ?_
                refine s_nil (n_n (w_ret (n_r ?_)))
                -- end 5
                refine r_r (ra_cell (by exact (rfl : _ = some (D.agg [_, _, _, _, _]))) ra_nil) (by first | exact (rfl : _ = D.agg [_, _, _, _, _]) | exact rfl) (by exact rfl) sub_no ?_
                have e : fracD n d = doubt := by
                  rw [show fracD n d = sixV v by unfold fracD; rw [if_pos h31', hvv]]
                  simp only [decide_eq_true_eq, decide_eq_false_iff_not] at *
                  unfold sixV finV
                  (repeat' split) <;> first | rfl | (exfalso; omega)
                rw [e]; rfl
              · refine w_skip (n_n (w_seq (w_reg (s_q rfl rfl (q_mv (.inl rfl) (is_sc rfl)) ?_))))
                refine s_q rfl rfl (q_mv (.inl rfl) (is_sc rfl)) ?_
                refine s_q rfl rfl (q_build rfl (pt_cons (is_sc rfl) (pt_cons (is_sc rfl) (pt_cons (is_sc rfl) pt_nil))) (by exact (rfl : _ = some [_, _, _, _, _]))) ?_
                refine s_u rfl rfl (as_st rfl rfl (by first | exact (rfl : _ = D.agg [_, _, _, _, _]) | exact rfl) rfl (by exact rfl) (by exact rfl) (by exact Nat.le_of_ble_eq_true rfl) (by exact (rfl : _ = [_, _, _, _, _]))) ?_
                refine s_nil (n_n (w_ret ?_))
                -- end 6
                refine r_r (ra_cell (by exact (rfl : _ = some (D.agg [_, _, _, _, _]))) ra_nil) (by first | exact (rfl : _ = D.agg [_, _, _, _, _]) | exact rfl) (by exact rfl) sub_no ?_
                have e : fracD n d = num (v / 2 / 2 / 2) 2 := by
                  rw [show fracD n d = sixV v by unfold fracD; rw [if_pos h31', hvv]]
                  simp only [decide_eq_true_eq, decide_eq_false_iff_not] at *
                  unfold sixV finV
                  (repeat' split) <;> first | rfl | (exfalso; omega)
                rw [e]; rfl
        · have e43 := od_of h43; clear h43
          refine w_exit (n_e (n_e (b_hit (n_n (w_seq (w_seq (w_reg (s_q rfl rfl (q_mv (.inl rfl) (is_sc rfl)) ?_))))))))
          refine s_q rfl rfl (q_gtr rfl rfl rfl) ?_
          refine s_q rfl rfl (q_mv (.inl rfl) (is_sc rfl)) ?_
          refine s_split 50 (is_scb rfl) (fun h5 => ?_) (fun h5 => ?_)
          · refine s_off rfl rfl ?_
            refine s_off rfl rfl ?_
            refine s_q rfl rfl (q_pickT rfl rfl (is_sc rfl)) ?_
            refine s_nil (n_n (w_ifT rfl (w_seq (w_reg (s_q rfl rfl (q_call rfl rfl rfl rfl pf_doubt) ?_)))))
            refine s_u rfl rfl (as_st rfl rfl (by first | exact (rfl : _ = D.agg [_, _, _, _, _]) | exact rfl) rfl (by exact rfl) (by exact rfl) (by exact Nat.le_of_ble_eq_true rfl) (by exact (rfl : _ = [_, _, _, _, _]))) ?_
            refine s_nil (n_n (w_ret (n_r ?_)))
            -- end 7
            refine r_r (ra_cell (by exact (rfl : _ = some (D.agg [_, _, _, _, _]))) ra_nil) (by first | exact (rfl : _ = D.agg [_, _, _, _, _]) | exact rfl) (by exact rfl) sub_no ?_
            have e : fracD n d = doubt := by
              rw [show fracD n d = sixV v by unfold fracD; rw [if_pos h31', hvv]]
              simp only [decide_eq_true_eq, decide_eq_false_iff_not] at *
              unfold sixV finV
              (repeat' split) <;> first | rfl | (exfalso; omega)
            rw [e]; rfl
          · refine s_q rfl rfl (q_mv (.inl rfl) (is_sc rfl)) ?_
            refine s_q rfl rfl (q_lss rfl rfl rfl) ?_
            refine s_q rfl rfl (q_pickF rfl rfl (is_sc rfl)) ?_
            refine s_nil (n_n (w_if (is_scb rfl) (fun h6 => ?_) (fun h6 => ?_)))
            · refine w_seq (w_reg (s_q rfl rfl (q_call rfl rfl rfl rfl pf_doubt) ?_))
              refine s_u rfl rfl (as_st rfl rfl (by first | exact (rfl : _ = D.agg [_, _, _, _, _]) | exact rfl) rfl (by exact rfl) (by exact rfl) (by exact Nat.le_of_ble_eq_true rfl) (by exact (rfl : _ = [_, _, _, _, _]))) ?_
              refine s_nil (n_n (w_ret (n_r ?_)))
              -- end 8
              refine r_r (ra_cell (by exact (rfl : _ = some (D.agg [_, _, _, _, _]))) ra_nil) (by first | exact (rfl : _ = D.agg [_, _, _, _, _]) | exact rfl) (by exact rfl) sub_no ?_
              have e : fracD n d = doubt := by
                rw [show fracD n d = sixV v by unfold fracD; rw [if_pos h31', hvv]]
                simp only [decide_eq_true_eq, decide_eq_false_iff_not] at *
                unfold sixV finV
                (repeat' split) <;> first | rfl | (exfalso; omega)
              rw [e]; rfl
            · refine w_skip (n_n (w_seq (w_reg (s_q rfl rfl (q_mv (.inl rfl) (is_sc rfl)) ?_))))
              refine s_q rfl rfl (q_mv (.inl rfl) (is_sc rfl)) ?_
              refine s_q rfl rfl (q_build rfl (pt_cons (is_sc rfl) (pt_cons (is_sc rfl) (pt_cons (is_sc rfl) pt_nil))) (by exact (rfl : _ = some [_, _, _, _, _]))) ?_
              refine s_u rfl rfl (as_st rfl rfl (by first | exact (rfl : _ = D.agg [_, _, _, _, _]) | exact rfl) rfl (by exact rfl) (by exact rfl) (by exact Nat.le_of_ble_eq_true rfl) (by exact (rfl : _ = [_, _, _, _, _]))) ?_
              refine s_nil (n_n (w_ret ?_))
              -- end 9
              refine r_r (ra_cell (by exact (rfl : _ = some (D.agg [_, _, _, _, _]))) ra_nil) (by first | exact (rfl : _ = D.agg [_, _, _, _, _]) | exact rfl) (by exact rfl) sub_no ?_
              have e : fracD n d = num (v / 2 / 2) 4 := by
                rw [show fracD n d = sixV v by unfold fracD; rw [if_pos h31', hvv]]
                simp only [decide_eq_true_eq, decide_eq_false_iff_not] at *
                unfold sixV finV
                (repeat' split) <;> first | rfl | (exfalso; omega)
              rw [e]; rfl
      · have e43 := od_of h43; clear h43
        refine w_exit (n_e (n_e (b_hit (n_n (w_seq (w_seq (w_reg (s_q rfl rfl (q_mv (.inl rfl) (is_sc rfl)) ?_))))))))
        refine s_q rfl rfl (q_gtr rfl rfl rfl) ?_
        refine s_q rfl rfl (q_mv (.inl rfl) (is_sc rfl)) ?_
        refine s_split 50 (is_scb rfl) (fun h7 => ?_) (fun h7 => ?_)
        · refine s_off rfl rfl ?_
          refine s_off rfl rfl ?_
          refine s_q rfl rfl (q_pickT rfl rfl (is_sc rfl)) ?_
          refine s_nil (n_n (w_ifT rfl (w_seq (w_reg (s_q rfl rfl (q_call rfl rfl rfl rfl pf_doubt) ?_)))))
          refine s_u rfl rfl (as_st rfl rfl (by first | exact (rfl : _ = D.agg [_, _, _, _, _]) | exact rfl) rfl (by exact rfl) (by exact rfl) (by exact Nat.le_of_ble_eq_true rfl) (by exact (rfl : _ = [_, _, _, _, _]))) ?_
          refine s_nil (n_n (w_ret (n_r ?_)))
          -- end 10
          refine r_r (ra_cell (by exact (rfl : _ = some (D.agg [_, _, _, _, _]))) ra_nil) (by first | exact (rfl : _ = D.agg [_, _, _, _, _]) | exact rfl) (by exact rfl) sub_no ?_
          have e : fracD n d = doubt := by
            rw [show fracD n d = sixV v by unfold fracD; rw [if_pos h31', hvv]]
            simp only [decide_eq_true_eq, decide_eq_false_iff_not] at *
            unfold sixV finV
            (repeat' split) <;> first | rfl | (exfalso; omega)
          rw [e]; rfl
        · refine s_q rfl rfl (q_mv (.inl rfl) (is_sc rfl)) ?_
          refine s_q rfl rfl (q_lss rfl rfl rfl) ?_
          refine s_q rfl rfl (q_pickF rfl rfl (is_sc rfl)) ?_
          refine s_nil (n_n (w_if (is_scb rfl) (fun h8 => ?_) (fun h8 => ?_)))
          · refine w_seq (w_reg (s_q rfl rfl (q_call rfl rfl rfl rfl pf_doubt) ?_))
            refine s_u rfl rfl (as_st rfl rfl (by first | exact (rfl : _ = D.agg [_, _, _, _, _]) | exact rfl) rfl (by exact rfl) (by exact rfl) (by exact Nat.le_of_ble_eq_true rfl) (by exact (rfl : _ = [_, _, _, _, _]))) ?_
            refine s_nil (n_n (w_ret (n_r ?_)))
            -- end 11
            refine r_r (ra_cell (by exact (rfl : _ = some (D.agg [_, _, _, _, _]))) ra_nil) (by first | exact (rfl : _ = D.agg [_, _, _, _, _]) | exact rfl) (by exact rfl) sub_no ?_
            have e : fracD n d = doubt := by
              rw [show fracD n d = sixV v by unfold fracD; rw [if_pos h31', hvv]]
              simp only [decide_eq_true_eq, decide_eq_false_iff_not] at *
              unfold sixV finV
              (repeat' split) <;> first | rfl | (exfalso; omega)
            rw [e]; rfl
          · refine w_skip (n_n (w_seq (w_reg (s_q rfl rfl (q_mv (.inl rfl) (is_sc rfl)) ?_))))
            refine s_q rfl rfl (q_mv (.inl rfl) (is_sc rfl)) ?_
            refine s_q rfl rfl (q_build rfl (pt_cons (is_sc rfl) (pt_cons (is_sc rfl) (pt_cons (is_sc rfl) pt_nil))) (by exact (rfl : _ = some [_, _, _, _, _]))) ?_
            refine s_u rfl rfl (as_st rfl rfl (by first | exact (rfl : _ = D.agg [_, _, _, _, _]) | exact rfl) rfl (by exact rfl) (by exact rfl) (by exact Nat.le_of_ble_eq_true rfl) (by exact (rfl : _ = [_, _, _, _, _]))) ?_
            refine s_nil (n_n (w_ret ?_))
            -- end 12
            refine r_r (ra_cell (by exact (rfl : _ = some (D.agg [_, _, _, _, _]))) ra_nil) (by first | exact (rfl : _ = D.agg [_, _, _, _, _]) | exact rfl) (by exact rfl) sub_no ?_
            have e : fracD n d = num (v / 2) 8 := by
              rw [show fracD n d = sixV v by unfold fracD; rw [if_pos h31', hvv]]
              simp only [decide_eq_true_eq, decide_eq_false_iff_not] at *
              unfold sixV finV
              (repeat' split) <;> first | rfl | (exfalso; omega)
            rw [e]; rfl
    · have e43 := od_of h43; clear h43
      refine w_exit (n_e (n_e (b_hit (n_n (w_seq (w_seq (w_reg (s_q rfl rfl (q_mv (.inl rfl) (is_sc rfl)) ?_))))))))
      refine s_q rfl rfl (q_gtr rfl rfl rfl) ?_
      refine s_q rfl rfl (q_mv (.inl rfl) (is_sc rfl)) ?_
      refine s_split 50 (is_scb rfl) (fun h9 => ?_) (fun h9 => ?_)
      · refine s_off rfl rfl ?_
        refine s_off rfl rfl ?_
        refine s_q rfl rfl (q_pickT rfl rfl (is_sc rfl)) ?_
        refine s_nil (n_n (w_ifT rfl (w_seq (w_reg (s_q rfl rfl (q_call rfl rfl rfl rfl pf_doubt) ?_)))))
        refine s_u rfl rfl (as_st rfl rfl (by first | exact (rfl : _ = D.agg [_, _, _, _, _]) | exact rfl) rfl (by exact rfl) (by exact rfl) (by exact Nat.le_of_ble_eq_true rfl) (by exact (rfl : _ = [_, _, _, _, _]))) ?_
        refine s_nil (n_n (w_ret (n_r ?_)))
        -- end 13
        refine r_r (ra_cell (by exact (rfl : _ = some (D.agg [_, _, _, _, _]))) ra_nil) (by first | exact (rfl : _ = D.agg [_, _, _, _, _]) | exact rfl) (by exact rfl) sub_no ?_
        have e : fracD n d = doubt := by
          rw [show fracD n d = sixV v by unfold fracD; rw [if_pos h31', hvv]]
          simp only [decide_eq_true_eq, decide_eq_false_iff_not] at *
          unfold sixV finV
          (repeat' split) <;> first | rfl | (exfalso; omega)
        rw [e]; rfl
      · refine s_q rfl rfl (q_mv (.inl rfl) (is_sc rfl)) ?_
        refine s_q rfl rfl (q_lss rfl rfl rfl) ?_
        refine s_q rfl rfl (q_pickF rfl rfl (is_sc rfl)) ?_
        refine s_nil (n_n (w_if (is_scb rfl) (fun h10 => ?_) (fun h10 => ?_)))
        · refine w_seq (w_reg (s_q rfl rfl (q_call rfl rfl rfl rfl pf_doubt) ?_))
          refine s_u rfl rfl (as_st rfl rfl (by first | exact (rfl : _ = D.agg [_, _, _, _, _]) | exact rfl) rfl (by exact rfl) (by exact rfl) (by exact Nat.le_of_ble_eq_true rfl) (by exact (rfl : _ = [_, _, _, _, _]))) ?_
          refine s_nil (n_n (w_ret (n_r ?_)))
          -- end 14
          refine r_r (ra_cell (by exact (rfl : _ = some (D.agg [_, _, _, _, _]))) ra_nil) (by first | exact (rfl : _ = D.agg [_, _, _, _, _]) | exact rfl) (by exact rfl) sub_no ?_
          have e : fracD n d = doubt := by
            rw [show fracD n d = sixV v by unfold fracD; rw [if_pos h31', hvv]]
            simp only [decide_eq_true_eq, decide_eq_false_iff_not] at *
            unfold sixV finV
            (repeat' split) <;> first | rfl | (exfalso; omega)
          rw [e]; rfl
        · refine w_skip (n_n (w_seq (w_reg (s_q rfl rfl (q_mv (.inl rfl) (is_sc rfl)) ?_))))
          refine s_q rfl rfl (q_mv (.inl rfl) (is_sc rfl)) ?_
          refine s_q rfl rfl (q_build rfl (pt_cons (is_sc rfl) (pt_cons (is_sc rfl) (pt_cons (is_sc rfl) pt_nil))) (by exact (rfl : _ = some [_, _, _, _, _]))) ?_
          refine s_u rfl rfl (as_st rfl rfl (by first | exact (rfl : _ = D.agg [_, _, _, _, _]) | exact rfl) rfl (by exact rfl) (by exact rfl) (by exact Nat.le_of_ble_eq_true rfl) (by exact (rfl : _ = [_, _, _, _, _]))) ?_
          refine s_nil (n_n (w_ret ?_))
          -- end 15
          refine r_r (ra_cell (by exact (rfl : _ = some (D.agg [_, _, _, _, _]))) ra_nil) (by first | exact (rfl : _ = D.agg [_, _, _, _, _]) | exact rfl) (by exact rfl) sub_no ?_
          have e : fracD n d = num (v) 16 := by
            rw [show fracD n d = sixV v by unfold fracD; rw [if_pos h31', hvv]]
            simp only [decide_eq_true_eq, decide_eq_false_iff_not] at *
            unfold sixV finV
            (repeat' split) <;> first | rfl | (exfalso; omega)
          rw [e]; rfl


-- pub-tallysheet/spec.Less
theorem pf_LessN (n d x n2 d2 x2 : Int) (h : Six x n d) (h2 : Six x2 n2 d2) : PF Tryz.prog G 187 [(num n d).d, (num n2 d2).d] (bl (decide (x < x2))) := by
  obtain ⟨k1, hk1, hk1a, hk1b, hp1, hd1⟩ := h.q
  obtain ⟨k2, hk2, hk2a, hk2b, hp2, hd2⟩ := h2.q
  have hb1 := h.bound
  have hb2 := h2.bound
  refine PC.intro rfl Tryz.func187 rfl (Nat.le_of_ble_eq_true rfl) rfl ?_
  refine w_seq (w_reg (s_s rfl rfl (as_box0 (id := 0) rfl (by first | exact (rfl : _ = D.agg [_, _, _, _, _]) | exact rfl) (by exact rfl) rfl (by exact (rfl : _ = [_, _, _, _, _]))) ?_))
  refine s_s rfl rfl (as_box0 (id := 1) rfl (by first | exact (rfl : _ = D.agg [_, _, _, _, _]) | exact rfl) (by exact rfl) rfl (by exact (rfl : _ = [_, _, _, _, _]))) ?_
  refine s_q rfl rfl (q_mv (.inr rfl) (is_sc rfl)) ?_
  refine s_nil (n_n (w_seq (w_draw [0, 1, 0, 4, 12, 31, 0, 64, 0, 256, 768, 1984, 4095, 8191] [0, 1, 0, 1, 0, 0, 0, 1, 0, 1, 0, 0, 0, 0] rfl ?_)))
  refine d_q0 rfl rfl (q_field rfl rfl (by exact rfl)) ?_
  refine d_q1 rfl rfl (q_load rfl rfl (by exact (rfl : _ = some (D.sc _)))) ?_
  refine d_q0 rfl rfl (q_field rfl rfl (by exact rfl)) ?_
  refine d_q1 rfl rfl (q_load rfl rfl (by exact (rfl : _ = some (D.sc _)))) ?_
  refine d_q0 rfl rfl (q_as (i64_eq (show IntKind.i64.wrap ((16 : Int).tdiv d) = k1 by rw [hk1]; exact wrap_id (by omega) (by omega))) (q_quo rfl rfl rfl hd1)) ?_
  refine d_q0 rfl rfl (q_as (i64_eq (show IntKind.i64.wrap (n * k1) = x by rw [hp1]; exact wrap_id (by omega) (by omega))) (q_mul rfl rfl rfl)) ?_
  refine d_q0 rfl rfl (q_field rfl rfl (by exact rfl)) ?_
  refine d_q1 rfl rfl (q_load rfl rfl (by exact (rfl : _ = some (D.sc _)))) ?_
  refine d_q0 rfl rfl (q_field rfl rfl (by exact rfl)) ?_
  refine d_q1 rfl rfl (q_load rfl rfl (by exact (rfl : _ = some (D.sc _)))) ?_
  refine d_q0 rfl rfl (q_as (i64_eq (show IntKind.i64.wrap ((16 : Int).tdiv d2) = k2 by rw [hk2]; exact wrap_id (by omega) (by omega))) (q_quo rfl rfl rfl hd2)) ?_
  refine d_q0 rfl rfl (q_as (i64_eq (show IntKind.i64.wrap (n2 * k2) = x2 by rw [hp2]; exact wrap_id (by omega) (by omega))) (q_mul rfl rfl rfl)) ?_
  refine d_q0 rfl rfl (q_lss rfl rfl rfl) ?_
  refine d_q0 rfl rfl (q_mv (.inr rfl) (is_sc rfl)) ?_
  refine d_nil (n_n (w_ret ?_))
  -- end 0
  refine r_r (ra_tmp (is_sc rfl) ra_nil) (by exact (is_sc rfl)) (by exact rfl) sub_no ?_
  rfl


theorem pf_LessS (a b : V) (ha : IsSix a) (hb : IsSix b) : PF Tryz.prog G 187 [a.d, b.d] (bl (decide (sixN a < sixN b))) := by
  obtain ⟨n, d, x, rfl, h⟩ := ha
  obtain ⟨n2, d2, x2, rfl, h2⟩ := hb
  rw [h.sixN, h2.sixN]
  exact pf_LessN n d x n2 d2 x2 h h2


-- pub-tallysheet/spec.Add
theorem pf_AddN (n d x n2 d2 x2 : Int) (h : Six x n d) (h2 : Six x2 n2 d2) : PF Tryz.prog G 181 [(num n d).d, (num n2 d2).d] (sixV (x + x2)).d := by
  obtain ⟨k1, hk1, hk1a, hk1b, hp1, hd1⟩ := h.q
  obtain ⟨k2, hk2, hk2a, hk2b, hp2, hd2⟩ := h2.q
  have hb1 := h.bound
  have hb2 := h2.bound
  refine PC.intro rfl Tryz.func181 rfl (Nat.le_of_ble_eq_true rfl) rfl ?_
  refine w_seq (w_reg (s_s rfl rfl (as_box0 (id := 0) rfl (by first | exact (rfl : _ = D.agg [_, _, _, _, _]) | exact rfl) (by exact rfl) rfl (by exact (rfl : _ = [_, _, _, _, _]))) ?_))
  refine s_s rfl rfl (as_box0 (id := 1) rfl (by first | exact (rfl : _ = D.agg [_, _, _, _, _]) | exact rfl) (by exact rfl) rfl (by exact (rfl : _ = [_, _, _, _, _]))) ?_
  refine s_s rfl rfl (as_alloc0 (id := 2) rfl rfl (by exact (rfl : _ = [_, _, _, _, _]))) ?_
  refine s_nil (n_n (w_seq (w_seq (w_reg (s_q rfl rfl (q_field rfl rfl (by exact rfl)) ?_)))))
  refine s_q rfl rfl (q_load rfl rfl (by exact (rfl : _ = some (D.sc _)))) ?_
  refine s_q rfl rfl (q_neq rfl rfl rfl) ?_
  refine s_q rfl rfl (q_mv (.inl rfl) (is_sc rfl)) ?_
  refine s_q rfl rfl (q_field rfl rfl (by exact rfl)) ?_
  refine s_q rfl rfl (q_load rfl rfl (by exact (rfl : _ = some (D.sc _)))) ?_
  refine s_q rfl rfl (q_neq rfl rfl rfl) ?_
  refine s_q rfl rfl (q_pickF rfl rfl (is_sc rfl)) ?_
  refine s_nil (n_n (w_ifF rfl (w_skip (n_n (w_seq (w_draw [0, 1, 0, 4, 12, 31, 0, 64, 0, 256, 768, 1984, 4095, 8191, 16383] [0, 1, 0, 1, 0, 0, 0, 1, 0, 1, 0, 0, 0, 0, 3] rfl ?_))))))
  refine d_q0 rfl rfl (q_field rfl rfl (by exact rfl)) ?_
  refine d_q1 rfl rfl (q_load rfl rfl (by exact (rfl : _ = some (D.sc _)))) ?_
  refine d_q0 rfl rfl (q_field rfl rfl (by exact rfl)) ?_
  refine d_q1 rfl rfl (q_load rfl rfl (by exact (rfl : _ = some (D.sc _)))) ?_
  refine d_q0 rfl rfl (q_as (i64_eq (show IntKind.i64.wrap ((16 : Int).tdiv d) = k1 by rw [hk1]; exact wrap_id (by omega) (by omega))) (q_quo rfl rfl rfl hd1)) ?_
  refine d_q0 rfl rfl (q_as (i64_eq (show IntKind.i64.wrap (n * k1) = x by rw [hp1]; exact wrap_id (by omega) (by omega))) (q_mul rfl rfl rfl)) ?_
  refine d_q0 rfl rfl (q_field rfl rfl (by exact rfl)) ?_
  refine d_q1 rfl rfl (q_load rfl rfl (by exact (rfl : _ = some (D.sc _)))) ?_
  refine d_q0 rfl rfl (q_field rfl rfl (by exact rfl)) ?_
  refine d_q1 rfl rfl (q_load rfl rfl (by exact (rfl : _ = some (D.sc _)))) ?_
  refine d_q0 rfl rfl (q_as (i64_eq (show IntKind.i64.wrap ((16 : Int).tdiv d2) = k2 by rw [hk2]; exact wrap_id (by omega) (by omega))) (q_quo rfl rfl rfl hd2)) ?_
  refine d_q0 rfl rfl (q_as (i64_eq (show IntKind.i64.wrap (n2 * k2) = x2 by rw [hp2]; exact wrap_id (by omega) (by omega))) (q_mul rfl rfl rfl)) ?_
  refine d_q0 rfl rfl (q_as (i64_eq (wrap_id (by omega) (by omega) : _ = x + x2)) (q_add rfl rfl rfl)) ?_
  refine d_q0 rfl rfl (q_call rfl rfl rfl rfl (by have := pf_fracE (G := G) (x + x2) 16 (by omega) (by omega) (by omega) (by omega); rw [fracD16] at this; exact this)) ?_
  refine d_u3 rfl rfl (as_st rfl rfl (by first | exact (rfl : _ = D.agg [_, _, _, _, _]) | exact rfl) rfl (by exact rfl) (by exact rfl) (by exact Nat.le_of_ble_eq_true rfl) (by exact (rfl : _ = [_, _, _, _, _]))) ?_
  refine d_nil (n_n (w_ret ?_))
  -- end 0
  refine r_r (ra_cell (by exact (rfl : _ = some (D.agg [_, _, _, _, _]))) ra_nil) (by first | exact (rfl : _ = D.agg [_, _, _, _, _]) | exact rfl) (by exact rfl) sub_no ?_
  rfl


-- pub-tallysheet/spec.Int
theorem pf_int0  : PF Tryz.prog G 12 [i64 0] (num 0 1).d := by
  refine PC.intro rfl Tryz.func12 rfl (Nat.le_of_ble_eq_true rfl) rfl ?_
  refine w_seq (w_reg (s_s rfl rfl (as_alloc0 (id := 0) rfl rfl (by exact (rfl : _ = [_, _, _, _, _]))) ?_))
  refine s_nil (n_n (w_seq (w_seq (w_reg (s_q rfl rfl (q_mv (.inl rfl) (is_sc rfl)) ?_)))))
  refine s_q rfl rfl (q_gtr rfl rfl rfl) ?_
  refine s_q rfl rfl (q_mv (.inl rfl) (is_sc rfl)) ?_
  refine s_q rfl rfl (q_mv (.inl rfl) (is_sc rfl)) ?_
  refine s_q rfl rfl (q_lss rfl rfl rfl) ?_
  refine s_q rfl rfl (q_pickF rfl rfl (is_sc rfl)) ?_
  refine s_nil (n_n (w_ifF rfl (w_skip (n_n (w_seq (w_reg (s_q rfl rfl (q_mv (.inl rfl) (is_sc rfl)) ?_)))))))
  refine s_q rfl rfl (q_build rfl (pt_cons (is_sc rfl) (pt_cons (is_sc rfl) (pt_cons (is_sc rfl) pt_nil))) (by exact (rfl : _ = some [_, _, _, _, _]))) ?_
  refine s_u rfl rfl (as_st rfl rfl (by first | exact (rfl : _ = D.agg [_, _, _, _, _]) | exact rfl) rfl (by exact rfl) (by exact rfl) (by exact Nat.le_of_ble_eq_true rfl) (by exact (rfl : _ = [_, _, _, _, _]))) ?_
  refine s_nil (n_n (w_ret ?_))
  -- end 0
  refine r_r (ra_cell (by exact (rfl : _ = some (D.agg [_, _, _, _, _]))) ra_nil) (by first | exact (rfl : _ = D.agg [_, _, _, _, _]) | exact rfl) (by exact rfl) sub_no ?_
  rfl


-- pub-tallysheet/spec.sum
theorem pf_sum2 (n d x n2 d2 x2 : Int) (h : Six x n d) (h2 : Six x2 n2 d2) : PF Tryz.prog G 82 [(lst [num n d, num n2 d2])] (sixV (x + x2)).d := by
  have h01 := pf_AddN (G := G) 0 1 0 n d x ⟨.inl rfl, by decide, by decide, by decide, .inl rfl⟩ h
  rw [Int.zero_add, sixV_of h] at h01
  have h12 := pf_AddN (G := G) n d x n2 d2 x2 h h2
  refine PC.intro rfl Tryz.func82 rfl (Nat.le_of_ble_eq_true rfl) rfl ?_
  refine w_seq (w_reg (s_s rfl rfl (as_alloc0 (id := 0) rfl rfl (by exact (rfl : _ = [_, _, _, _, _]))) ?_))
  refine s_nil (n_n (w_seq (w_reg (s_q rfl rfl (q_call rfl rfl rfl rfl pf_int0) ?_))))
  refine s_s rfl rfl (as_alloc0 (id := 1) rfl rfl (by exact (rfl : _ = [_, _, _, _, _]))) ?_
  refine s_u rfl rfl (as_st rfl rfl (by first | exact (rfl : _ = D.agg [_, _, _, _, _]) | exact rfl) rfl (by exact rfl) (by exact rfl) (by exact Nat.le_of_ble_eq_true rfl) (by exact (rfl : _ = [_, _, _, _, _]))) ?_
  refine s_nil (n_n (w_seq (w_seq (w_reg (s_q rfl rfl (q_mv (.inr rfl) (is_sc rfl)) ?_)))))
  refine s_nil (n_n (w_block (w_unroll 2 (u_s ?_))))
  refine w_seq (w_seq (w_reg (s_q rfl rfl (q_mv (.inl rfl) (is_sc rfl)) ?_)))
  refine s_q rfl rfl (q_mv (.inl rfl) (by first | exact is_im rfl | exact is_gs rfl | exact is_lit rfl | exact is_ms rfl | exact is_sc rfl | exact rfl)) ?_
  refine s_q rfl rfl (q_len rfl rfl rfl) ?_
  refine s_q rfl rfl (q_lss rfl rfl rfl) ?_
  refine s_nil (n_n (w_ifT rfl (w_skip (n_n (w_seq (w_block (w_draw [0, 0, 0, 6, 14, 31, 63] [1, 0, 0, 0, 1, 0, 3] rfl ?_)))))))
  refine d_q1 rfl rfl (q_load rfl rfl (by exact (rfl : _ = some (D.agg [_, _, _, _, _])))) ?_
  refine d_q0 rfl rfl (q_mv (.inl rfl) (by first | exact is_im rfl | exact is_gs rfl | exact is_lit rfl | exact is_ms rfl | exact is_sc rfl | exact rfl)) ?_
  refine d_q0 rfl rfl (q_mv (.inl rfl) (is_sc rfl)) ?_
  refine d_q0 rfl rfl (q_index rfl rfl rfl rfl (by first | exact Int.le_refl _ | decide) (by first | (show (0 : Int) < 2; decide) | (show IntKind.i64.wrap (0 + 1) < 2; decide))) ?_
  refine d_q1 rfl rfl (q_load rfl rfl (by exact (rfl : _ = some (D.agg [_, _, _, _, _])))) ?_
  refine d_q0 rfl rfl (q_call rfl rfl rfl rfl h01) ?_
  refine d_u3 rfl rfl (as_st rfl rfl (by first | exact (rfl : _ = D.agg [_, _, _, _, _]) | exact rfl) rfl (by exact rfl) (by exact rfl) (by exact Nat.le_of_ble_eq_true rfl) (by exact (rfl : _ = [_, _, _, _, _]))) ?_
  refine d_nil (b_n (n_n (w_reg (s_q rfl rfl (q_mv (.inl rfl) (is_sc rfl)) ?_))))
  refine s_q rfl rfl (q_add rfl rfl rfl) ?_
  refine s_q rfl rfl (q_mv (.inr rfl) (is_sc rfl)) ?_
  refine s_nil (n_n (u_s (w_seq (w_seq (w_reg (s_q rfl rfl (q_mv (.inl rfl) (is_sc rfl)) ?_))))))
  refine s_q rfl rfl (q_mv (.inl rfl) (by first | exact is_im rfl | exact is_gs rfl | exact is_lit rfl | exact is_ms rfl | exact is_sc rfl | exact rfl)) ?_
  refine s_q rfl rfl (q_len rfl rfl rfl) ?_
  refine s_q rfl rfl (q_lss rfl rfl rfl) ?_
  refine s_nil (n_n (w_ifT rfl (w_skip (n_n (w_seq (w_block (w_draw [0, 0, 0, 6, 14, 31, 63] [1, 0, 0, 0, 1, 0, 3] rfl ?_)))))))
  refine d_q1 rfl rfl (q_load rfl rfl (by exact (rfl : _ = some (D.agg [_, _, _, _, _])))) ?_
  refine d_q0 rfl rfl (q_mv (.inl rfl) (by first | exact is_im rfl | exact is_gs rfl | exact is_lit rfl | exact is_ms rfl | exact is_sc rfl | exact rfl)) ?_
  refine d_q0 rfl rfl (q_mv (.inl rfl) (is_sc rfl)) ?_
  refine d_q0 rfl rfl (q_index rfl rfl rfl rfl (by first | exact Int.le_refl _ | decide) (by first | (show (0 : Int) < 2; decide) | (show IntKind.i64.wrap (0 + 1) < 2; decide))) ?_
  refine d_q1 rfl rfl (q_load rfl rfl (by exact (rfl : _ = some (D.agg [_, _, _, _, _])))) ?_
  refine d_q0 rfl rfl (q_call rfl rfl rfl rfl h12) ?_
  refine d_u3 rfl rfl (as_st rfl rfl (by first | exact (rfl : _ = D.agg [_, _, _, _, _]) | exact rfl) rfl (by exact rfl) (by exact rfl) (by exact Nat.le_of_ble_eq_true rfl) (by exact (rfl : _ = [_, _, _, _, _]))) ?_
  refine d_nil (b_n (n_n (w_reg (s_q rfl rfl (q_mv (.inl rfl) (is_sc rfl)) ?_))))
  refine s_q rfl rfl (q_add rfl rfl rfl) ?_
  refine s_q rfl rfl (q_mv (.inr rfl) (is_sc rfl)) ?_
  refine s_nil (n_n (u_0 (w_seq (w_seq (w_reg (s_q rfl rfl (q_mv (.inl rfl) (is_sc rfl)) ?_))))))
  refine s_q rfl rfl (q_mv (.inl rfl) (by first | exact is_im rfl | exact is_gs rfl | exact is_lit rfl | exact is_ms rfl | exact is_sc rfl | exact rfl)) ?_
  refine s_q rfl rfl (q_len rfl rfl rfl) ?_
  refine s_q rfl rfl (q_lss rfl rfl rfl) ?_
  refine s_nil (n_n (w_ifF rfl (w_exit (n_e (n_e (b_hit (n_n (w_seq (w_reg (s_q rfl rfl (q_load rfl rfl (by exact (rfl : _ = some (D.agg [_, _, _, _, _])))) ?_))))))))))
  refine s_u rfl rfl (as_st rfl rfl (by first | exact (rfl : _ = D.agg [_, _, _, _, _]) | exact rfl) rfl (by exact rfl) (by exact rfl) (by exact Nat.le_of_ble_eq_true rfl) (by exact (rfl : _ = [_, _, _, _, _]))) ?_
  refine s_nil (n_n (w_ret ?_))
  -- end 0
  refine r_r (ra_cell (by exact (rfl : _ = some (D.agg [_, _, _, _, _]))) ra_nil) (by first | exact (rfl : _ = D.agg [_, _, _, _, _]) | exact rfl) (by exact rfl) sub_no ?_
  rfl


-- pub-tallysheet/spec.mean
theorem pf_meanN (n d x n2 d2 x2 : Int) (h : Six x n d) (h2 : Six x2 n2 d2) : PF Tryz.prog G 88 [(lst [num n d, num n2 d2])] (mean2 (num n d) (num n2 d2)).d := by
  have hm := mean2_eq h h2
  refine PC.intro rfl Tryz.func88 rfl (Nat.le_of_ble_eq_true rfl) rfl ?_
  refine w_seq (w_reg (s_s rfl rfl (as_alloc0 (id := 0) rfl rfl (by exact (rfl : _ = [_, _, _, _, _]))) ?_))
  refine s_nil (n_n (w_seq (w_seq (w_reg (s_q rfl rfl (q_mv (.inl rfl) (by first | exact is_im rfl | exact is_gs rfl | exact is_lit rfl | exact is_ms rfl | exact is_sc rfl | exact rfl)) ?_)))))
  refine s_q rfl rfl (q_len rfl rfl rfl) ?_
  refine s_q rfl rfl (q_eql rfl rfl rfl) ?_
  refine s_nil (n_n (w_ifF rfl (w_skip (n_n (w_seq (w_reg (s_q rfl rfl (q_mv (.inl rfl) (by first | exact is_im rfl | exact is_gs rfl | exact is_lit rfl | exact is_ms rfl | exact is_sc rfl | exact rfl)) ?_)))))))
  refine s_q rfl rfl (q_call rfl rfl rfl rfl (pf_sum2 n d x n2 d2 x2 h h2)) ?_
  refine s_s rfl rfl (as_alloc0 (id := 1) rfl rfl (by exact (rfl : _ = [_, _, _, _, _]))) ?_
  refine s_u rfl rfl (as_st rfl rfl (by first | exact (rfl : _ = D.agg [_, _, _, _, _]) | exact rfl) rfl (by exact rfl) (by exact rfl) (by exact Nat.le_of_ble_eq_true rfl) (by exact (rfl : _ = [_, _, _, _, _]))) ?_
  refine s_nil (n_n (w_seq (w_seq (w_reg (s_q rfl rfl (q_field rfl rfl (by exact rfl)) ?_)))))
  refine s_q rfl rfl (q_load rfl rfl (by exact (rfl : _ = some (D.sc _)))) ?_
  refine s_q rfl rfl (q_neq rfl rfl rfl) ?_
  refine s_nil (n_n (w_if (is_scb rfl) (fun h12 => ?_) (fun h12 => ?_)))
  · have g12 : ¬ (sixV (x + x2)).kind = 1 := by simpa using h12
    rw [if_neg g12] at hm
    refine w_seq (w_reg (s_q rfl rfl (q_load rfl rfl (by exact (rfl : _ = some (D.agg [_, _, _, _, _])))) ?_))
    refine s_u rfl rfl (as_st rfl rfl (by first | exact (rfl : _ = D.agg [_, _, _, _, _]) | exact rfl) rfl (by exact rfl) (by exact rfl) (by exact Nat.le_of_ble_eq_true rfl) (by exact (rfl : _ = [_, _, _, _, _]))) ?_
    refine s_nil (n_n (w_ret (n_r ?_)))
    -- end 0
    refine r_r (ra_cell (by exact (rfl : _ = some (D.agg [_, _, _, _, _]))) ra_nil) (by first | exact (rfl : _ = D.agg [_, _, _, _, _]) | exact rfl) (by exact rfl) sub_no ?_
    rw [hm]; rfl
  · have g12 : (sixV (x + x2)).kind = 1 := by simpa using h12
    rw [if_pos g12] at hm
    obtain ⟨n3, d3, e3, hx3⟩ := (sixV_cases (x + x2)).resolve_left (fun e => by rw [e] at g12; exact absurd g12 (by decide))
    have hlo := hx3.lo
    have hhi := hx3.hi
    have hps := hx3.pos
    rw [e3] at hm ⊢
    refine w_skip (n_n (w_seq (w_reg (s_q rfl rfl (q_field rfl rfl (by exact rfl)) ?_))))
    refine s_q rfl rfl (q_load rfl rfl (by exact (rfl : _ = some (D.sc _)))) ?_
    refine s_q rfl rfl (q_field rfl rfl (by exact rfl)) ?_
    refine s_q rfl rfl (q_load rfl rfl (by exact (rfl : _ = some (D.sc _)))) ?_
    refine s_q rfl rfl (q_mv (.inl rfl) (by first | exact is_im rfl | exact is_gs rfl | exact is_lit rfl | exact is_ms rfl | exact is_sc rfl | exact rfl)) ?_
    refine s_q rfl rfl (q_len rfl rfl rfl) ?_
    refine s_q rfl rfl (q_as (i64_eq (show IntKind.i64.wrap (d3 * 2) = d3 * 2 from wrap_id (by omega) (by omega))) (q_mul rfl rfl rfl)) ?_
    refine s_q rfl rfl (q_call rfl rfl rfl rfl (pf_fracE n3 (d3 * 2) (by omega) (by omega) (by omega) (by omega))) ?_
    refine s_u rfl rfl (as_st rfl rfl (by first | exact (rfl : _ = D.agg [_, _, _, _, _]) | exact rfl) rfl (by exact rfl) (by exact rfl) (by exact Nat.le_of_ble_eq_true rfl) (by exact (rfl : _ = [_, _, _, _, _]))) ?_
    refine s_nil (n_n (w_ret ?_))
    -- end 1
    refine r_r (ra_cell (by exact (rfl : _ = some (D.agg [_, _, _, _, _]))) ra_nil) (by first | exact (rfl : _ = D.agg [_, _, _, _, _]) | exact rfl) (by exact rfl) sub_no ?_
    rw [hm]; rfl


theorem pf_meanS (a b : V) (ha : IsSix a) (hb : IsSix b) : PF Tryz.prog G 88 [lst [a, b]] (mean2 a b).d := by
  obtain ⟨n, d, x, rfl, h⟩ := ha
  obtain ⟨n2, d2, x2, rfl, h2⟩ := hb
  exact pf_meanN n d x n2 d2 x2 h h2

end Go.Proofs.YtopgbalmdocboaaGreatDoor.Zz
namespace Go.Proofs.YtopgbalmdocboaaGreatDoor.Zz
open Go.Abs
set_option maxRecDepth 100000
set_option linter.unusedVariables false
set_option linter.unusedSimpArgs false
set_option maxHeartbeats 4000000
variable {G : Nat → D}

-- pub-tallysheet/spec.sorted
theorem pf_sorted (l : List V) (hl9 : l.length ≤ 100000) (h6 : ∀ v ∈ l, IsSix v) : PF Tryz.prog G 183 [lst l] (lst (sortedV l)) := by
  refine PC.intro rfl Tryz.func183 rfl (Nat.le_of_ble_eq_true rfl) rfl ?_
  refine w_seq (w_reg (s_q rfl rfl (q_mv (.inr rfl) (by first | exact is_im rfl | exact is_gs rfl | exact is_lit rfl | exact is_ms rfl | exact is_sc rfl | exact rfl)) ?_))
  refine s_nil (n_n (w_seq (w_reg (s_s rfl rfl (as_nil (e := 27) (.inl rfl) rfl) ?_))))
  refine s_nil (n_n (w_seq (w_seq (w_reg (s_q rfl rfl (q_mv (.inr rfl) (is_sc rfl)) ?_)))))
  refine s_nil (n_n (w_block ?_))
  refine w_loop (fun env A => ∃ (i t : Nat), i ≤ l.length ∧ Binds env [(0, lst l), (3, .gs t 27 ((sortedV (l.take i)).flatMap V.c) (sortedV (l.take i)).length), (4, i64 i)] ∧ A.o = [] ∧ A.h = noHeap) (fun env _ => l.length - ctr (env 4)) ?_ ?_
  · exact ⟨0, _, Nat.zero_le _, ⟨rfl, rfl, rfl, trivial⟩, rfl, rfl⟩
  · rintro env ⟨o, live, ln, hh⟩ ⟨i, t, hi, hB, e1, e2⟩
    obtain rfl : o = [] := e1
    obtain rfl : hh = noHeap := e2
    rw [hB.eq]; clear hB
    have hSl : (sortedV (l.take i)).length = i := by rw [sortedV_len, List.length_take]; omega
    refine w_seq (w_seq (w_reg (s_q rfl rfl (q_mv (.inl rfl) (is_sc rfl)) ?_)))
    refine s_q rfl rfl (q_mv (.inl rfl) (by first | exact is_im rfl | exact is_gs rfl | exact is_lit rfl | exact is_ms rfl | exact is_sc rfl | exact rfl)) ?_
    refine s_q rfl rfl (q_len rfl rfl rfl) ?_
    refine s_q rfl rfl (q_lss rfl rfl rfl) ?_
    refine s_nil (n_n (w_if (is_scb rfl) (fun h10 => ?_) (fun h10 => ?_)))
    · have hlt : i < l.length := by have h' : (i : Int) < ((l.length : Nat) : Int) := of_decide_eq_true h10; omega
      have h6i := h6 _ (List.getElem_mem hlt)
      refine w_skip (n_n (w_seq (w_block (w_seq (w_reg (s_s rfl rfl (as_nil (e := 27) (.inl rfl) rfl) ?_))))))
      refine s_nil (n_n (w_seq (w_reg (s_q rfl rfl (q_mv (.inr rfl) (is_sc rfl)) ?_))))
      refine s_nil (n_n (w_seq (w_join (fun env A => ∃ k : Nat, k ≤ (sortedV (l.take i)).length ∧ (∀ y ∈ (sortedV (l.take i)).take k, ¬ sixN l[i] < sixN y) ∧ (∀ h : k < (sortedV (l.take i)).length, sixN l[i] < sixN (sortedV (l.take i))[k]) ∧ Binds env [(0, lst l), (3, .gs t 27 ((sortedV (l.take i)).flatMap V.c) (sortedV (l.take i)).length), (4, i64 i), (5, .gs ln 27 [] 0), (6, i64 k)] ∧ A = (⟨[], live, ln, noHeap⟩ : AH).tags 1) ?_ ?_)))
      · refine w_block ?_
        refine w_loop (fun env A => ∃ k : Nat, k ≤ (sortedV (l.take i)).length ∧ (∀ y ∈ (sortedV (l.take i)).take k, ¬ sixN l[i] < sixN y) ∧ Binds env [(0, lst l), (3, .gs t 27 ((sortedV (l.take i)).flatMap V.c) (sortedV (l.take i)).length), (4, i64 i), (5, .gs ln 27 [] 0), (6, i64 k)] ∧ A = (⟨[], live, ln, noHeap⟩ : AH).tags 1) (fun env _ => (sortedV (l.take i)).length - ctr (env 6)) ?_ ?_
        · exact ⟨0, Nat.zero_le _, by simp, ⟨rfl, rfl, rfl, rfl, rfl, trivial⟩, rfl⟩
        · rintro env A ⟨k, hk, hp, hB, rfl⟩
          rw [hB.eq]; clear hB
          refine w_seq (w_seq (w_draw [0, 0, 2, 7, 15, 31, 31, 127, 255, 31, 31, 1567, 3615, 8191, 16383, 32767] [0, 0, 0, 0, 0, 0, 0, 0, 1, 0, 0, 0, 1, 0, 0, 0] rfl ?_))
          refine d_q0 rfl rfl (q_mv (.inl rfl) (is_sc rfl)) ?_
          refine d_q0 rfl rfl (q_mv (.inl rfl) (by first | exact is_im rfl | exact is_gs rfl | exact is_lit rfl | exact is_ms rfl | exact is_sc rfl | exact rfl)) ?_
          refine d_q0 rfl rfl (q_len rfl rfl rfl) ?_
          refine d_q0 rfl rfl (q_lss rfl rfl rfl) ?_
          refine d_q0 rfl rfl (q_mv (.inl rfl) (is_sc rfl)) ?_
          refine d_split 17 (is_scb rfl) (fun h17 => ?_) (fun h17 => ?_)
          · have hklt : k < (sortedV (l.take i)).length := by have h' : (k : Int) < (((sortedV (l.take i)).length : Nat) : Int) := of_decide_eq_true h17; omega
            have h6k : IsSix (sortedV (l.take i))[k] := h6 _ (List.mem_of_mem_take (sortedV_mem (List.getElem_mem hklt)))
            refine d_q0 rfl rfl (q_mv (.inl rfl) (by first | exact is_im rfl | exact is_gs rfl | exact is_lit rfl | exact is_ms rfl | exact is_sc rfl | exact rfl)) ?_
            refine d_q0 rfl rfl (q_mv (.inl rfl) (is_sc rfl)) ?_
            refine d_q0 rfl rfl (q_index rfl rfl rfl rfl (Int.natCast_nonneg _) (by omega)) ?_
            refine d_q1 rfl rfl (q_loadPin rfl rfl (by exact take_lst hlt)) ?_
            refine d_q0 rfl rfl (q_mv (.inl rfl) (by first | exact is_im rfl | exact is_gs rfl | exact is_lit rfl | exact is_ms rfl | exact is_sc rfl | exact rfl)) ?_
            refine d_q0 rfl rfl (q_mv (.inl rfl) (is_sc rfl)) ?_
            refine d_q0 rfl rfl (q_index rfl rfl rfl rfl (Int.natCast_nonneg _) (by omega)) ?_
            refine d_q1 rfl rfl (q_loadPin rfl rfl (by exact take_lst hklt)) ?_
            refine d_q0 rfl rfl (q_call rfl rfl rfl rfl (pf_LessS _ _ h6i h6k)) ?_
            refine d_q0 rfl rfl (q_not rfl rfl) ?_
            refine d_q0 rfl rfl (q_pickT rfl rfl (is_sc rfl)) ?_
            refine d_nil (n_n (w_if (is_scb rfl) (fun h28 => ?_) (fun h28 => ?_)))
            · refine w_skip (n_n (w_block (w_reg (s_q rfl rfl (q_mv (.inl rfl) (is_sc rfl)) ?_))))
              refine s_q rfl rfl (q_add rfl rfl rfl) ?_
              refine s_q rfl rfl (q_mv (.inr rfl) (is_sc rfl)) ?_
              refine s_nil (b_n (n_n ?_))
              have hw : IntKind.i64.wrap ((k : Int) + 1) = ((k + 1 : Nat) : Int) := wrap_nat (by omega)
              have hs : ¬ sixN l[i] < sixN (sortedV (l.take i))[k] := by simpa using h28
              refine ⟨⟨k + 1, hklt, take_more hklt hp hs, ⟨rfl, rfl, rfl, rfl, i64_eq hw, trivial⟩, rfl⟩, ?_⟩
              show (sortedV (l.take i)).length - (IntKind.i64.wrap ((k : Int) + 1)).toNat < (sortedV (l.take i)).length - (k : Int).toNat
              rw [hw]; omega
            · refine w_exit (n_e (n_e (b_hit ?_)))
              exact ⟨rfl, k, hk, hp, by first | exact (fun _ => by simpa using h28) | exact (fun h => absurd h hkge), ⟨rfl, rfl, rfl, rfl, rfl, trivial⟩, rfl⟩
          · have hkge : ¬ k < (sortedV (l.take i)).length := by have h' : ¬ (k : Int) < (((sortedV (l.take i)).length : Nat) : Int) := of_decide_eq_false h17; omega
            refine d_off rfl rfl ?_
            refine d_off rfl rfl ?_
            refine d_off rfl rfl ?_
            refine d_off rfl rfl ?_
            refine d_off rfl rfl ?_
            refine d_off rfl rfl ?_
            refine d_off rfl rfl ?_
            refine d_off rfl rfl ?_
            refine d_off rfl rfl ?_
            refine d_off rfl rfl ?_
            refine d_q0 rfl rfl (q_pickF rfl rfl (is_sc rfl)) ?_
            refine d_nil (n_n (w_ifF rfl (w_exit (n_e (n_e (b_hit ?_))))))
            exact ⟨rfl, k, hk, hp, by first | exact (fun _ => by simpa using h28) | exact (fun h => absurd h hkge), ⟨rfl, rfl, rfl, rfl, rfl, trivial⟩, rfl⟩
      · rintro env A ⟨k, hk, hp, hq, hB, rfl⟩
        rw [hB.eq]; clear hB
        have e1 : (((sortedV (l.take i)).take k).flatMap V.c).length = k * 5 := by rw [len_lst, List.length_take]; omega
        have e2 : (((sortedV (l.take i)).drop k).flatMap V.c).length = ((sortedV (l.take i)).length - k) * 5 := by rw [len_lst, List.length_drop]
        refine n_n (w_seq (w_reg (s_q rfl rfl (q_mv (.inl rfl) (by first | exact is_im rfl | exact is_gs rfl | exact is_lit rfl | exact is_ms rfl | exact is_sc rfl | exact rfl)) ?_)))
        refine s_q rfl rfl (q_mv (.inl rfl) (by first | exact is_im rfl | exact is_gs rfl | exact is_lit rfl | exact is_ms rfl | exact is_sc rfl | exact rfl)) ?_
        refine s_q rfl rfl (q_mv (.inl rfl) (is_sc rfl)) ?_
        refine s_q rfl rfl (q_cutIm (a := 0) (b := k) (k := k) rfl rfl rfl rfl ⟨_, _, rfl, Int.natCast_nonneg _, rfl⟩ (Nat.zero_le _) hk (by rw [cut_lst hk, List.drop_zero]) (by omega)) ?_
        refine s_s rfl rfl (as_append rfl rfl (live_tags _) rfl rfl (by decide) rfl (by exact e1) (by show (0 + k) * 64 ≤ _; omega) (by show 0 + k ≤ 9223372036854775807; omega)) ?_
        refine s_q rfl rfl (q_mv (.inr rfl) (by first | exact is_im rfl | exact is_gs rfl | exact is_lit rfl | exact is_ms rfl | exact is_sc rfl | exact rfl)) ?_
        refine s_nil (n_n (w_seq (w_reg (s_q rfl rfl (q_mv (.inl rfl) (by first | exact is_im rfl | exact is_gs rfl | exact is_lit rfl | exact is_ms rfl | exact is_sc rfl | exact rfl)) ?_))))
        refine s_q rfl rfl (q_mv (.inl rfl) (by first | exact is_im rfl | exact is_gs rfl | exact is_lit rfl | exact is_ms rfl | exact is_sc rfl | exact rfl)) ?_
        refine s_q rfl rfl (q_mv (.inl rfl) (is_sc rfl)) ?_
        refine s_q rfl rfl (q_index rfl rfl rfl rfl (Int.natCast_nonneg _) (by omega)) ?_
        refine s_q rfl rfl (q_loadPin rfl rfl (by exact take_lst hlt)) ?_
        refine s_q rfl rfl (q_bs rfl (pt_cons (by first | exact (rfl : _ = D.agg [_, _, _, _, _]) | exact rfl) pt_nil) (by decide) (by decide) (by exact (rfl : _ = some [_, _, _, _, _])) (by exact (rfl : _ = [_, _, _, _, _])) (by exact rfl) (by exact rfl)) ?_
        refine s_s rfl rfl (as_append rfl rfl (live_app _ _) rfl rfl (by decide) (by simp only [List.length_append, List.length_nil, List.length_cons, e1, e2]; first | rfl | omega) rfl (by show (0 + k + 1) * 64 ≤ _; omega) (by show 0 + k + 1 ≤ 9223372036854775807; omega)) ?_
        refine s_q rfl rfl (q_mv (.inr rfl) (by first | exact is_im rfl | exact is_gs rfl | exact is_lit rfl | exact is_ms rfl | exact is_sc rfl | exact rfl)) ?_
        refine s_nil (n_n (w_reg (s_q rfl rfl (q_mv (.inl rfl) (by first | exact is_im rfl | exact is_gs rfl | exact is_lit rfl | exact is_ms rfl | exact is_sc rfl | exact rfl)) ?_)))
        refine s_q rfl rfl (q_mv (.inl rfl) (by first | exact is_im rfl | exact is_gs rfl | exact is_lit rfl | exact is_ms rfl | exact is_sc rfl | exact rfl)) ?_
        refine s_q rfl rfl (q_mv (.inl rfl) (is_sc rfl)) ?_
        refine s_q rfl rfl (q_cutIm (a := k) (b := (sortedV (l.take i)).length) (k := (sortedV (l.take i)).length - k) (cs' := ((sortedV (l.take i)).drop k).flatMap V.c) rfl rfl rfl ⟨_, _, rfl, Int.natCast_nonneg _, rfl⟩ rfl hk (Nat.le_refl _) (by rw [cut_lst (Nat.le_refl _), List.take_length]) rfl) ?_
        refine s_s rfl rfl (as_append rfl rfl (live_app _ _) rfl rfl (by decide) (by simp only [List.length_append, List.length_nil, List.length_cons, e1, e2]; first | rfl | omega) (by exact e2) (by show (0 + k + 1 + ((sortedV (l.take i)).length - k)) * 64 ≤ _; omega) (by show 0 + k + 1 + ((sortedV (l.take i)).length - k) ≤ 9223372036854775807; omega)) ?_
        refine s_q rfl rfl (q_mv (.inr rfl) (by first | exact is_im rfl | exact is_gs rfl | exact is_lit rfl | exact is_ms rfl | exact is_sc rfl | exact rfl)) ?_
        refine s_nil (b_n (n_n (w_reg (s_q rfl rfl (q_mv (.inl rfl) (is_sc rfl)) ?_))))
        refine s_q rfl rfl (q_add rfl rfl rfl) ?_
        refine s_q rfl rfl (q_mv (.inr rfl) (is_sc rfl)) ?_
        refine s_nil (n_n ?_)
        have hw : IntKind.i64.wrap ((i : Int) + 1) = ((i + 1 : Nat) : Int) := wrap_nat (by omega)
        refine ⟨⟨i + 1, ln + 3, hlt, ⟨rfl, ?_, i64_eq hw, trivial⟩, rfl, rfl⟩, ?_⟩
        · refine gs_eq ?_ ?_
          · rw [sortedV_succ hlt, insV_cut hk hp hq, List.flatMap_append, List.flatMap_cons]; simp only [List.nil_append, List.append_assoc]; rfl
          · rw [sortedV_succ hlt, insV_cut hk hp hq]; simp only [List.length_append, List.length_cons, List.length_take, List.length_drop]; omega
        · show l.length - (IntKind.i64.wrap ((i : Int) + 1)).toNat < l.length - (i : Int).toNat
          rw [hw]; omega
    · have hge : l.length ≤ i := by have h' : ¬ (i : Int) < ((l.length : Nat) : Int) := of_decide_eq_false h10; omega
      rw [List.take_of_length_le hge]
      refine w_exit (n_e (n_e (b_hit (n_n (w_seq (w_reg (s_q rfl rfl (q_mv (.inl rfl) (by first | exact is_im rfl | exact is_gs rfl | exact is_lit rfl | exact is_ms rfl | exact is_sc rfl | exact rfl)) ?_)))))))
      refine s_q rfl rfl (q_mv (.inr rfl) (by first | exact is_im rfl | exact is_gs rfl | exact is_lit rfl | exact is_ms rfl | exact is_sc rfl | exact rfl)) ?_
      refine s_nil (n_n (w_ret ?_))
      -- end 0
      refine r_r (ra_tmp (by first | exact is_im rfl | exact is_gs rfl | exact is_lit rfl | exact is_ms rfl | exact is_sc rfl | exact rfl) ra_nil) (by first | exact is_im rfl | exact is_gs rfl | exact is_lit rfl | exact is_ms rfl | exact is_sc rfl | exact rfl) (by exact rfl) sub_no ?_
      rfl


-- pub-tallysheet/spec.median
theorem pf_median (l : List V) (hl9 : l.length ≤ 100000) (h6 : ∀ v ∈ l, IsSix v) : PF Tryz.prog G 89 [lst l] (medianV l).d := by
  have hSl := sortedV_len l
  refine PC.intro rfl Tryz.func89 rfl (Nat.le_of_ble_eq_true rfl) rfl ?_
  refine w_seq (w_reg (s_s rfl rfl (as_alloc0 (id := 0) rfl rfl (by exact (rfl : _ = [_, _, _, _, _]))) ?_))
  refine s_nil (n_n (w_seq (w_seq (w_reg (s_q rfl rfl (q_mv (.inl rfl) (by first | exact is_im rfl | exact is_gs rfl | exact is_lit rfl | exact is_ms rfl | exact is_sc rfl | exact rfl)) ?_)))))
  refine s_q rfl rfl (q_len rfl rfl rfl) ?_
  refine s_q rfl rfl (q_eql rfl rfl rfl) ?_
  refine s_nil (n_n (w_if (is_scb rfl) (fun h6x => ?_) (fun h6x => ?_)))
  · have hz : l.length = 0 := by have h' : ((l.length : Nat) : Int) = 0 := of_decide_eq_true h6x; omega
    refine w_seq (w_reg (s_q rfl rfl (q_call rfl rfl rfl rfl (pf_err _)) ?_))
    refine s_u rfl rfl (as_st rfl rfl (by first | exact (rfl : _ = D.agg [_, _, _, _, _]) | exact rfl) rfl (by exact rfl) (by exact rfl) (by exact Nat.le_of_ble_eq_true rfl) (by exact (rfl : _ = [_, _, _, _, _]))) ?_
    refine s_nil (n_n (w_ret (n_r ?_)))
    -- end 0
    refine r_r (ra_cell (by exact (rfl : _ = some (D.agg [_, _, _, _, _]))) ra_nil) (by first | exact (rfl : _ = D.agg [_, _, _, _, _]) | exact rfl) (by exact rfl) sub_no ?_
    rw [medianV_zero hz]; rfl
  · have hz : ¬ l.length = 0 := by have h' : ¬ ((l.length : Nat) : Int) = 0 := of_decide_eq_false h6x; omega
    refine w_skip (n_n (w_seq (w_reg (s_q rfl rfl (q_mv (.inl rfl) (by first | exact is_im rfl | exact is_gs rfl | exact is_lit rfl | exact is_ms rfl | exact is_sc rfl | exact rfl)) ?_))))
    refine s_q rfl rfl (q_call rfl rfl rfl rfl (pf_sorted l hl9 h6)) ?_
    refine s_q rfl rfl (q_mv (.inr rfl) (by first | exact is_im rfl | exact is_gs rfl | exact is_lit rfl | exact is_ms rfl | exact is_sc rfl | exact rfl)) ?_
    refine s_nil (n_n (w_seq (w_seq (w_reg (s_q rfl rfl (q_mv (.inl rfl) (by first | exact is_im rfl | exact is_gs rfl | exact is_lit rfl | exact is_ms rfl | exact is_sc rfl | exact rfl)) ?_)))))
    refine s_q rfl rfl (q_len rfl rfl rfl) ?_
    refine s_q rfl rfl (q_rem rfl rfl rfl (by decide)) ?_
    refine s_q rfl rfl (q_eql rfl rfl rfl) ?_
    refine s_nil (n_n (w_if (is_scb rfl) (fun h13 => ?_) (fun h13 => ?_)))
    · have ho : (sortedV l).length % 2 = 1 := by have h' : (((sortedV l).length : Nat) : Int).tmod 2 = 1 := of_decide_eq_true h13; rw [Int.tmod_eq_emod_of_nonneg (by omega)] at h'; omega
      refine w_seq (w_reg (s_q rfl rfl (q_mv (.inl rfl) (by first | exact is_im rfl | exact is_gs rfl | exact is_lit rfl | exact is_ms rfl | exact is_sc rfl | exact rfl)) ?_))
      refine s_q rfl rfl (q_mv (.inl rfl) (by first | exact is_im rfl | exact is_gs rfl | exact is_lit rfl | exact is_ms rfl | exact is_sc rfl | exact rfl)) ?_
      refine s_q rfl rfl (q_len rfl rfl rfl) ?_
      refine s_q rfl rfl (q_as (i64_eq (show IntKind.i64.wrap ((((sortedV l).length : Nat) : Int).tdiv 2) = ((((sortedV l).length) / 2 : Nat) : Int) by rw [Int.tdiv_eq_ediv_of_nonneg (by omega)]; exact (wrap_id (by omega) (by omega)).trans (by omega))) (q_quo rfl rfl rfl (by decide))) ?_
      refine s_q rfl rfl (q_index rfl rfl rfl rfl (Int.natCast_nonneg _) (by omega)) ?_
      refine s_q rfl rfl (q_loadPin rfl rfl (by exact take_lst (l := sortedV l) (i := (sortedV l).length / 2) (by omega))) ?_
      refine s_u rfl rfl (as_st rfl rfl (by first | exact (rfl : _ = D.agg [_, _, _, _, _]) | exact rfl) rfl (by exact rfl) (by exact rfl) (by exact Nat.le_of_ble_eq_true rfl) (by exact (rfl : _ = [_, _, _, _, _]))) ?_
      refine s_nil (n_n (w_ret (n_r ?_)))
      -- end 1
      refine r_r (ra_cell (by exact (rfl : _ = some (D.agg [_, _, _, _, _]))) ra_nil) (by first | exact (rfl : _ = D.agg [_, _, _, _, _]) | exact rfl) (by exact rfl) sub_no ?_
      rw [medianV_odd hz ho (by omega)]; rfl
    · have ho : (sortedV l).length % 2 = 0 := by have h' : ¬ (((sortedV l).length : Nat) : Int).tmod 2 = 1 := of_decide_eq_false h13; rw [Int.tmod_eq_emod_of_nonneg (by omega)] at h'; omega
      have h6a : IsSix ((sortedV l)[(sortedV l).length / 2 - 1]'(by omega)) := h6 _ (sortedV_mem (List.getElem_mem _))
      have h6b : IsSix ((sortedV l)[(sortedV l).length / 2]'(by omega)) := h6 _ (sortedV_mem (List.getElem_mem _))
      refine w_skip (n_n (w_seq (w_reg (s_q rfl rfl (q_mv (.inl rfl) (by first | exact is_im rfl | exact is_gs rfl | exact is_lit rfl | exact is_ms rfl | exact is_sc rfl | exact rfl)) ?_))))
      refine s_q rfl rfl (q_mv (.inl rfl) (by first | exact is_im rfl | exact is_gs rfl | exact is_lit rfl | exact is_ms rfl | exact is_sc rfl | exact rfl)) ?_
      refine s_q rfl rfl (q_len rfl rfl rfl) ?_
      refine s_q rfl rfl (q_as (i64_eq (show IntKind.i64.wrap ((((sortedV l).length : Nat) : Int).tdiv 2) = ((((sortedV l).length) / 2 : Nat) : Int) by rw [Int.tdiv_eq_ediv_of_nonneg (by omega)]; exact (wrap_id (by omega) (by omega)).trans (by omega))) (q_quo rfl rfl rfl (by decide))) ?_
      refine s_q rfl rfl (q_as (i64_eq ((wrap_id (by omega) (by omega)).trans (by omega) : _ = (((sortedV l).length / 2 - 1 : Nat) : Int))) (q_sub rfl rfl rfl)) ?_
      refine s_q rfl rfl (q_mv (.inl rfl) (by first | exact is_im rfl | exact is_gs rfl | exact is_lit rfl | exact is_ms rfl | exact is_sc rfl | exact rfl)) ?_
      refine s_q rfl rfl (q_len rfl rfl rfl) ?_
      refine s_q rfl rfl (q_as (i64_eq (show IntKind.i64.wrap ((((sortedV l).length : Nat) : Int).tdiv 2) = ((((sortedV l).length) / 2 : Nat) : Int) by rw [Int.tdiv_eq_ediv_of_nonneg (by omega)]; exact (wrap_id (by omega) (by omega)).trans (by omega))) (q_quo rfl rfl rfl (by decide))) ?_
      refine s_q rfl rfl (q_as (i64_eq ((wrap_id (by omega) (by omega)).trans (by omega) : _ = (((sortedV l).length / 2 + 1 : Nat) : Int))) (q_add rfl rfl rfl)) ?_
      refine s_q rfl rfl (q_cutIm (a := (sortedV l).length / 2 - 1) (b := (sortedV l).length / 2 + 1) (k := 2) (cs' := [(sortedV l)[(sortedV l).length / 2 - 1]'(by omega), (sortedV l)[(sortedV l).length / 2]'(by omega)].flatMap V.c) rfl rfl rfl ⟨_, _, rfl, Int.natCast_nonneg _, rfl⟩ ⟨_, _, rfl, Int.natCast_nonneg _, rfl⟩ (by omega) (by omega) (by rw [cut_lst (by omega), cut_mid (by omega) (by omega)]) (by omega)) ?_
      refine s_q rfl rfl (q_call rfl rfl rfl rfl (pf_meanS _ _ h6a h6b)) ?_
      refine s_u rfl rfl (as_st rfl rfl (by first | exact (rfl : _ = D.agg [_, _, _, _, _]) | exact rfl) rfl (by exact rfl) (by exact rfl) (by exact Nat.le_of_ble_eq_true rfl) (by exact (rfl : _ = [_, _, _, _, _]))) ?_
      refine s_nil (n_n (w_ret ?_))
      -- end 2
      refine r_r (ra_cell (by exact (rfl : _ = some (D.agg [_, _, _, _, _]))) ra_nil) (by first | exact (rfl : _ = D.agg [_, _, _, _, _]) | exact rfl) (by exact rfl) sub_no ?_
      rw [medianV_even hz ho (by omega)]; rfl


-- pub-tallysheet/spec.calmly
theorem pf_calmG (l : List V) (hne : ¬ l = []) (hO : Ok l) (hl9 : (flatV l).length ≤ 100000) (hT : ∀ v ∈ flatV l, v.text.length < 4000000000) (h6 : ∀ v ∈ numsV l, IsSix v) (hall : l.all okM = true) : PF Tryz.prog G 87 [lst l, bl false, .fn 89 [] []] (medianV (numsV l)).d := by
  have hm := pf_middle (G := G) l hne hO hl9 hT
  rw [show midD l = .tup [lst (numsV l), bl true] from if_pos hall] at hm
  refine PC.intro rfl Tryz.func87 rfl (Nat.le_of_ble_eq_true rfl) rfl ?_
  refine w_seq (w_reg (s_s rfl rfl (as_alloc0 (id := 0) rfl rfl (by exact (rfl : _ = [_, _, _, _, _]))) ?_))
  refine s_nil (n_n (w_seq (w_reg (s_q rfl rfl (q_mv (.inl rfl) (by first | exact is_im rfl | exact is_gs rfl | exact is_lit rfl | exact is_ms rfl | exact is_sc rfl | exact rfl)) ?_))))
  refine s_q rfl rfl (q_mv (.inl rfl) (is_sc rfl)) ?_
  refine s_q rfl rfl (q_call rfl rfl rfl rfl hm) ?_
  refine s_q rfl rfl (q_mv (.inl rfl) (by first | exact (rfl : _ = D.tup [_, _]) | exact rfl)) ?_
  refine s_q rfl rfl (q_extract rfl rfl rfl) ?_
  refine s_q rfl rfl (q_extract rfl rfl rfl) ?_
  refine s_q rfl rfl (q_mv (.inr rfl) (by first | exact is_im rfl | exact is_gs rfl | exact is_lit rfl | exact is_ms rfl | exact is_sc rfl | exact rfl)) ?_
  refine s_q rfl rfl (q_mv (.inr rfl) (is_sc rfl)) ?_
  refine s_nil (n_n (w_seq (w_seq (w_reg (s_q rfl rfl (q_mv (.inl rfl) (is_sc rfl)) ?_)))))
  refine s_q rfl rfl (q_not rfl rfl) ?_
  refine s_nil (n_n (w_ifF rfl (w_skip (n_n (w_seq (w_reg (s_q rfl rfl (q_mv (.inl rfl) (by first | exact is_fn rfl | exact rfl)) ?_)))))))
  refine s_q rfl rfl (q_mv (.inl rfl) (by first | exact is_im rfl | exact is_gs rfl | exact is_lit rfl | exact is_ms rfl | exact is_sc rfl | exact rfl)) ?_
  refine s_q rfl rfl (q_call rfl rfl rfl rfl (pf_median (numsV l) (Nat.le_trans (n1_len _) hl9) h6)) ?_
  refine s_u rfl rfl (as_st rfl rfl (by first | exact (rfl : _ = D.agg [_, _, _, _, _]) | exact rfl) rfl (by exact rfl) (by exact rfl) (by exact Nat.le_of_ble_eq_true rfl) (by exact (rfl : _ = [_, _, _, _, _]))) ?_
  refine s_nil (n_n (w_ret ?_))
  -- end 0
  refine r_r (ra_cell (by exact (rfl : _ = some (D.agg [_, _, _, _, _]))) ra_nil) (by first | exact (rfl : _ = D.agg [_, _, _, _, _]) | exact rfl) (by exact rfl) sub_no ?_
  rfl


-- pub-tallysheet/spec.calmly
theorem pf_calmB (l : List V) (hne : ¬ l = []) (hO : Ok l) (hl9 : (flatV l).length ≤ 100000) (hT : ∀ v ∈ flatV l, v.text.length < 4000000000) (h6 : ∀ v ∈ numsV l, IsSix v) (hall : ¬ l.all okM = true) : PF Tryz.prog G 87 [lst l, bl false, .fn 89 [] []] doubt.d := by
  have hm := pf_middle (G := G) l hne hO hl9 hT
  rw [show midD l = .tup [.im [] 0, bl false] from if_neg hall] at hm
  refine PC.intro rfl Tryz.func87 rfl (Nat.le_of_ble_eq_true rfl) rfl ?_
  refine w_seq (w_reg (s_s rfl rfl (as_alloc0 (id := 0) rfl rfl (by exact (rfl : _ = [_, _, _, _, _]))) ?_))
  refine s_nil (n_n (w_seq (w_reg (s_q rfl rfl (q_mv (.inl rfl) (by first | exact is_im rfl | exact is_gs rfl | exact is_lit rfl | exact is_ms rfl | exact is_sc rfl | exact rfl)) ?_))))
  refine s_q rfl rfl (q_mv (.inl rfl) (is_sc rfl)) ?_
  refine s_q rfl rfl (q_call rfl rfl rfl rfl hm) ?_
  refine s_q rfl rfl (q_mv (.inl rfl) (by first | exact (rfl : _ = D.tup [_, _]) | exact rfl)) ?_
  refine s_q rfl rfl (q_extract rfl rfl rfl) ?_
  refine s_q rfl rfl (q_extract rfl rfl rfl) ?_
  refine s_q rfl rfl (q_mv (.inr rfl) (by first | exact is_im rfl | exact is_gs rfl | exact is_lit rfl | exact is_ms rfl | exact is_sc rfl | exact rfl)) ?_
  refine s_q rfl rfl (q_mv (.inr rfl) (is_sc rfl)) ?_
  refine s_nil (n_n (w_seq (w_seq (w_reg (s_q rfl rfl (q_mv (.inl rfl) (is_sc rfl)) ?_)))))
  refine s_q rfl rfl (q_not rfl rfl) ?_
  refine s_nil (n_n (w_ifT rfl (w_seq (w_reg (s_q rfl rfl (q_call rfl rfl rfl rfl pf_doubt) ?_)))))
  refine s_u rfl rfl (as_st rfl rfl (by first | exact (rfl : _ = D.agg [_, _, _, _, _]) | exact rfl) rfl (by exact rfl) (by exact rfl) (by exact Nat.le_of_ble_eq_true rfl) (by exact (rfl : _ = [_, _, _, _, _]))) ?_
  refine s_nil (n_n (w_ret (n_r ?_)))
  -- end 0
  refine r_r (ra_cell (by exact (rfl : _ = some (D.agg [_, _, _, _, _]))) ra_nil) (by first | exact (rfl : _ = D.agg [_, _, _, _, _]) | exact rfl) (by exact rfl) sub_no ?_
  rfl


theorem pf_calm (l : List V) (hne : ¬ l = []) (hO : Ok l) (hl9 : (flatV l).length ≤ 100000) (hT : ∀ v ∈ flatV l, v.text.length < 4000000000) (h6 : ∀ v ∈ numsV l, IsSix v) : PF Tryz.prog G 87 [lst l, bl false, .fn 89 [] []] (calmV l).d := by
  unfold calmV
  by_cases hall : l.all okM = true
  · rw [if_pos hall]; exact pf_calmG l hne hO hl9 hT h6 hall
  · rw [if_neg hall]; exact pf_calmB l hne hO hl9 hT h6 hall

end Go.Proofs.YtopgbalmdocboaaGreatDoor.Zz
