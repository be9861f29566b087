/- Walks of the functions, printed by program, and the logic behind them: each theorem says what one function or one step answers. -/
import Derived.Test.YtopgbalmdocboaaGreatDoorZWa
import Derived.Test.YtopgbalmdocboaaGreatDoorZTe
namespace Go.Proofs.YtopgbalmdocboaaGreatDoor.Zz
open Go.Abs
set_option maxRecDepth 100000
set_option linter.unusedVariables false
set_option linter.unusedSimpArgs false
set_option maxHeartbeats 4000000
variable {G : Nat → D}

-- pub-tallysheet/spec.Lower
theorem pf_Lower (b : UInt8) : PF Tryz.prog G 222 [u8d b] (u8d (lowB b)) := by
  refine PC.intro rfl Tryz.func222 rfl (Nat.le_of_ble_eq_true rfl) rfl ?_
  refine w_seq (w_reg (s_q rfl rfl (q_mv (.inr rfl) (is_sc rfl)) ?_))
  refine s_nil (n_n (w_seq (w_seq (w_reg (s_q rfl rfl (q_mv (.inl rfl) (is_sc rfl)) ?_)))))
  refine s_q rfl rfl (q_geq rfl rfl rfl) ?_
  refine s_q rfl rfl (q_mv (.inl rfl) (is_sc rfl)) ?_
  refine s_split 5 (is_scb rfl) (fun h5 => ?_) (fun h5 => ?_)
  · have a1 : 65 ≤ b.toNat := by have := of_decide_eq_true h5; omega
    refine s_q rfl rfl (q_mv (.inl rfl) (is_sc rfl)) ?_
    refine s_q rfl rfl (q_leq rfl rfl rfl) ?_
    refine s_q rfl rfl (q_pickT rfl rfl (is_sc rfl)) ?_
    refine s_nil (n_n (w_if (is_scb rfl) (fun h8 => ?_) (fun h8 => ?_)))
    · have a2 : b.toNat ≤ 90 := by have := of_decide_eq_true h8; omega
      refine w_seq (w_reg (s_q rfl rfl (q_mv (.inl rfl) (is_sc rfl)) ?_))
      refine s_q rfl rfl (q_as (u8_eq (lowB_add a1 a2)) (q_add rfl rfl rfl)) ?_
      refine s_q rfl rfl (q_mv (.inr rfl) (is_sc rfl)) ?_
      refine s_nil (n_n (w_ret (n_r ?_)))
      -- end 0
      refine r_r (ra_tmp (is_sc rfl) ra_nil) (by exact (is_sc rfl)) (by exact rfl) sub_no ?_
      rfl
    · have a2 : ¬ b.toNat ≤ 90 := by have := of_decide_eq_false h8; omega
      refine w_skip (n_n (w_seq (w_reg (s_q rfl rfl (q_mv (.inl rfl) (is_sc rfl)) ?_))))
      refine s_q rfl rfl (q_mv (.inr rfl) (is_sc rfl)) ?_
      refine s_nil (n_n (w_ret ?_))
      -- end 1
      refine r_r (ra_tmp (is_sc rfl) ra_nil) (by exact (is_sc rfl)) (by exact rfl) sub_no ?_
      rw [lowB_same (by omega)] <;> rfl
  · have a1 : ¬ 65 ≤ b.toNat := by have := of_decide_eq_false h5; omega
    refine s_off rfl rfl ?_
    refine s_off rfl rfl ?_
    refine s_q rfl rfl (q_pickF rfl rfl (is_sc rfl)) ?_
    refine s_nil (n_n (w_ifF rfl (w_skip (n_n (w_seq (w_reg (s_q rfl rfl (q_mv (.inl rfl) (is_sc rfl)) ?_)))))))
    refine s_q rfl rfl (q_mv (.inr rfl) (is_sc rfl)) ?_
    refine s_nil (n_n (w_ret ?_))
    -- end 2
    refine r_r (ra_tmp (is_sc rfl) ra_nil) (by exact (is_sc rfl)) (by exact rfl) sub_no ?_
    rw [lowB_same (by omega)] <;> rfl


-- pub-tallysheet/spec.lower
theorem pf_lower (s : List UInt8) (hl : s.length < 4000000000) : PF Tryz.prog G 199 [st s] (st (lowS s)) := by
  refine PC.intro rfl Tryz.func199 rfl (Nat.le_of_ble_eq_true rfl) rfl ?_
  refine w_seq (w_reg (s_q rfl rfl (q_mv (.inr rfl) (is_sc rfl)) ?_))
  refine s_nil (n_n (w_seq (w_reg (s_q rfl rfl (q_mv (.inl rfl) (is_sc rfl)) ?_))))
  refine s_s rfl rfl (as_bytes (id := 0) rfl rfl rfl) ?_
  refine s_q rfl rfl (q_mv (.inr rfl) (by first | exact is_im rfl | exact is_gs rfl | exact is_lit rfl | exact is_ms rfl | exact is_sc rfl | exact rfl)) ?_
  refine s_nil (n_n (w_seq (w_seq (w_reg (s_q rfl rfl (q_mv (.inr rfl) (is_sc rfl)) ?_)))))
  refine s_nil (n_n (w_block ?_))
  refine w_loop (fun env A => ∃ i : Nat, i ≤ s.length ∧ Binds env [(3, .ms 0 0 s.length), (4, i64 i)] ∧ A = ⟨[.cells (bc (lowS (s.take i) ++ s.drop i))], fun _ => false, 0, noHeap⟩) (fun env _ => s.length - ctr (env 4)) ?_ ?_
  · exact ⟨0, Nat.zero_le _, ⟨rfl, rfl, trivial⟩, rfl⟩
  · rintro env A ⟨i, hi, hB, rfl⟩
    rw [hB.eq]; clear hB
    refine w_seq (w_seq (w_reg (s_q rfl rfl (q_mv (.inl rfl) (is_sc rfl)) ?_)))
    refine s_q rfl rfl (q_mv (.inl rfl) (by first | exact is_im rfl | exact is_gs rfl | exact is_lit rfl | exact is_ms rfl | exact is_sc rfl | exact rfl)) ?_
    refine s_q rfl rfl (q_lenMs rfl rfl) ?_
    refine s_q rfl rfl (q_lss rfl rfl rfl) ?_
    refine s_nil (n_n (w_if (is_scb rfl) (fun h10 => ?_) (fun h10 => ?_)))
    · have hlt : i < s.length := by have := of_decide_eq_true h10; omega
      refine w_skip (n_n (w_seq (w_block (w_reg (s_q rfl rfl (q_mv (.inl rfl) (by first | exact is_im rfl | exact is_gs rfl | exact is_lit rfl | exact is_ms rfl | exact is_sc rfl | exact rfl)) ?_)))))
      refine s_q rfl rfl (q_mv (.inl rfl) (is_sc rfl)) ?_
      refine s_q rfl rfl (q_mv (.inl rfl) (by first | exact is_im rfl | exact is_gs rfl | exact is_lit rfl | exact is_ms rfl | exact is_sc rfl | exact rfl)) ?_
      refine s_q rfl rfl (q_mv (.inl rfl) (is_sc rfl)) ?_
      refine s_q rfl rfl (q_indexMs rfl rfl rfl (Int.natCast_nonneg _) (by omega)) ?_
      refine s_q rfl rfl (q_load rfl rfl (lowLoad rfl hlt)) ?_
      refine s_q rfl rfl (q_call rfl rfl rfl rfl (pf_Lower _)) ?_
      refine s_q rfl rfl (q_indexMs rfl rfl rfl (Int.natCast_nonneg _) (by omega)) ?_
      refine s_u rfl rfl (as_st rfl rfl (is_sc rfl) rfl (by exact rfl) (by exact rfl) (lowFit hlt) (lowSplice hlt)) ?_
      refine s_nil (b_n (n_n (w_reg (s_q rfl rfl (q_mv (.inl rfl) (is_sc rfl)) ?_))))
      refine s_q rfl rfl (q_add rfl rfl rfl) ?_
      refine s_q rfl rfl (q_mv (.inr rfl) (is_sc rfl)) ?_
      refine s_nil (n_n ?_)
      have hw : IntKind.i64.wrap ((i : Int) + 1) = ((i + 1 : Nat) : Int) := wrap_nat (by omega)
      refine ⟨⟨i + 1, hlt, ⟨rfl, i64_eq hw, trivial⟩, rfl⟩, ?_⟩
      show s.length - (IntKind.i64.wrap ((i : Int) + 1)).toNat < s.length - (i : Int).toNat
      rw [hw]; omega
    · have hge : s.length ≤ i := by have := of_decide_eq_false h10; omega
      obtain rfl : i = s.length := by omega
      rw [show lowS (s.take s.length) ++ s.drop s.length = lowS s by simp]
      refine w_exit (n_e (n_e (b_hit (n_n (w_seq (w_reg (s_q rfl rfl (q_mv (.inl rfl) (by first | exact is_im rfl | exact is_gs rfl | exact is_lit rfl | exact is_ms rfl | exact is_sc rfl | exact rfl)) ?_)))))))
      refine s_q rfl rfl (q_csbMs rfl rfl rfl (low_length s).symm) ?_
      refine s_q rfl rfl (q_mv (.inr rfl) (is_sc rfl)) ?_
      refine s_nil (n_n (w_ret ?_))
      -- end 0
      refine r_r (ra_tmp (is_sc rfl) ra_nil) (by exact (is_sc rfl)) (by exact rfl) sub_no ?_
      rfl


-- pub-tallysheet/spec.month
theorem pf_month (s : List UInt8) (hl : s.length < 4000000000) : PF Tryz.prog G 281 [st s] (bl (monthB s)) := by
  refine PC.intro rfl Tryz.func281 rfl (Nat.le_of_ble_eq_true rfl) rfl ?_
  refine w_seq (w_reg (s_q rfl rfl (q_mv (.inr rfl) (is_sc rfl)) ?_))
  refine s_nil (n_n (w_seq (w_seq (w_reg (s_q rfl rfl (q_mv (.inl rfl) (is_sc rfl)) ?_)))))
  refine s_q rfl rfl (q_lens rfl rfl) ?_
  refine s_q rfl rfl (q_lss rfl rfl rfl) ?_
  refine s_nil (n_n (w_if (is_scb rfl) (fun h5 => ?_) (fun h5 => ?_)))
  · refine w_seq (w_reg (s_q rfl rfl (q_mv (.inr rfl) (is_sc rfl)) ?_))
    refine s_nil (n_n (w_ret (n_r ?_)))
    -- end 0
    refine r_r (ra_tmp (is_sc rfl) ra_nil) (by exact (is_sc rfl)) (by exact rfl) sub_no ?_
    rw [show monthB s = false by unfold monthB; rw [decide_eq_false (by have := of_decide_eq_true h5; omega)]; rfl] <;> rfl
  · have h3 : 3 ≤ s.length := by have := of_decide_eq_false h5; omega
    refine w_skip (n_n (w_seq (w_seq (w_reg (s_q rfl rfl (q_mv (.inl rfl) (is_sc rfl)) ?_)))))
    refine s_q rfl rfl (q_cutS (a := 0) (b := 3) rfl rfl rfl ⟨_, _, rfl, by decide, rfl⟩ (by omega) h3) ?_
    refine s_nil (n_n (w_block (w_seq (w_seq (w_reg (s_q rfl rfl (q_eqs rfl rfl rfl) ?_))))))
    refine s_q rfl rfl (q_mv (.inr rfl) (is_sc rfl)) ?_
    refine s_nil (n_n (w_if (is_scb rfl) (fun m => ?_) (fun m => ?_)))
    · rw [m]
      refine w_skip (n_n (w_ifT rfl (w_seq (w_reg (s_q rfl rfl (q_mv (.inr rfl) (is_sc rfl)) ?_)))))
      refine s_nil (n_n (w_ret (b_r (n_r ?_))))
      -- end 1
      refine r_r (ra_tmp (is_sc rfl) ra_nil) (by exact (is_sc rfl)) (by exact rfl) sub_no ?_
      rw [show monthB s = true by unfold monthB; rw [decide_eq_true h3]; exact List.any_eq_true.2 ⟨_, (by decide : ([106, 97, 110] : List UInt8) ∈ monthWords), m⟩] <;> rfl
    · rw [m]
      have m' := of_decide_eq_false m; clear m
      refine w_seq (w_reg (s_q rfl rfl (q_eqs rfl rfl rfl) ?_))
      refine s_q rfl rfl (q_mv (.inr rfl) (is_sc rfl)) ?_
      refine s_nil (n_n (w_if (is_scb rfl) (fun m => ?_) (fun m => ?_)))
      · rw [m]
        refine w_skip (n_n (w_ifT rfl (w_seq (w_reg (s_q rfl rfl (q_mv (.inr rfl) (is_sc rfl)) ?_)))))
        refine s_nil (n_n (w_ret (b_r (n_r ?_))))
        -- end 2
        refine r_r (ra_tmp (is_sc rfl) ra_nil) (by exact (is_sc rfl)) (by exact rfl) sub_no ?_
        rw [show monthB s = true by unfold monthB; rw [decide_eq_true h3]; exact List.any_eq_true.2 ⟨_, (by decide : ([102, 101, 98] : List UInt8) ∈ monthWords), m⟩] <;> rfl
      · rw [m]
        have m' := of_decide_eq_false m; clear m
        refine w_seq (w_reg (s_q rfl rfl (q_eqs rfl rfl rfl) ?_))
        refine s_q rfl rfl (q_mv (.inr rfl) (is_sc rfl)) ?_
        refine s_nil (n_n (w_if (is_scb rfl) (fun m => ?_) (fun m => ?_)))
        · rw [m]
          refine w_skip (n_n (w_ifT rfl (w_seq (w_reg (s_q rfl rfl (q_mv (.inr rfl) (is_sc rfl)) ?_)))))
          refine s_nil (n_n (w_ret (b_r (n_r ?_))))
          -- end 3
          refine r_r (ra_tmp (is_sc rfl) ra_nil) (by exact (is_sc rfl)) (by exact rfl) sub_no ?_
          rw [show monthB s = true by unfold monthB; rw [decide_eq_true h3]; exact List.any_eq_true.2 ⟨_, (by decide : ([109, 97, 114] : List UInt8) ∈ monthWords), m⟩] <;> rfl
        · rw [m]
          have m' := of_decide_eq_false m; clear m
          refine w_seq (w_reg (s_q rfl rfl (q_eqs rfl rfl rfl) ?_))
          refine s_q rfl rfl (q_mv (.inr rfl) (is_sc rfl)) ?_
          refine s_nil (n_n (w_if (is_scb rfl) (fun m => ?_) (fun m => ?_)))
          · rw [m]
            refine w_skip (n_n (w_ifT rfl (w_seq (w_reg (s_q rfl rfl (q_mv (.inr rfl) (is_sc rfl)) ?_)))))
            refine s_nil (n_n (w_ret (b_r (n_r ?_))))
            -- end 4
            refine r_r (ra_tmp (is_sc rfl) ra_nil) (by exact (is_sc rfl)) (by exact rfl) sub_no ?_
            rw [show monthB s = true by unfold monthB; rw [decide_eq_true h3]; exact List.any_eq_true.2 ⟨_, (by decide : ([97, 112, 114] : List UInt8) ∈ monthWords), m⟩] <;> rfl
          · rw [m]
            have m' := of_decide_eq_false m; clear m
            refine w_seq (w_reg (s_q rfl rfl (q_eqs rfl rfl rfl) ?_))
            refine s_q rfl rfl (q_mv (.inr rfl) (is_sc rfl)) ?_
            refine s_nil (n_n (w_if (is_scb rfl) (fun m => ?_) (fun m => ?_)))
            · rw [m]
              refine w_skip (n_n (w_ifT rfl (w_seq (w_reg (s_q rfl rfl (q_mv (.inr rfl) (is_sc rfl)) ?_)))))
              refine s_nil (n_n (w_ret (b_r (n_r ?_))))
              -- end 5
              refine r_r (ra_tmp (is_sc rfl) ra_nil) (by exact (is_sc rfl)) (by exact rfl) sub_no ?_
              rw [show monthB s = true by unfold monthB; rw [decide_eq_true h3]; exact List.any_eq_true.2 ⟨_, (by decide : ([109, 97, 121] : List UInt8) ∈ monthWords), m⟩] <;> rfl
            · rw [m]
              have m' := of_decide_eq_false m; clear m
              refine w_seq (w_reg (s_q rfl rfl (q_eqs rfl rfl rfl) ?_))
              refine s_q rfl rfl (q_mv (.inr rfl) (is_sc rfl)) ?_
              refine s_nil (n_n (w_if (is_scb rfl) (fun m => ?_) (fun m => ?_)))
              · rw [m]
                refine w_skip (n_n (w_ifT rfl (w_seq (w_reg (s_q rfl rfl (q_mv (.inr rfl) (is_sc rfl)) ?_)))))
                refine s_nil (n_n (w_ret (b_r (n_r ?_))))
                -- end 6
                refine r_r (ra_tmp (is_sc rfl) ra_nil) (by exact (is_sc rfl)) (by exact rfl) sub_no ?_
                rw [show monthB s = true by unfold monthB; rw [decide_eq_true h3]; exact List.any_eq_true.2 ⟨_, (by decide : ([106, 117, 110] : List UInt8) ∈ monthWords), m⟩] <;> rfl
              · rw [m]
                have m' := of_decide_eq_false m; clear m
                refine w_seq (w_reg (s_q rfl rfl (q_eqs rfl rfl rfl) ?_))
                refine s_q rfl rfl (q_mv (.inr rfl) (is_sc rfl)) ?_
                refine s_nil (n_n (w_if (is_scb rfl) (fun m => ?_) (fun m => ?_)))
                · rw [m]
                  refine w_skip (n_n (w_ifT rfl (w_seq (w_reg (s_q rfl rfl (q_mv (.inr rfl) (is_sc rfl)) ?_)))))
                  refine s_nil (n_n (w_ret (b_r (n_r ?_))))
                  -- end 7
                  refine r_r (ra_tmp (is_sc rfl) ra_nil) (by exact (is_sc rfl)) (by exact rfl) sub_no ?_
                  rw [show monthB s = true by unfold monthB; rw [decide_eq_true h3]; exact List.any_eq_true.2 ⟨_, (by decide : ([106, 117, 108] : List UInt8) ∈ monthWords), m⟩] <;> rfl
                · rw [m]
                  have m' := of_decide_eq_false m; clear m
                  refine w_seq (w_reg (s_q rfl rfl (q_eqs rfl rfl rfl) ?_))
                  refine s_q rfl rfl (q_mv (.inr rfl) (is_sc rfl)) ?_
                  refine s_nil (n_n (w_if (is_scb rfl) (fun m => ?_) (fun m => ?_)))
                  · rw [m]
                    refine w_skip (n_n (w_ifT rfl (w_seq (w_reg (s_q rfl rfl (q_mv (.inr rfl) (is_sc rfl)) ?_)))))
                    refine s_nil (n_n (w_ret (b_r (n_r ?_))))
                    -- end 8
                    refine r_r (ra_tmp (is_sc rfl) ra_nil) (by exact (is_sc rfl)) (by exact rfl) sub_no ?_
                    rw [show monthB s = true by unfold monthB; rw [decide_eq_true h3]; exact List.any_eq_true.2 ⟨_, (by decide : ([97, 117, 103] : List UInt8) ∈ monthWords), m⟩] <;> rfl
                  · rw [m]
                    have m' := of_decide_eq_false m; clear m
                    refine w_seq (w_reg (s_q rfl rfl (q_eqs rfl rfl rfl) ?_))
                    refine s_q rfl rfl (q_mv (.inr rfl) (is_sc rfl)) ?_
                    refine s_nil (n_n (w_if (is_scb rfl) (fun m => ?_) (fun m => ?_)))
                    · rw [m]
                      refine w_skip (n_n (w_ifT rfl (w_seq (w_reg (s_q rfl rfl (q_mv (.inr rfl) (is_sc rfl)) ?_)))))
                      refine s_nil (n_n (w_ret (b_r (n_r ?_))))
                      -- end 9
                      refine r_r (ra_tmp (is_sc rfl) ra_nil) (by exact (is_sc rfl)) (by exact rfl) sub_no ?_
                      rw [show monthB s = true by unfold monthB; rw [decide_eq_true h3]; exact List.any_eq_true.2 ⟨_, (by decide : ([115, 101, 112] : List UInt8) ∈ monthWords), m⟩] <;> rfl
                    · rw [m]
                      have m' := of_decide_eq_false m; clear m
                      refine w_seq (w_reg (s_q rfl rfl (q_eqs rfl rfl rfl) ?_))
                      refine s_q rfl rfl (q_mv (.inr rfl) (is_sc rfl)) ?_
                      refine s_nil (n_n (w_if (is_scb rfl) (fun m => ?_) (fun m => ?_)))
                      · rw [m]
                        refine w_skip (n_n (w_ifT rfl (w_seq (w_reg (s_q rfl rfl (q_mv (.inr rfl) (is_sc rfl)) ?_)))))
                        refine s_nil (n_n (w_ret (b_r (n_r ?_))))
                        -- end 10
                        refine r_r (ra_tmp (is_sc rfl) ra_nil) (by exact (is_sc rfl)) (by exact rfl) sub_no ?_
                        rw [show monthB s = true by unfold monthB; rw [decide_eq_true h3]; exact List.any_eq_true.2 ⟨_, (by decide : ([111, 99, 116] : List UInt8) ∈ monthWords), m⟩] <;> rfl
                      · rw [m]
                        have m' := of_decide_eq_false m; clear m
                        refine w_seq (w_reg (s_q rfl rfl (q_eqs rfl rfl rfl) ?_))
                        refine s_q rfl rfl (q_mv (.inr rfl) (is_sc rfl)) ?_
                        refine s_nil (n_n (w_if (is_scb rfl) (fun m => ?_) (fun m => ?_)))
                        · rw [m]
                          refine w_skip (n_n (w_ifT rfl (w_seq (w_reg (s_q rfl rfl (q_mv (.inr rfl) (is_sc rfl)) ?_)))))
                          refine s_nil (n_n (w_ret (b_r (n_r ?_))))
                          -- end 11
                          refine r_r (ra_tmp (is_sc rfl) ra_nil) (by exact (is_sc rfl)) (by exact rfl) sub_no ?_
                          rw [show monthB s = true by unfold monthB; rw [decide_eq_true h3]; exact List.any_eq_true.2 ⟨_, (by decide : ([110, 111, 118] : List UInt8) ∈ monthWords), m⟩] <;> rfl
                        · rw [m]
                          have m' := of_decide_eq_false m; clear m
                          refine w_seq (w_reg (s_q rfl rfl (q_eqs rfl rfl rfl) ?_))
                          refine s_q rfl rfl (q_mv (.inr rfl) (is_sc rfl)) ?_
                          refine s_nil (n_n (w_if (is_scb rfl) (fun m => ?_) (fun m => ?_)))
                          · rw [m]
                            refine w_skip (n_n (w_ifT rfl (w_seq (w_reg (s_q rfl rfl (q_mv (.inr rfl) (is_sc rfl)) ?_)))))
                            refine s_nil (n_n (w_ret (b_r (n_r ?_))))
                            -- end 12
                            refine r_r (ra_tmp (is_sc rfl) ra_nil) (by exact (is_sc rfl)) (by exact rfl) sub_no ?_
                            rw [show monthB s = true by unfold monthB; rw [decide_eq_true h3]; exact List.any_eq_true.2 ⟨_, (by decide : ([100, 101, 99] : List UInt8) ∈ monthWords), m⟩] <;> rfl
                          · rw [m]
                            have m' := of_decide_eq_false m; clear m
                            refine w_seq (w_reg (s_q rfl rfl (q_eqs rfl rfl rfl) ?_))
                            refine s_q rfl rfl (q_mv (.inr rfl) (is_sc rfl)) ?_
                            refine s_nil (n_n (w_if (is_scb rfl) (fun m => ?_) (fun m => ?_)))
                            · rw [m]
                              refine w_skip (n_n (w_ifT rfl (w_seq (w_reg (s_q rfl rfl (q_mv (.inr rfl) (is_sc rfl)) ?_)))))
                              refine s_nil (n_n (w_ret (b_r (n_r ?_))))
                              -- end 13
                              refine r_r (ra_tmp (is_sc rfl) ra_nil) (by exact (is_sc rfl)) (by exact rfl) sub_no ?_
                              rw [show monthB s = true by unfold monthB; rw [decide_eq_true h3]; exact List.any_eq_true.2 ⟨_, (by decide : ([109, 111, 110] : List UInt8) ∈ monthWords), m⟩] <;> rfl
                            · rw [m]
                              have m' := of_decide_eq_false m; clear m
                              refine w_seq (w_reg (s_q rfl rfl (q_eqs rfl rfl rfl) ?_))
                              refine s_q rfl rfl (q_mv (.inr rfl) (is_sc rfl)) ?_
                              refine s_nil (n_n (w_if (is_scb rfl) (fun m => ?_) (fun m => ?_)))
                              · rw [m]
                                refine w_skip (n_n (w_ifT rfl (w_seq (w_reg (s_q rfl rfl (q_mv (.inr rfl) (is_sc rfl)) ?_)))))
                                refine s_nil (n_n (w_ret (b_r (n_r ?_))))
                                -- end 14
                                refine r_r (ra_tmp (is_sc rfl) ra_nil) (by exact (is_sc rfl)) (by exact rfl) sub_no ?_
                                rw [show monthB s = true by unfold monthB; rw [decide_eq_true h3]; exact List.any_eq_true.2 ⟨_, (by decide : ([116, 117, 101] : List UInt8) ∈ monthWords), m⟩] <;> rfl
                              · rw [m]
                                have m' := of_decide_eq_false m; clear m
                                refine w_seq (w_reg (s_q rfl rfl (q_eqs rfl rfl rfl) ?_))
                                refine s_q rfl rfl (q_mv (.inr rfl) (is_sc rfl)) ?_
                                refine s_nil (n_n (w_if (is_scb rfl) (fun m => ?_) (fun m => ?_)))
                                · rw [m]
                                  refine w_skip (n_n (w_ifT rfl (w_seq (w_reg (s_q rfl rfl (q_mv (.inr rfl) (is_sc rfl)) ?_)))))
                                  refine s_nil (n_n (w_ret (b_r (n_r ?_))))
                                  -- end 15
                                  refine r_r (ra_tmp (is_sc rfl) ra_nil) (by exact (is_sc rfl)) (by exact rfl) sub_no ?_
                                  rw [show monthB s = true by unfold monthB; rw [decide_eq_true h3]; exact List.any_eq_true.2 ⟨_, (by decide : ([119, 101, 100] : List UInt8) ∈ monthWords), m⟩] <;> rfl
                                · rw [m]
                                  have m' := of_decide_eq_false m; clear m
                                  refine w_seq (w_reg (s_q rfl rfl (q_eqs rfl rfl rfl) ?_))
                                  refine s_q rfl rfl (q_mv (.inr rfl) (is_sc rfl)) ?_
                                  refine s_nil (n_n (w_if (is_scb rfl) (fun m => ?_) (fun m => ?_)))
                                  · rw [m]
                                    refine w_skip (n_n (w_ifT rfl (w_seq (w_reg (s_q rfl rfl (q_mv (.inr rfl) (is_sc rfl)) ?_)))))
                                    refine s_nil (n_n (w_ret (b_r (n_r ?_))))
                                    -- end 16
                                    refine r_r (ra_tmp (is_sc rfl) ra_nil) (by exact (is_sc rfl)) (by exact rfl) sub_no ?_
                                    rw [show monthB s = true by unfold monthB; rw [decide_eq_true h3]; exact List.any_eq_true.2 ⟨_, (by decide : ([116, 104, 117] : List UInt8) ∈ monthWords), m⟩] <;> rfl
                                  · rw [m]
                                    have m' := of_decide_eq_false m; clear m
                                    refine w_seq (w_reg (s_q rfl rfl (q_eqs rfl rfl rfl) ?_))
                                    refine s_q rfl rfl (q_mv (.inr rfl) (is_sc rfl)) ?_
                                    refine s_nil (n_n (w_if (is_scb rfl) (fun m => ?_) (fun m => ?_)))
                                    · rw [m]
                                      refine w_skip (n_n (w_ifT rfl (w_seq (w_reg (s_q rfl rfl (q_mv (.inr rfl) (is_sc rfl)) ?_)))))
                                      refine s_nil (n_n (w_ret (b_r (n_r ?_))))
                                      -- end 17
                                      refine r_r (ra_tmp (is_sc rfl) ra_nil) (by exact (is_sc rfl)) (by exact rfl) sub_no ?_
                                      rw [show monthB s = true by unfold monthB; rw [decide_eq_true h3]; exact List.any_eq_true.2 ⟨_, (by decide : ([102, 114, 105] : List UInt8) ∈ monthWords), m⟩] <;> rfl
                                    · rw [m]
                                      have m' := of_decide_eq_false m; clear m
                                      refine w_seq (w_reg (s_q rfl rfl (q_eqs rfl rfl rfl) ?_))
                                      refine s_q rfl rfl (q_mv (.inr rfl) (is_sc rfl)) ?_
                                      refine s_nil (n_n (w_if (is_scb rfl) (fun m => ?_) (fun m => ?_)))
                                      · rw [m]
                                        refine w_skip (n_n (w_ifT rfl (w_seq (w_reg (s_q rfl rfl (q_mv (.inr rfl) (is_sc rfl)) ?_)))))
                                        refine s_nil (n_n (w_ret (b_r (n_r ?_))))
                                        -- end 18
                                        refine r_r (ra_tmp (is_sc rfl) ra_nil) (by exact (is_sc rfl)) (by exact rfl) sub_no ?_
                                        rw [show monthB s = true by unfold monthB; rw [decide_eq_true h3]; exact List.any_eq_true.2 ⟨_, (by decide : ([115, 97, 116] : List UInt8) ∈ monthWords), m⟩] <;> rfl
                                      · rw [m]
                                        have m' := of_decide_eq_false m; clear m
                                        refine w_reg (s_q rfl rfl (q_eqs rfl rfl rfl) ?_)
                                        refine s_q rfl rfl (q_mv (.inr rfl) (is_sc rfl)) ?_
                                        refine s_nil (n_n (w_if (is_scb rfl) (fun m => ?_) (fun m => ?_)))
                                        · rw [m]
                                          refine w_seq (w_reg (s_q rfl rfl (q_mv (.inr rfl) (is_sc rfl)) ?_))
                                          refine s_nil (n_n (w_ret (b_r (n_r ?_))))
                                          -- end 19
                                          refine r_r (ra_tmp (is_sc rfl) ra_nil) (by exact (is_sc rfl)) (by exact rfl) sub_no ?_
                                          rw [show monthB s = true by unfold monthB; rw [decide_eq_true h3]; exact List.any_eq_true.2 ⟨_, (by decide : ([115, 117, 110] : List UInt8) ∈ monthWords), m⟩] <;> rfl
                                        · rw [m]
                                          have m' := of_decide_eq_false m; clear m
                                          refine w_skip (b_n (n_n (w_seq (w_reg (s_q rfl rfl (q_mv (.inr rfl) (is_sc rfl)) ?_)))))
                                          refine s_nil (n_n (w_ret ?_))
                                          -- end 20
                                          refine r_r (ra_tmp (is_sc rfl) ra_nil) (by exact (is_sc rfl)) (by exact rfl) sub_no ?_
                                          rw [show monthB s = false by unfold monthB monthWords; rw [decide_eq_true h3]; simp only [List.any_cons, List.any_nil]; simp_all [List.drop]] <;> rfl


-- pub-tallysheet/spec.other
theorem pf_other (s : List UInt8) (hl : s.length < 4000000000) : PF Tryz.prog G 254 [st s] (otherV s).d := by
  refine PC.intro rfl Tryz.func254 rfl (Nat.le_of_ble_eq_true rfl) rfl ?_
  refine w_seq (w_reg (s_s rfl rfl (as_alloc0 (id := 0) rfl rfl (by exact (rfl : _ = [_, _, _, _, _]))) ?_))
  refine s_nil (n_n (w_seq (w_seq (w_reg (s_q rfl rfl (q_mv (.inr rfl) (is_sc rfl)) ?_)))))
  refine s_nil (n_n (w_block ?_))
  refine w_loop (fun env A => ∃ i : Nat, i ≤ s.length ∧ (∀ b ∈ s.take i, letterB b = true) ∧ Binds env [(0, st s), (2, .box 0 0), (3, i64 i)] ∧ A = (AH.start noHeap).push (.cells [.sc (.int .i64 0), .sc (.int .i64 0), .sc (.int .i64 0), .sc (.string ⟨⟨[]⟩⟩), .sc (.slice none 0 0)])) (fun env _ => s.length - ctr (env 3)) ?_ ?_
  · exact ⟨0, Nat.zero_le _, by simp, ⟨rfl, rfl, rfl, trivial⟩, rfl⟩
  · rintro env A ⟨i, hi, hp, hB, rfl⟩
    rw [hB.eq]; clear hB
    refine w_seq (w_seq (w_reg (s_q rfl rfl (q_mv (.inl rfl) (is_sc rfl)) ?_)))
    refine s_q rfl rfl (q_mv (.inl rfl) (is_sc rfl)) ?_
    refine s_q rfl rfl (q_lens rfl rfl) ?_
    refine s_q rfl rfl (q_lss rfl rfl rfl) ?_
    refine s_nil (n_n (w_if (is_scb rfl) (fun h8 => ?_) (fun h8 => ?_)))
    · have hlt : i < s.length := by have := of_decide_eq_true h8; omega
      have hby : s.getD (i : Int).toNat 0 = s[i] := byte_at hlt
      refine w_skip (n_n (w_seq (w_block (w_seq (w_reg (s_q rfl rfl (q_mv (.inl rfl) (is_sc rfl)) ?_))))))
      refine s_q rfl rfl (q_mv (.inl rfl) (is_sc rfl)) ?_
      refine s_q rfl rfl (q_as (u8_eq (by rw [hby])) (q_byte rfl rfl rfl (Int.natCast_nonneg _) (by omega))) ?_
      refine s_q rfl rfl (q_call rfl rfl rfl rfl (pf_Lower _)) ?_
      refine s_q rfl rfl (q_mv (.inr rfl) (is_sc rfl)) ?_
      refine s_nil (n_n (w_seq (w_reg (s_q rfl rfl (q_mv (.inl rfl) (is_sc rfl)) ?_))))
      refine s_q rfl rfl (q_lss rfl rfl rfl) ?_
      refine s_q rfl rfl (q_mv (.inl rfl) (is_sc rfl)) ?_
      refine s_split 17 (is_scb rfl) (fun h17 => ?_) (fun h17 => ?_)
      · have a1 : ¬ 97 ≤ (lowB s[i]).toNat := by have := of_decide_eq_true h17; omega
        refine s_off rfl rfl ?_
        refine s_off rfl rfl ?_
        refine s_q rfl rfl (q_pickT rfl rfl (is_sc rfl)) ?_
        refine s_nil (n_n (w_ifT rfl (w_seq (w_reg (s_q rfl rfl (q_call rfl rfl rfl rfl pf_doubt) ?_)))))
        refine s_u rfl rfl (as_st rfl rfl (by first | exact (rfl : _ = D.agg [_, _, _, _, _]) | exact rfl) rfl (by exact rfl) (by exact rfl) (by exact Nat.le_of_ble_eq_true rfl) (by exact (rfl : _ = [_, _, _, _, _]))) ?_
        refine s_nil (n_n (w_ret (b_r (n_r (n_r (b_r (n_r ?_)))))))
        -- end 0
        refine r_r (ra_cell (by exact (rfl : _ = some (D.agg [_, _, _, _, _]))) ra_nil) (by first | exact (rfl : _ = D.agg [_, _, _, _, _]) | exact rfl) (by exact rfl) sub_no ?_
        rw [other_no (letters_bad hlt (by unfold letterB; rw [decide_eq_false a1]; rfl))] <;> rfl
      · have a1 : 97 ≤ (lowB s[i]).toNat := by have := of_decide_eq_false h17; omega
        refine s_q rfl rfl (q_mv (.inl rfl) (is_sc rfl)) ?_
        refine s_q rfl rfl (q_gtr rfl rfl rfl) ?_
        refine s_q rfl rfl (q_pickF rfl rfl (is_sc rfl)) ?_
        refine s_nil (n_n (w_if (is_scb rfl) (fun h20 => ?_) (fun h20 => ?_)))
        · have a2 : ¬ (lowB s[i]).toNat ≤ 122 := by have := of_decide_eq_true h20; omega
          refine w_seq (w_reg (s_q rfl rfl (q_call rfl rfl rfl rfl pf_doubt) ?_))
          refine s_u rfl rfl (as_st rfl rfl (by first | exact (rfl : _ = D.agg [_, _, _, _, _]) | exact rfl) rfl (by exact rfl) (by exact rfl) (by exact Nat.le_of_ble_eq_true rfl) (by exact (rfl : _ = [_, _, _, _, _]))) ?_
          refine s_nil (n_n (w_ret (b_r (n_r (n_r (b_r (n_r ?_)))))))
          -- end 1
          refine r_r (ra_cell (by exact (rfl : _ = some (D.agg [_, _, _, _, _]))) ra_nil) (by first | exact (rfl : _ = D.agg [_, _, _, _, _]) | exact rfl) (by exact rfl) sub_no ?_
          rw [other_no (letters_bad hlt (by unfold letterB; rw [decide_eq_false a2]; simp))] <;> rfl
        · have a2 : (lowB s[i]).toNat ≤ 122 := by have := of_decide_eq_false h20; omega
          have hgood : letterB s[i] = true := by unfold letterB; rw [decide_eq_true a1, decide_eq_true a2]; rfl
          refine w_skip (b_n (n_n (w_reg (s_q rfl rfl (q_mv (.inl rfl) (is_sc rfl)) ?_))))
          refine s_q rfl rfl (q_add rfl rfl rfl) ?_
          refine s_q rfl rfl (q_mv (.inr rfl) (is_sc rfl)) ?_
          refine s_nil (n_n ?_)
          have hw : IntKind.i64.wrap ((i : Int) + 1) = ((i + 1 : Nat) : Int) := wrap_nat (by omega)
          refine ⟨⟨i + 1, hlt, ?_, ⟨rfl, rfl, i64_eq hw, trivial⟩, rfl⟩, ?_⟩
          · rw [List.take_succ_eq_append_getElem hlt]
            intro b hb
            rcases List.mem_append.1 hb with hb | hb
            · exact hp b hb
            · simp at hb; subst hb; exact hgood
          · show s.length - (IntKind.i64.wrap ((i : Int) + 1)).toNat < s.length - (i : Int).toNat
            rw [hw]; omega
    · have hge : s.length ≤ i := by have := of_decide_eq_false h8; omega
      have hall : s.all letterB = true := List.all_eq_true.2 fun b hb => hp b (by rw [List.take_of_length_le hge]; exact hb)
      refine w_exit (n_e (n_e (b_hit (n_n (w_seq (w_seq (w_reg (s_q rfl rfl (q_mv (.inl rfl) (is_sc rfl)) ?_))))))))
      refine s_q rfl rfl (q_call rfl rfl rfl rfl (pf_lower _ hl)) ?_
      refine s_nil (n_n (w_block (w_seq (w_seq (w_reg (s_q rfl rfl (q_eqs rfl rfl rfl) ?_))))))
      refine s_q rfl rfl (q_mv (.inr rfl) (is_sc rfl)) ?_
      refine s_nil (n_n (w_if (is_scb rfl) (fun m => ?_) (fun m => ?_)))
      · rw [m]
        refine w_skip (n_n (w_ifT rfl (w_seq (w_reg (s_q rfl rfl (q_call rfl rfl rfl rfl pf_doubt) ?_)))))
        refine s_u rfl rfl (as_st rfl rfl (by first | exact (rfl : _ = D.agg [_, _, _, _, _]) | exact rfl) rfl (by exact rfl) (by exact rfl) (by exact Nat.le_of_ble_eq_true rfl) (by exact (rfl : _ = [_, _, _, _, _]))) ?_
        refine s_nil (n_n (w_ret (b_r (n_r ?_))))
        -- end 2
        refine r_r (ra_cell (by exact (rfl : _ = some (D.agg [_, _, _, _, _]))) ra_nil) (by first | exact (rfl : _ = D.agg [_, _, _, _, _]) | exact rfl) (by exact rfl) sub_no ?_
        rw [other_no (letters_word (by decide : ([] : List UInt8) ∈ otherWords) (of_decide_eq_true m))] <;> rfl
      · rw [m]
        have m' := of_decide_eq_false m; clear m
        refine w_seq (w_reg (s_q rfl rfl (q_eqs rfl rfl rfl) ?_))
        refine s_q rfl rfl (q_mv (.inr rfl) (is_sc rfl)) ?_
        refine s_nil (n_n (w_if (is_scb rfl) (fun m => ?_) (fun m => ?_)))
        · rw [m]
          refine w_skip (n_n (w_ifT rfl (w_seq (w_reg (s_q rfl rfl (q_call rfl rfl rfl rfl pf_doubt) ?_)))))
          refine s_u rfl rfl (as_st rfl rfl (by first | exact (rfl : _ = D.agg [_, _, _, _, _]) | exact rfl) rfl (by exact rfl) (by exact rfl) (by exact Nat.le_of_ble_eq_true rfl) (by exact (rfl : _ = [_, _, _, _, _]))) ?_
          refine s_nil (n_n (w_ret (b_r (n_r ?_))))
          -- end 3
          refine r_r (ra_cell (by exact (rfl : _ = some (D.agg [_, _, _, _, _]))) ra_nil) (by first | exact (rfl : _ = D.agg [_, _, _, _, _]) | exact rfl) (by exact rfl) sub_no ?_
          rw [other_no (letters_word (by decide : ([101] : List UInt8) ∈ otherWords) (of_decide_eq_true m))] <;> rfl
        · rw [m]
          have m' := of_decide_eq_false m; clear m
          refine w_seq (w_reg (s_q rfl rfl (q_eqs rfl rfl rfl) ?_))
          refine s_q rfl rfl (q_mv (.inr rfl) (is_sc rfl)) ?_
          refine s_nil (n_n (w_if (is_scb rfl) (fun m => ?_) (fun m => ?_)))
          · rw [m]
            refine w_skip (n_n (w_ifT rfl (w_seq (w_reg (s_q rfl rfl (q_call rfl rfl rfl rfl pf_doubt) ?_)))))
            refine s_u rfl rfl (as_st rfl rfl (by first | exact (rfl : _ = D.agg [_, _, _, _, _]) | exact rfl) rfl (by exact rfl) (by exact rfl) (by exact Nat.le_of_ble_eq_true rfl) (by exact (rfl : _ = [_, _, _, _, _]))) ?_
            refine s_nil (n_n (w_ret (b_r (n_r ?_))))
            -- end 4
            refine r_r (ra_cell (by exact (rfl : _ = some (D.agg [_, _, _, _, _]))) ra_nil) (by first | exact (rfl : _ = D.agg [_, _, _, _, _]) | exact rfl) (by exact rfl) sub_no ?_
            rw [other_no (letters_word (by decide : ([110, 97, 110] : List UInt8) ∈ otherWords) (of_decide_eq_true m))] <;> rfl
          · rw [m]
            have m' := of_decide_eq_false m; clear m
            refine w_seq (w_reg (s_q rfl rfl (q_eqs rfl rfl rfl) ?_))
            refine s_q rfl rfl (q_mv (.inr rfl) (is_sc rfl)) ?_
            refine s_nil (n_n (w_if (is_scb rfl) (fun m => ?_) (fun m => ?_)))
            · rw [m]
              refine w_skip (n_n (w_ifT rfl (w_seq (w_reg (s_q rfl rfl (q_call rfl rfl rfl rfl pf_doubt) ?_)))))
              refine s_u rfl rfl (as_st rfl rfl (by first | exact (rfl : _ = D.agg [_, _, _, _, _]) | exact rfl) rfl (by exact rfl) (by exact rfl) (by exact Nat.le_of_ble_eq_true rfl) (by exact (rfl : _ = [_, _, _, _, _]))) ?_
              refine s_nil (n_n (w_ret (b_r (n_r ?_))))
              -- end 5
              refine r_r (ra_cell (by exact (rfl : _ = some (D.agg [_, _, _, _, _]))) ra_nil) (by first | exact (rfl : _ = D.agg [_, _, _, _, _]) | exact rfl) (by exact rfl) sub_no ?_
              rw [other_no (letters_word (by decide : ([105, 110, 102] : List UInt8) ∈ otherWords) (of_decide_eq_true m))] <;> rfl
            · rw [m]
              have m' := of_decide_eq_false m; clear m
              refine w_seq (w_reg (s_q rfl rfl (q_eqs rfl rfl rfl) ?_))
              refine s_q rfl rfl (q_mv (.inr rfl) (is_sc rfl)) ?_
              refine s_nil (n_n (w_if (is_scb rfl) (fun m => ?_) (fun m => ?_)))
              · rw [m]
                refine w_skip (n_n (w_ifT rfl (w_seq (w_reg (s_q rfl rfl (q_call rfl rfl rfl rfl pf_doubt) ?_)))))
                refine s_u rfl rfl (as_st rfl rfl (by first | exact (rfl : _ = D.agg [_, _, _, _, _]) | exact rfl) rfl (by exact rfl) (by exact rfl) (by exact Nat.le_of_ble_eq_true rfl) (by exact (rfl : _ = [_, _, _, _, _]))) ?_
                refine s_nil (n_n (w_ret (b_r (n_r ?_))))
                -- end 6
                refine r_r (ra_cell (by exact (rfl : _ = some (D.agg [_, _, _, _, _]))) ra_nil) (by first | exact (rfl : _ = D.agg [_, _, _, _, _]) | exact rfl) (by exact rfl) sub_no ?_
                rw [other_no (letters_word (by decide : ([105, 110, 102, 105, 110, 105, 116, 121] : List UInt8) ∈ otherWords) (of_decide_eq_true m))] <;> rfl
              · rw [m]
                have m' := of_decide_eq_false m; clear m
                refine w_seq (w_reg (s_q rfl rfl (q_eqs rfl rfl rfl) ?_))
                refine s_q rfl rfl (q_mv (.inr rfl) (is_sc rfl)) ?_
                refine s_nil (n_n (w_if (is_scb rfl) (fun m => ?_) (fun m => ?_)))
                · rw [m]
                  refine w_skip (n_n (w_ifT rfl (w_seq (w_reg (s_q rfl rfl (q_call rfl rfl rfl rfl pf_doubt) ?_)))))
                  refine s_u rfl rfl (as_st rfl rfl (by first | exact (rfl : _ = D.agg [_, _, _, _, _]) | exact rfl) rfl (by exact rfl) (by exact rfl) (by exact Nat.le_of_ble_eq_true rfl) (by exact (rfl : _ = [_, _, _, _, _]))) ?_
                  refine s_nil (n_n (w_ret (b_r (n_r ?_))))
                  -- end 7
                  refine r_r (ra_cell (by exact (rfl : _ = some (D.agg [_, _, _, _, _]))) ra_nil) (by first | exact (rfl : _ = D.agg [_, _, _, _, _]) | exact rfl) (by exact rfl) sub_no ?_
                  rw [other_no (letters_word (by decide : ([116, 114, 117, 101] : List UInt8) ∈ otherWords) (of_decide_eq_true m))] <;> rfl
                · rw [m]
                  have m' := of_decide_eq_false m; clear m
                  refine w_seq (w_reg (s_q rfl rfl (q_eqs rfl rfl rfl) ?_))
                  refine s_q rfl rfl (q_mv (.inr rfl) (is_sc rfl)) ?_
                  refine s_nil (n_n (w_if (is_scb rfl) (fun m => ?_) (fun m => ?_)))
                  · rw [m]
                    refine w_skip (n_n (w_ifT rfl (w_seq (w_reg (s_q rfl rfl (q_call rfl rfl rfl rfl pf_doubt) ?_)))))
                    refine s_u rfl rfl (as_st rfl rfl (by first | exact (rfl : _ = D.agg [_, _, _, _, _]) | exact rfl) rfl (by exact rfl) (by exact rfl) (by exact Nat.le_of_ble_eq_true rfl) (by exact (rfl : _ = [_, _, _, _, _]))) ?_
                    refine s_nil (n_n (w_ret (b_r (n_r ?_))))
                    -- end 8
                    refine r_r (ra_cell (by exact (rfl : _ = some (D.agg [_, _, _, _, _]))) ra_nil) (by first | exact (rfl : _ = D.agg [_, _, _, _, _]) | exact rfl) (by exact rfl) sub_no ?_
                    rw [other_no (letters_word (by decide : ([102, 97, 108, 115, 101] : List UInt8) ∈ otherWords) (of_decide_eq_true m))] <;> rfl
                  · rw [m]
                    have m' := of_decide_eq_false m; clear m
                    refine w_seq (w_reg (s_q rfl rfl (q_eqs rfl rfl rfl) ?_))
                    refine s_q rfl rfl (q_mv (.inr rfl) (is_sc rfl)) ?_
                    refine s_nil (n_n (w_if (is_scb rfl) (fun m => ?_) (fun m => ?_)))
                    · rw [m]
                      refine w_skip (n_n (w_ifT rfl (w_seq (w_reg (s_q rfl rfl (q_call rfl rfl rfl rfl pf_doubt) ?_)))))
                      refine s_u rfl rfl (as_st rfl rfl (by first | exact (rfl : _ = D.agg [_, _, _, _, _]) | exact rfl) rfl (by exact rfl) (by exact rfl) (by exact Nat.le_of_ble_eq_true rfl) (by exact (rfl : _ = [_, _, _, _, _]))) ?_
                      refine s_nil (n_n (w_ret (b_r (n_r ?_))))
                      -- end 9
                      refine r_r (ra_cell (by exact (rfl : _ = some (D.agg [_, _, _, _, _]))) ra_nil) (by first | exact (rfl : _ = D.agg [_, _, _, _, _]) | exact rfl) (by exact rfl) sub_no ?_
                      rw [other_no (letters_word (by decide : ([97, 109] : List UInt8) ∈ otherWords) (of_decide_eq_true m))] <;> rfl
                    · rw [m]
                      have m' := of_decide_eq_false m; clear m
                      refine w_seq (w_reg (s_q rfl rfl (q_eqs rfl rfl rfl) ?_))
                      refine s_q rfl rfl (q_mv (.inr rfl) (is_sc rfl)) ?_
                      refine s_nil (n_n (w_if (is_scb rfl) (fun m => ?_) (fun m => ?_)))
                      · rw [m]
                        refine w_skip (n_n (w_ifT rfl (w_seq (w_reg (s_q rfl rfl (q_call rfl rfl rfl rfl pf_doubt) ?_)))))
                        refine s_u rfl rfl (as_st rfl rfl (by first | exact (rfl : _ = D.agg [_, _, _, _, _]) | exact rfl) rfl (by exact rfl) (by exact rfl) (by exact Nat.le_of_ble_eq_true rfl) (by exact (rfl : _ = [_, _, _, _, _]))) ?_
                        refine s_nil (n_n (w_ret (b_r (n_r ?_))))
                        -- end 10
                        refine r_r (ra_cell (by exact (rfl : _ = some (D.agg [_, _, _, _, _]))) ra_nil) (by first | exact (rfl : _ = D.agg [_, _, _, _, _]) | exact rfl) (by exact rfl) sub_no ?_
                        rw [other_no (letters_word (by decide : ([112, 109] : List UInt8) ∈ otherWords) (of_decide_eq_true m))] <;> rfl
                      · rw [m]
                        have m' := of_decide_eq_false m; clear m
                        refine w_seq (w_reg (s_q rfl rfl (q_eqs rfl rfl rfl) ?_))
                        refine s_q rfl rfl (q_mv (.inr rfl) (is_sc rfl)) ?_
                        refine s_nil (n_n (w_if (is_scb rfl) (fun m => ?_) (fun m => ?_)))
                        · rw [m]
                          refine w_skip (n_n (w_ifT rfl (w_seq (w_reg (s_q rfl rfl (q_call rfl rfl rfl rfl pf_doubt) ?_)))))
                          refine s_u rfl rfl (as_st rfl rfl (by first | exact (rfl : _ = D.agg [_, _, _, _, _]) | exact rfl) rfl (by exact rfl) (by exact rfl) (by exact Nat.le_of_ble_eq_true rfl) (by exact (rfl : _ = [_, _, _, _, _]))) ?_
                          refine s_nil (n_n (w_ret (b_r (n_r ?_))))
                          -- end 11
                          refine r_r (ra_cell (by exact (rfl : _ = some (D.agg [_, _, _, _, _]))) ra_nil) (by first | exact (rfl : _ = D.agg [_, _, _, _, _]) | exact rfl) (by exact rfl) sub_no ?_
                          rw [other_no (letters_word (by decide : ([97] : List UInt8) ∈ otherWords) (of_decide_eq_true m))] <;> rfl
                        · rw [m]
                          have m' := of_decide_eq_false m; clear m
                          refine w_reg (s_q rfl rfl (q_eqs rfl rfl rfl) ?_)
                          refine s_q rfl rfl (q_mv (.inr rfl) (is_sc rfl)) ?_
                          refine s_nil (n_n (w_if (is_scb rfl) (fun m => ?_) (fun m => ?_)))
                          · rw [m]
                            refine w_seq (w_reg (s_q rfl rfl (q_call rfl rfl rfl rfl pf_doubt) ?_))
                            refine s_u rfl rfl (as_st rfl rfl (by first | exact (rfl : _ = D.agg [_, _, _, _, _]) | exact rfl) rfl (by exact rfl) (by exact rfl) (by exact Nat.le_of_ble_eq_true rfl) (by exact (rfl : _ = [_, _, _, _, _]))) ?_
                            refine s_nil (n_n (w_ret (b_r (n_r ?_))))
                            -- end 12
                            refine r_r (ra_cell (by exact (rfl : _ = some (D.agg [_, _, _, _, _]))) ra_nil) (by first | exact (rfl : _ = D.agg [_, _, _, _, _]) | exact rfl) (by exact rfl) sub_no ?_
                            rw [other_no (letters_word (by decide : ([112] : List UInt8) ∈ otherWords) (of_decide_eq_true m))] <;> rfl
                          · rw [m]
                            have m' := of_decide_eq_false m; clear m
                            refine w_skip (b_n (n_n (w_seq (w_seq (w_reg (s_q rfl rfl (q_mv (.inl rfl) (is_sc rfl)) ?_))))))
                            refine s_q rfl rfl (q_lens rfl rfl) ?_
                            refine s_q rfl rfl (q_lss rfl rfl rfl) ?_
                            refine s_q rfl rfl (q_mv (.inl rfl) (is_sc rfl)) ?_
                            refine s_split 40 (is_scb rfl) (fun h40 => ?_) (fun h40 => ?_)
                            · refine s_off rfl rfl ?_
                              refine s_off rfl rfl ?_
                              refine s_off rfl rfl ?_
                              refine s_q rfl rfl (q_pickT rfl rfl (is_sc rfl)) ?_
                              refine s_nil (n_n (w_ifT rfl (w_seq (w_reg (s_q rfl rfl (q_call rfl rfl rfl rfl pf_doubt) ?_)))))
                              refine s_u rfl rfl (as_st rfl rfl (by first | exact (rfl : _ = D.agg [_, _, _, _, _]) | exact rfl) rfl (by exact rfl) (by exact rfl) (by exact Nat.le_of_ble_eq_true rfl) (by exact (rfl : _ = [_, _, _, _, _]))) ?_
                              refine s_nil (n_n (w_ret (n_r ?_)))
                              -- end 13
                              refine r_r (ra_cell (by exact (rfl : _ = some (D.agg [_, _, _, _, _]))) ra_nil) (by first | exact (rfl : _ = D.agg [_, _, _, _, _]) | exact rfl) (by exact rfl) sub_no ?_
                              rw [other_no (letters_short (by have := of_decide_eq_true h40; omega))] <;> rfl
                            · have h40' := of_decide_eq_false h40
                              refine s_q rfl rfl (q_mv (.inl rfl) (is_sc rfl)) ?_
                              refine s_q rfl rfl (q_call rfl rfl rfl rfl (pf_lower _ hl)) ?_
                              refine s_q rfl rfl (q_call rfl rfl rfl rfl (pf_month _ (by rw [low_length]; exact hl))) ?_
                              refine s_q rfl rfl (q_pickF rfl rfl (is_sc rfl)) ?_
                              refine s_nil (n_n (w_if (is_scb rfl) (fun h44 => ?_) (fun h44 => ?_)))
                              · refine w_seq (w_reg (s_q rfl rfl (q_call rfl rfl rfl rfl pf_doubt) ?_))
                                refine s_u rfl rfl (as_st rfl rfl (by first | exact (rfl : _ = D.agg [_, _, _, _, _]) | exact rfl) rfl (by exact rfl) (by exact rfl) (by exact Nat.le_of_ble_eq_true rfl) (by exact (rfl : _ = [_, _, _, _, _]))) ?_
                                refine s_nil (n_n (w_ret (n_r ?_)))
                                -- end 14
                                refine r_r (ra_cell (by exact (rfl : _ = some (D.agg [_, _, _, _, _]))) ra_nil) (by first | exact (rfl : _ = D.agg [_, _, _, _, _]) | exact rfl) (by exact rfl) sub_no ?_
                                rw [other_no (letters_month h44)] <;> rfl
                              · refine w_skip (n_n (w_seq (w_reg (s_q rfl rfl (q_call rfl rfl rfl rfl (pf_err _)) ?_))))
                                refine s_u rfl rfl (as_st rfl rfl (by first | exact (rfl : _ = D.agg [_, _, _, _, _]) | exact rfl) rfl (by exact rfl) (by exact rfl) (by exact Nat.le_of_ble_eq_true rfl) (by exact (rfl : _ = [_, _, _, _, _]))) ?_
                                refine s_nil (n_n (w_ret ?_))
                                -- end 15
                                refine r_r (ra_cell (by exact (rfl : _ = some (D.agg [_, _, _, _, _]))) ra_nil) (by first | exact (rfl : _ = D.agg [_, _, _, _, _]) | exact rfl) (by exact rfl) sub_no ?_
                                rw [show otherV s = errV [35, 86, 65, 76, 85, 69, 33] from if_pos (by unfold lettersB; rw [hall, h44, decide_eq_true (by omega : 2 ≤ s.length), show (otherWords.any fun w => decide (lowS s = w)) = false by unfold otherWords; simp only [List.any_cons, List.any_nil]; simp_all]; rfl)]; rfl

end Go.Proofs.YtopgbalmdocboaaGreatDoor.Zz
namespace Go.Proofs.YtopgbalmdocboaaGreatDoor.Zz
open Go.Abs
set_option maxRecDepth 100000
set_option linter.unusedVariables false
set_option linter.unusedSimpArgs false
set_option maxHeartbeats 4000000
variable {G : Nat → D}

-- pub-tallysheet/spec.Same
theorem pf_SameU (k n d k2 n2 d2 : Int) (t t2 : List UInt8) : PF Tryz.prog G 185 [(⟨k, n, d, t, []⟩ : V).d, (⟨k2, n2, d2, t2, []⟩ : V).d] (bl (decide (k = k2) && (decide (n = n2) && (decide (d = d2) && decide (t = t2))))) := by
  refine PC.intro rfl Tryz.func185 rfl (Nat.le_of_ble_eq_true rfl) rfl ?_
  refine w_seq (w_reg (s_s rfl rfl (as_box0 (id := 0) rfl (by first | exact (rfl : _ = D.agg [_, _, _, _, _]) | exact rfl) (by exact rfl) rfl (by exact (rfl : _ = [_, _, _, _, _]))) ?_))
  refine s_s rfl rfl (as_box0 (id := 1) rfl (by first | exact (rfl : _ = D.agg [_, _, _, _, _]) | exact rfl) (by exact rfl) rfl (by exact (rfl : _ = [_, _, _, _, _]))) ?_
  refine s_q rfl rfl (q_mv (.inr rfl) (is_sc rfl)) ?_
  refine s_nil (n_n (w_seq (w_seq (w_reg (s_q rfl rfl (q_field rfl rfl (by exact rfl)) ?_)))))
  refine s_q rfl rfl (q_load rfl rfl (by exact (rfl : _ = some (D.sc _)))) ?_
  refine s_q rfl rfl (q_field rfl rfl (by exact rfl)) ?_
  refine s_q rfl rfl (q_load rfl rfl (by exact (rfl : _ = some (D.sc _)))) ?_
  refine s_q rfl rfl (q_neq rfl rfl rfl) ?_
  refine s_q rfl rfl (q_mv (.inl rfl) (is_sc rfl)) ?_
  refine s_split 12 (is_scb rfl) (fun h1 => ?_) (fun h1 => ?_)
  · refine s_off rfl rfl ?_
    refine s_off rfl rfl ?_
    refine s_off rfl rfl ?_
    refine s_off rfl rfl ?_
    refine s_off rfl rfl ?_
    refine s_q rfl rfl (q_pickT rfl rfl (is_sc rfl)) ?_
    refine s_q rfl rfl (q_mv (.inl rfl) (is_sc rfl)) ?_
    refine s_off rfl rfl ?_
    refine s_off rfl rfl ?_
    refine s_off rfl rfl ?_
    refine s_off rfl rfl ?_
    refine s_off rfl rfl ?_
    refine s_q rfl rfl (q_pickT rfl rfl (is_sc rfl)) ?_
    refine s_q rfl rfl (q_mv (.inl rfl) (is_sc rfl)) ?_
    refine s_off rfl rfl ?_
    refine s_off rfl rfl ?_
    refine s_off rfl rfl ?_
    refine s_off rfl rfl ?_
    refine s_off rfl rfl ?_
    refine s_q rfl rfl (q_pickT rfl rfl (is_sc rfl)) ?_
    refine s_q rfl rfl (q_mv (.inl rfl) (is_sc rfl)) ?_
    refine s_off rfl rfl ?_
    refine s_off rfl rfl ?_
    refine s_off rfl rfl ?_
    refine s_off rfl rfl ?_
    refine s_off rfl rfl ?_
    refine s_off rfl rfl ?_
    refine s_off rfl rfl ?_
    refine s_q rfl rfl (q_pickT rfl rfl (is_sc rfl)) ?_
    refine s_nil (n_n (w_ifT rfl (w_seq (w_reg (s_q rfl rfl (q_mv (.inr rfl) (is_sc rfl)) ?_)))))
    refine s_nil (n_n (w_ret (n_r ?_)))
    -- end 0
    refine r_r (ra_tmp (is_sc rfl) ra_nil) (by exact (is_sc rfl)) (by exact rfl) sub_no ?_
    simp_all
  · refine s_q rfl rfl (q_field rfl rfl (by exact rfl)) ?_
    refine s_q rfl rfl (q_load rfl rfl (by exact (rfl : _ = some (D.sc _)))) ?_
    refine s_q rfl rfl (q_field rfl rfl (by exact rfl)) ?_
    refine s_q rfl rfl (q_load rfl rfl (by exact (rfl : _ = some (D.sc _)))) ?_
    refine s_q rfl rfl (q_neq rfl rfl rfl) ?_
    refine s_q rfl rfl (q_pickF rfl rfl (is_sc rfl)) ?_
    refine s_q rfl rfl (q_mv (.inl rfl) (is_sc rfl)) ?_
    refine s_split 19 (is_scb rfl) (fun h2 => ?_) (fun h2 => ?_)
    · refine s_off rfl rfl ?_
      refine s_off rfl rfl ?_
      refine s_off rfl rfl ?_
      refine s_off rfl rfl ?_
      refine s_off rfl rfl ?_
      refine s_q rfl rfl (q_pickT rfl rfl (is_sc rfl)) ?_
      refine s_q rfl rfl (q_mv (.inl rfl) (is_sc rfl)) ?_
      refine s_off rfl rfl ?_
      refine s_off rfl rfl ?_
      refine s_off rfl rfl ?_
      refine s_off rfl rfl ?_
      refine s_off rfl rfl ?_
      refine s_q rfl rfl (q_pickT rfl rfl (is_sc rfl)) ?_
      refine s_q rfl rfl (q_mv (.inl rfl) (is_sc rfl)) ?_
      refine s_off rfl rfl ?_
      refine s_off rfl rfl ?_
      refine s_off rfl rfl ?_
      refine s_off rfl rfl ?_
      refine s_off rfl rfl ?_
      refine s_off rfl rfl ?_
      refine s_off rfl rfl ?_
      refine s_q rfl rfl (q_pickT rfl rfl (is_sc rfl)) ?_
      refine s_nil (n_n (w_ifT rfl (w_seq (w_reg (s_q rfl rfl (q_mv (.inr rfl) (is_sc rfl)) ?_)))))
      refine s_nil (n_n (w_ret (n_r ?_)))
      -- end 1
      refine r_r (ra_tmp (is_sc rfl) ra_nil) (by exact (is_sc rfl)) (by exact rfl) sub_no ?_
      simp_all
    · refine s_q rfl rfl (q_field rfl rfl (by exact rfl)) ?_
      refine s_q rfl rfl (q_load rfl rfl (by exact (rfl : _ = some (D.sc _)))) ?_
      refine s_q rfl rfl (q_field rfl rfl (by exact rfl)) ?_
      refine s_q rfl rfl (q_load rfl rfl (by exact (rfl : _ = some (D.sc _)))) ?_
      refine s_q rfl rfl (q_neq rfl rfl rfl) ?_
      refine s_q rfl rfl (q_pickF rfl rfl (is_sc rfl)) ?_
      refine s_q rfl rfl (q_mv (.inl rfl) (is_sc rfl)) ?_
      refine s_split 26 (is_scb rfl) (fun h3 => ?_) (fun h3 => ?_)
      · refine s_off rfl rfl ?_
        refine s_off rfl rfl ?_
        refine s_off rfl rfl ?_
        refine s_off rfl rfl ?_
        refine s_off rfl rfl ?_
        refine s_q rfl rfl (q_pickT rfl rfl (is_sc rfl)) ?_
        refine s_q rfl rfl (q_mv (.inl rfl) (is_sc rfl)) ?_
        refine s_off rfl rfl ?_
        refine s_off rfl rfl ?_
        refine s_off rfl rfl ?_
        refine s_off rfl rfl ?_
        refine s_off rfl rfl ?_
        refine s_off rfl rfl ?_
        refine s_off rfl rfl ?_
        refine s_q rfl rfl (q_pickT rfl rfl (is_sc rfl)) ?_
        refine s_nil (n_n (w_ifT rfl (w_seq (w_reg (s_q rfl rfl (q_mv (.inr rfl) (is_sc rfl)) ?_)))))
        refine s_nil (n_n (w_ret (n_r ?_)))
        -- end 2
        refine r_r (ra_tmp (is_sc rfl) ra_nil) (by exact (is_sc rfl)) (by exact rfl) sub_no ?_
        simp_all
      · refine s_q rfl rfl (q_field rfl rfl (by exact rfl)) ?_
        refine s_q rfl rfl (q_load rfl rfl (by exact (rfl : _ = some (D.sc _)))) ?_
        refine s_q rfl rfl (q_field rfl rfl (by exact rfl)) ?_
        refine s_q rfl rfl (q_load rfl rfl (by exact (rfl : _ = some (D.sc _)))) ?_
        refine s_q rfl rfl (q_nes rfl rfl rfl) ?_
        refine s_q rfl rfl (q_pickF rfl rfl (is_sc rfl)) ?_
        refine s_q rfl rfl (q_mv (.inl rfl) (is_sc rfl)) ?_
        refine s_split 33 (is_scb rfl) (fun h4 => ?_) (fun h4 => ?_)
        · refine s_off rfl rfl ?_
          refine s_off rfl rfl ?_
          refine s_off rfl rfl ?_
          refine s_off rfl rfl ?_
          refine s_off rfl rfl ?_
          refine s_off rfl rfl ?_
          refine s_off rfl rfl ?_
          refine s_q rfl rfl (q_pickT rfl rfl (is_sc rfl)) ?_
          refine s_nil (n_n (w_ifT rfl (w_seq (w_reg (s_q rfl rfl (q_mv (.inr rfl) (is_sc rfl)) ?_)))))
          refine s_nil (n_n (w_ret (n_r ?_)))
          -- end 3
          refine r_r (ra_tmp (is_sc rfl) ra_nil) (by exact (is_sc rfl)) (by exact rfl) sub_no ?_
          simp_all
        · refine s_q rfl rfl (q_field rfl rfl (by exact rfl)) ?_
          refine s_q rfl rfl (q_load rfl rfl (by exact rfl)) ?_
          refine s_q rfl rfl (q_len rfl rfl rfl) ?_
          refine s_q rfl rfl (q_field rfl rfl (by exact rfl)) ?_
          refine s_q rfl rfl (q_load rfl rfl (by exact rfl)) ?_
          refine s_q rfl rfl (q_len rfl rfl rfl) ?_
          refine s_q rfl rfl (q_neq rfl rfl rfl) ?_
          refine s_q rfl rfl (q_pickF rfl rfl (is_sc rfl)) ?_
          refine s_nil (n_n (w_ifF rfl (w_skip (n_n (w_seq (w_seq (w_reg (s_q rfl rfl (q_mv (.inr rfl) (is_sc rfl)) ?_))))))))
          refine s_nil (n_n (w_block (w_unroll 0 (u_0 ?_))))
          refine w_seq (w_seq (w_reg (s_q rfl rfl (q_mv (.inl rfl) (is_sc rfl)) ?_)))
          refine s_q rfl rfl (q_field rfl rfl (by exact rfl)) ?_
          refine s_q rfl rfl (q_load rfl rfl (by exact rfl)) ?_
          refine s_q rfl rfl (q_len rfl rfl rfl) ?_
          refine s_q rfl rfl (q_lss rfl rfl rfl) ?_
          refine s_nil (n_n (w_ifF rfl (w_exit (n_e (n_e (b_hit (n_n (w_seq (w_reg (s_q rfl rfl (q_mv (.inr rfl) (is_sc rfl)) ?_))))))))))
          refine s_nil (n_n (w_ret ?_))
          -- end 4
          refine r_r (ra_tmp (is_sc rfl) ra_nil) (by exact (is_sc rfl)) (by exact rfl) sub_no ?_
          simp_all


theorem pf_sameOther (s : List UInt8) : PF Tryz.prog G 185 [(otherV s).d, (errV [35, 86, 65, 76, 85, 69, 33]).d] (bl (lettersB s)) := by
  unfold otherV
  cases h : lettersB s with
  | true => exact pf_SameU 4 0 0 4 0 0 [35, 86, 65, 76, 85, 69, 33] [35, 86, 65, 76, 85, 69, 33]
  | false => exact pf_SameU 6 0 0 4 0 0 [] [35, 86, 65, 76, 85, 69, 33]


-- pub-tallysheet/spec.letters
theorem pf_letters (s : List UInt8) (hl : s.length < 4000000000) : PF Tryz.prog G 179 [st s] (bl (lettersB s)) := by
  refine PC.intro rfl Tryz.func179 rfl (Nat.le_of_ble_eq_true rfl) rfl ?_
  refine w_seq (w_reg (s_q rfl rfl (q_mv (.inr rfl) (is_sc rfl)) ?_))
  refine s_nil (n_n (w_seq (w_reg (s_q rfl rfl (q_mv (.inl rfl) (is_sc rfl)) ?_))))
  refine s_q rfl rfl (q_call rfl rfl rfl rfl (pf_other _ hl)) ?_
  refine s_q rfl rfl (q_call rfl rfl rfl rfl (pf_err _)) ?_
  refine s_q rfl rfl (q_call rfl rfl rfl rfl (pf_sameOther _)) ?_
  refine s_q rfl rfl (q_mv (.inr rfl) (is_sc rfl)) ?_
  refine s_nil (n_n (w_ret ?_))
  -- end 0
  refine r_r (ra_tmp (is_sc rfl) ra_nil) (by exact (is_sc rfl)) (by exact rfl) sub_no ?_
  rfl


-- pub-tallysheet/spec.Frac
-- pub-tallysheet/spec.Digits
-- pub-tallysheet/spec.Plain
-- pub-tallysheet/spec.isWhole
-- pub-tallysheet/spec.abs
end Go.Proofs.YtopgbalmdocboaaGreatDoor.Zz
