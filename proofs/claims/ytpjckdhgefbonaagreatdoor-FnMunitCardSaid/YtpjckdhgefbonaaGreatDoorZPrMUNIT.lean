/- Walks of the functions, printed by program, and the logic behind them: each theorem says what one function or one step answers. -/
import Derived.Test.YtpjckdhgefbonaaGreatDoorZX1
import Derived.Test.YtpjckdhgefbonaaGreatDoorZRows
import Derived.Test.YtpjckdhgefbonaaGreatDoorZTx
import Derived.Test.YtpjckdhgefbonaaGreatDoorZInt
import Derived.Test.YtpjckdhgefbonaaGreatDoorZMi
namespace Go.Proofs.YtpjckdhgefbonaaGreatDoor.Zz
open Go.Abs
set_option maxRecDepth 100000
set_option linter.unusedVariables false
set_option linter.unusedSimpArgs false
set_option maxHeartbeats 4000000
variable {G : Nat → D}

-- (*pub-tallysheet/pub/excelize.formulaFuncs).MUNIT
theorem pf_MUNIT (h : Heap) (kf kl : Nat) (es : List (Nat × D)) (H : IsList h kl es) (b k : Nat) (hes : es.map (·.2) = [.ifc 79 (fNum b).d]) (hb : Fx b ((k : Int) * (unit : Nat))) (h1 : 1 ≤ k) (h20 : k ≤ 20) : ACall Tryz.prog G 54 true [.hp kf 0, .hp kl 0] h (fun ret h2 => ∃ id cap ids, ret = matD id k cap ∧ IsMat h2 id k cap ids k k (munFs k k)) := by
  obtain ⟨e0, rfl⟩ := el1 hes
  have hbc := fx_clean hb
  have hz : fcmp .lss .f64 (clean b) 0 = false := by rw [fcmp_lss0 hbc]; exact decide_eq_false (by omega)
  have hm : floatToIntVal .f64 (clean b) .i64 = some ((k : Nat) : Int) := fx_toInt hbc .i64 (by simp only [IntKind.min, IntKind.max, IntKind.signed, IntKind.bits]; omega)
  have hc1 : clean 4607182418800017408 = 4607182418800017408 := by unfold clean; rw [fcmp_eq fx_one fx_zero, decide_eq_false (by have := unit_pos; omega)]; rfl
  have hc0 : clean 0 = 0 := by unfold clean; split <;> rfl
  have hn1 : PF Tryz.prog G 82 [fl 4607182418800017408] (fNum 4607182418800017408).d := by have := pf_newNum (G := G) 4607182418800017408 _ fx_one; rw [hc1] at this; exact this
  have hn0 : PF Tryz.prog G 82 [fl 0] (fNum 0).d := by have := pf_newNum (G := G) 0 _ fx_zero; rw [hc0] at this; exact this
  refine ACall.intro rfl Tryz.func54 rfl (Nat.le_of_ble_eq_true rfl) rfl ?_
  refine w_seq (w_reg (s_s rfl rfl (as_alloc0 (id := 0) rfl rfl (by exact (rfl : _ = [_, _, _, _, _, _, _, _, _, _]))) ?_))
  refine s_nil (n_n (w_seq (w_seq (w_reg (s_q rfl rfl (q_mv (.inl rfl) (by first | exact is_box rfl | exact is_hp rfl | exact is_pin rfl | exact is_sc rfl | exact rfl)) ?_)))))
  refine s_o rfl rfl (ao_callH rfl rfl rfl rfl (pf_Len _ kl _ H) fun vln Hvln hvln => ?_)
  obtain ⟨rfl, rfl⟩ := hvln
  refine s_q rfl rfl (q_neq rfl rfl rfl) ?_
  refine s_nil (n_n (w_ifF rfl (w_skip (n_n (w_seq (w_reg (s_q rfl rfl (q_mv (.inl rfl) (by first | exact is_box rfl | exact is_hp rfl | exact is_pin rfl | exact is_sc rfl | exact rfl)) ?_)))))))
  refine s_o rfl rfl (ao_callH rfl rfl rfl rfl (pf_Back _ kl _ H (by simp) (by simp)) fun vbk Hvbk hvbk => ?_)
  obtain ⟨e_, rfl⟩ := hvbk
  replace e_ : vbk = D.hp e0 0 := e_
  subst e_
  refine s_q rfl rfl (q_nil rfl rfl rfl) ?_
  refine s_q rfl rfl (q_field rfl rfl (by exact rfl)) ?_
  refine s_q rfl rfl (q_loadH rfl rfl (d := .ifc 79 (fNum b).d) (by exact H.val (e0, .ifc 79 (fNum b).d) (by simp))) ?_
  refine s_q rfl rfl (q_asr rfl rfl) ?_
  refine s_q rfl rfl (q_call rfl rfl rfl rfl (pf_toNumN _ _ hb)) ?_
  refine s_s rfl rfl (as_alloc0 (id := 1) rfl rfl (by exact (rfl : _ = [_, _, _, _, _, _, _, _, _, _]))) ?_
  refine s_u rfl rfl (as_st rfl rfl (by first | exact (rfl : _ = D.agg [_, _, _, _, _, _, _, _, _, _]) | exact rfl) rfl (by exact rfl) (by exact rfl) (by exact Nat.le_of_ble_eq_true rfl) (by exact (rfl : _ = [_, _, _, _, _, _, _, _, _, _]))) ?_
  refine s_nil (n_n (w_seq (w_seq (w_reg (s_q rfl rfl (q_field rfl rfl (by exact rfl)) ?_)))))
  refine s_q rfl rfl (q_load rfl rfl (by exact (rfl : _ = some (D.sc _)))) ?_
  refine s_q rfl rfl (q_eql rfl rfl rfl) ?_
  refine s_q rfl rfl (q_mv (.inl rfl) (is_sc rfl)) ?_
  refine s_q rfl rfl (q_field rfl rfl (by exact rfl)) ?_
  refine s_q rfl rfl (q_load rfl rfl (by exact (rfl : _ = some (D.sc _)))) ?_
  refine s_q rfl rfl (q_fcmpV rfl rfl rfl rfl hz) ?_
  refine s_q rfl rfl (q_pickF rfl rfl (is_sc rfl)) ?_
  refine s_nil (n_n (w_ifF rfl (w_skip (n_n (w_seq (w_reg (s_q rfl rfl (q_field rfl rfl (by exact rfl)) ?_)))))))
  refine s_q rfl rfl (q_load rfl rfl (by exact (rfl : _ = some (D.sc _)))) ?_
  refine s_q rfl rfl (q_cfi rfl rfl hm) ?_
  refine s_o rfl rfl (ao_makeH rfl rfl rfl (by decide) (by show (0 : Int) ≤ ((k : Nat) : Int); omega) (by show (24 : Int) * ((k : Nat) : Int) ≤ _; omega) (by show ((k : Nat) : Int) ≤ _; omega) fun k35 hk35 => ?_)
  refine s_q rfl rfl (q_mv (.inr rfl) (by first | exact is_im rfl | exact is_gs rfl | exact is_lit rfl | exact is_ms rfl | exact is_sc rfl | exact rfl)) ?_
  refine s_nil (n_n (w_seq (w_seq (w_reg (s_q rfl rfl (q_mv (.inr rfl) (is_sc rfl)) ?_)))))
  refine s_nil (n_n (w_block ?_))
  refine w_loop (fun env A => ∃ (i id cap : Nat) (ids : List Nat) (hh : Heap), i ≤ k ∧ Binds env [(4, .box 0 0), (5, .box 1 0), (6, .hs id 0 i cap), (7, i64 i)] ∧ A = ⟨[.cells [.sc (.string ⟨⟨[]⟩⟩), .sc (.float .f64 0), .sc (.string ⟨⟨[]⟩⟩), .sc (.slice none 0 0), .sc (.slice none 0 0), .sc (.bool false), .sc (.string ⟨⟨[]⟩⟩), .sc (.int .u8 0), .sc (.pointer none), .sc (.pointer none)], .cells (F.c (fNum (clean b)))], fun _ => false, 0, hh⟩ ∧ Mun hh id i cap ids k) (fun env _ => k - ctr (env 7)) ?_ ?_
  · refine ⟨0, k35, k, [], _, Nat.zero_le _, ⟨rfl, rfl, rfl, rfl, trivial⟩, rfl, ?_⟩
    exact mun_zero h1 h20 (len_made k _ rfl)
  · rintro env A ⟨i, id, cap, ids, hh, hi, hB, rfl, M⟩
    rw [hB.eq]; clear hB
    refine w_seq (w_seq (w_reg (s_q rfl rfl (q_mv (.inl rfl) (is_sc rfl)) ?_)))
    refine s_q rfl rfl (q_field rfl rfl (by exact rfl)) ?_
    refine s_q rfl rfl (q_load rfl rfl (by exact (rfl : _ = some (D.sc _)))) ?_
    refine s_q rfl rfl (q_cfi rfl rfl hm) ?_
    refine s_q rfl rfl (q_lss rfl rfl rfl) ?_
    refine s_nil (n_n (w_if (is_scb rfl) (fun h40 => ?_) (fun h40 => ?_)))
    · have hlt : i < k := by have h' : (i : Int) < ((k : Nat) : Int) := of_decide_eq_true h40; omega
      refine w_skip (n_n (w_seq (w_block (w_seq (w_reg (s_q rfl rfl (q_field rfl rfl (by exact rfl)) ?_))))))
      refine s_q rfl rfl (q_load rfl rfl (by exact (rfl : _ = some (D.sc _)))) ?_
      refine s_q rfl rfl (q_cfi rfl rfl hm) ?_
      refine s_o rfl rfl (ao_makeH rfl rfl rfl (by show (0 : Int) ≤ ((k : Nat) : Int); omega) (Int.le_refl _) (by show (136 : Int) * ((k : Nat) : Int) ≤ _; omega) (by show ((k : Nat) : Int) ≤ _; omega) fun rid hrid => ?_)
      replace hrid : hh rid = none := hrid
      refine s_q rfl rfl (q_mv (.inr rfl) (by first | exact is_im rfl | exact is_gs rfl | exact is_lit rfl | exact is_ms rfl | exact is_sc rfl | exact rfl)) ?_
      refine s_nil (n_n (w_seq (w_seq (w_reg (s_q rfl rfl (q_mv (.inr rfl) (is_sc rfl)) ?_)))))
      refine s_nil (n_n (w_block ?_))
      refine w_loop (fun env A => ∃ (j : Nat) (hh2 : Heap), j ≤ k ∧ Binds env [(4, .box 0 0), (5, .box 1 0), (6, .hs id 0 i cap), (7, i64 i), (8, .hs rid 0 k k), (9, i64 j)] ∧ A = ⟨[.cells [.sc (.string ⟨⟨[]⟩⟩), .sc (.float .f64 0), .sc (.string ⟨⟨[]⟩⟩), .sc (.slice none 0 0), .sc (.slice none 0 0), .sc (.bool false), .sc (.string ⟨⟨[]⟩⟩), .sc (.int .u8 0), .sc (.pointer none), .sc (.pointer none)], .cells (F.c (fNum (clean b)))], fun _ => false, 0, hh2⟩ ∧ hh2 rid = some (((List.range j).map (munF i)).flatMap F.c ++ (List.replicate (k - j) zF).flatten) ∧ ∀ x, ¬ x = rid → hh2 x = hh x) (fun env _ => k - ctr (env 9)) ?_ ?_
      · refine ⟨0, _, Nat.zero_le _, ⟨rfl, rfl, rfl, rfl, rfl, rfl, trivial⟩, rfl, ?_, ?_⟩
        · show (if rid = rid then _ else _) = _
          rw [if_pos rfl, made_rep _ (by decide), zeros_D]; rfl
        · intro x hx
          show (if x = rid then _ else _) = _
          rw [if_neg hx]
      · rintro env A ⟨j, hh2, hj, hB, rfl, hcs, h3⟩
        rw [hB.eq]; clear hB
        refine w_seq (w_seq (w_reg (s_q rfl rfl (q_mv (.inl rfl) (is_sc rfl)) ?_)))
        refine s_q rfl rfl (q_field rfl rfl (by exact rfl)) ?_
        refine s_q rfl rfl (q_load rfl rfl (by exact (rfl : _ = some (D.sc _)))) ?_
        refine s_q rfl rfl (q_cfi rfl rfl hm) ?_
        refine s_q rfl rfl (q_lss rfl rfl rfl) ?_
        refine s_nil (n_n (w_if (is_scb rfl) (fun h51 => ?_) (fun h51 => ?_)))
        · have hjlt : j < k := by have h' : (j : Int) < ((k : Nat) : Int) := of_decide_eq_true h51; omega
          have hfit : 0 + (j : Int).toNat * 10 + 10 ≤ (((List.range j).map (munF i)).flatMap F.c ++ (List.replicate (k - j) zF).flatten).length := by
            rw [List.length_append, length_flat F.c 10 F.c_len, List.length_map, List.length_range, List.length_flatten, List.map_replicate, List.sum_replicate_nat]
            show 0 + j * 10 + 10 ≤ j * 10 + (k - j) * 10
            omega
          refine w_skip (n_n (w_seq (w_block (w_seq (w_reg (s_q rfl rfl (q_mv (.inl rfl) (is_sc rfl)) ?_))))))
          refine s_q rfl rfl (q_mv (.inl rfl) (is_sc rfl)) ?_
          refine s_q rfl rfl (q_eql rfl rfl rfl) ?_
          refine s_nil (n_n (w_if (is_scb rfl) (fun h56 => ?_) (fun h56 => ?_)))
          · have hcellF := munF_yes (show i = j by have := of_decide_eq_true h56; omega)
            refine w_reg (s_q rfl rfl (q_mv (.inl rfl) (by first | exact is_im rfl | exact is_gs rfl | exact is_lit rfl | exact is_ms rfl | exact is_sc rfl | exact rfl)) ?_)
            refine s_q rfl rfl (q_mv (.inl rfl) (is_sc rfl)) ?_
            refine s_q rfl rfl (q_call rfl rfl rfl rfl hn1) ?_
            refine s_q rfl rfl (q_indexHs rfl rfl rfl (Int.natCast_nonneg _) (by omega)) ?_
            refine s_u rfl rfl (as_storeH (d := (fNum 4607182418800017408).d) (k := rid) (off := 0 + (j : Int).toNat * 10) rfl rfl rfl hcs rfl rfl rfl hfit) ?_
            refine s_nil (b_n (n_n (w_reg (s_q rfl rfl (q_mv (.inl rfl) (is_sc rfl)) ?_))))
            refine s_q rfl rfl (q_add rfl rfl rfl) ?_
            refine s_q rfl rfl (q_mv (.inr rfl) (is_sc rfl)) ?_
            refine s_nil (n_n ?_)
            have hw : IntKind.i64.wrap ((j : Int) + 1) = ((j + 1 : Nat) : Int) := wrap_nat (by omega)
            refine ⟨⟨j + 1, _, hjlt, ⟨rfl, rfl, rfl, rfl, rfl, i64_eq hw, trivial⟩, rfl, ?_, ?_⟩, ?_⟩
            · show (if rid = rid then _ else _) = _
              rw [if_pos rfl]; exact congrArg some (mun_store hjlt hcellF)
            · intro x hx
              show (if x = rid then _ else _) = _
              rw [if_neg hx]; exact h3 x hx
            · show k - (IntKind.i64.wrap ((j : Int) + 1)).toNat < k - (j : Int).toNat
              rw [hw]; omega
          · have hcellF := munF_no (show ¬ i = j by have := of_decide_eq_false h56; omega)
            refine w_reg (s_q rfl rfl (q_mv (.inl rfl) (by first | exact is_im rfl | exact is_gs rfl | exact is_lit rfl | exact is_ms rfl | exact is_sc rfl | exact rfl)) ?_)
            refine s_q rfl rfl (q_mv (.inl rfl) (is_sc rfl)) ?_
            refine s_q rfl rfl (q_call rfl rfl rfl rfl hn0) ?_
            refine s_q rfl rfl (q_indexHs rfl rfl rfl (Int.natCast_nonneg _) (by omega)) ?_
            refine s_u rfl rfl (as_storeH (d := (fNum 0).d) (k := rid) (off := 0 + (j : Int).toNat * 10) rfl rfl rfl hcs rfl rfl rfl hfit) ?_
            refine s_nil (b_n (n_n (w_reg (s_q rfl rfl (q_mv (.inl rfl) (is_sc rfl)) ?_))))
            refine s_q rfl rfl (q_add rfl rfl rfl) ?_
            refine s_q rfl rfl (q_mv (.inr rfl) (is_sc rfl)) ?_
            refine s_nil (n_n ?_)
            have hw : IntKind.i64.wrap ((j : Int) + 1) = ((j + 1 : Nat) : Int) := wrap_nat (by omega)
            refine ⟨⟨j + 1, _, hjlt, ⟨rfl, rfl, rfl, rfl, rfl, i64_eq hw, trivial⟩, rfl, ?_, ?_⟩, ?_⟩
            · show (if rid = rid then _ else _) = _
              rw [if_pos rfl]; exact congrArg some (mun_store hjlt hcellF)
            · intro x hx
              show (if x = rid then _ else _) = _
              rw [if_neg hx]; exact h3 x hx
            · show k - (IntKind.i64.wrap ((j : Int) + 1)).toNat < k - (j : Int).toNat
              rw [hw]; omega
        · have hjge : k ≤ j := by have h' : ¬ (j : Int) < ((k : Nat) : Int) := of_decide_eq_false h51; omega
          have hjk : k = j := by omega
          subst hjk
          have hcell : hh2 rid = some ((munRF k i).flatMap F.c) := by rw [hcs, Nat.sub_self]; simp [munRF]
          refine w_exit (n_e (n_e (b_hit (n_n (w_reg (s_q rfl rfl (q_mv (.inl rfl) (by first | exact is_im rfl | exact is_gs rfl | exact is_lit rfl | exact is_ms rfl | exact is_sc rfl | exact rfl)) ?_))))))
          refine s_q rfl rfl (q_mv (.inl rfl) (by first | exact is_im rfl | exact is_gs rfl | exact is_lit rfl | exact is_ms rfl | exact is_sc rfl | exact rfl)) ?_
          refine s_q rfl rfl (q_bs rfl (pt_cons (by first | exact is_im rfl | exact is_gs rfl | exact is_lit rfl | exact is_ms rfl | exact is_sc rfl | exact rfl) pt_nil) (by decide) (by decide) (by exact (rfl : _ = some [_])) (by exact (rfl : _ = [_])) (by exact rfl) (by exact rfl)) ?_
          have hrow := mun_row M hrid h3
          refine s_o rfl rfl (ao_appendRow (zs := [.slice none 0 0]) (d := .hs id 0 i cap) (n := i) (m := 1) (xs := ids.map fun r => D.hs r 0 k k) (ys := [D.hs rid 0 k k]) rfl rfl hrow rfl rfl (by decide) rfl (by show (i + 1) * 24 ≤ _; omega) (by show i + 1 ≤ 9223372036854775807; omega) fun k2 cap2 sp2 hk2 hc1 hc2 hc3 => ?_)
          refine s_q rfl rfl (q_mv (.inr rfl) (by first | exact is_im rfl | exact is_gs rfl | exact is_lit rfl | exact is_ms rfl | exact is_sc rfl | exact rfl)) ?_
          refine s_nil (b_n (n_n (w_reg (s_q rfl rfl (q_mv (.inl rfl) (is_sc rfl)) ?_))))
          refine s_q rfl rfl (q_add rfl rfl rfl) ?_
          refine s_q rfl rfl (q_mv (.inr rfl) (is_sc rfl)) ?_
          refine s_nil (n_n ?_)
          have hw : IntKind.i64.wrap ((i : Int) + 1) = ((i + 1 : Nat) : Int) := wrap_nat (by omega)
          refine ⟨⟨i + 1, k2, cap2, ids ++ [rid], _, hlt, ⟨rfl, rfl, rfl, i64_eq hw, trivial⟩, rfl, ?_⟩, ?_⟩
          · exact mun_next M hrid hcell h3 hk2 hc1 hc2 hc3
          · show k - (IntKind.i64.wrap ((i : Int) + 1)).toNat < k - (i : Int).toNat
            rw [hw]; omega
    · have hge : k ≤ i := by have h' : ¬ (i : Int) < ((k : Nat) : Int) := of_decide_eq_false h40; omega
      have hik : k = i := by omega
      subst hik
      refine w_exit (n_e (n_e (b_hit (n_n (w_seq (w_reg (s_q rfl rfl (q_mv (.inl rfl) (by first | exact is_im rfl | exact is_gs rfl | exact is_lit rfl | exact is_ms rfl | exact is_sc rfl | exact rfl)) ?_)))))))
      refine s_q rfl rfl (q_call rfl rfl rfl rfl (pf_newMat _ _ _)) ?_
      refine s_u rfl rfl (as_st rfl rfl (by first | exact (rfl : _ = D.agg [_, _, _, _, _, _, _, _, _, _]) | exact rfl) rfl (by exact rfl) (by exact rfl) (by exact Nat.le_of_ble_eq_true rfl) (by exact (rfl : _ = [_, _, _, _, _, _, _, _, _, _]))) ?_
      refine s_nil (n_n (w_ret ?_))
      -- end 0
      refine r_r (ra_cell (by exact (rfl : _ = some (D.agg [_, _, _, _, _, _, _, _, _, _]))) ra_nil) (by first | exact (rfl : _ = D.agg [_, _, _, _, _, _, _, _, _, _]) | exact rfl) (by exact rfl) (Sub.refl _) ?_
      exact ⟨id, cap, ids, rfl, mun_mat M⟩

end Go.Proofs.YtpjckdhgefbonaaGreatDoor.Zz
