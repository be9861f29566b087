/- Walks of the functions, printed by program, and the logic behind them: each theorem says what one function or one step answers. -/
import Derived.Test.YteghibfaiifdoaaGreatDoorZM
import Derived.Test.YteghibfaiifdoaaGreatDoorZTx
namespace Go.Proofs.YteghibfaiifdoaaGreatDoor.Zz
open Go.Abs
set_option maxRecDepth 100000
set_option linter.unusedVariables false
set_option linter.unusedSimpArgs false
set_option maxHeartbeats 4000000
variable {G : Nat → D}
instance : IFT Tryz.prog 95 := ⟨by kernel_rfl⟩

-- internal/stringslite.HasPrefix
theorem pf_HasPrefix2 (s p : List UInt8) (hn : ¬ s.take p.length = p) : PF Tryz.prog G 159 [st s, st p] (bl false) := by
  refine PC.intro rfl Tryz.func159 rfl (Nat.le_of_ble_eq_true rfl) rfl ?_
  refine w_seq (w_reg (s_q rfl rfl (q_mv (.inr rfl) (is_sc rfl)) ?_))
  refine s_nil (n_n (w_seq (w_reg (s_q rfl rfl (q_mv (.inl rfl) (is_sc rfl)) ?_))))
  refine s_q rfl rfl (q_lens rfl rfl) ?_
  refine s_q rfl rfl (q_mv (.inl rfl) (is_sc rfl)) ?_
  refine s_q rfl rfl (q_lens rfl rfl) ?_
  refine s_q rfl rfl (q_geq rfl rfl rfl) ?_
  refine s_q rfl rfl (q_mv (.inl rfl) (is_sc rfl)) ?_
  refine s_split 10 (is_scb rfl) (fun h9 => ?_) (fun h9 => ?_)
  · have g9 : p.length ≤ s.length := by have := of_decide_eq_true h9; omega
    refine s_q rfl rfl (q_mv (.inl rfl) (is_sc rfl)) ?_
    refine s_q rfl rfl (q_mv (.inl rfl) (is_sc rfl)) ?_
    refine s_q rfl rfl (q_lens rfl rfl) ?_
    refine s_q rfl rfl (q_as (st_eq (by show List.drop 0 (List.take _ s) = s.take p.length; rw [List.drop_zero])) (q_cutS (a := 0) (b := p.length) rfl rfl rfl ⟨_, _, rfl, Int.natCast_nonneg _, rfl⟩ (Nat.zero_le _) g9)) ?_
    refine s_q rfl rfl (q_mv (.inl rfl) (is_sc rfl)) ?_
    refine s_q rfl rfl (q_as (bl_no (hn)) (q_eqs rfl rfl rfl)) ?_
    refine s_q rfl rfl (q_pickT rfl rfl (is_sc rfl)) ?_
    refine s_q rfl rfl (q_mv (.inr rfl) (is_sc rfl)) ?_
    refine s_nil (n_n (w_ret ?_))
    -- end 0
    refine r_r (ra_tmp (is_sc rfl) ra_nil) (by exact (is_sc rfl)) (by exact rfl) sub_no ?_
    rfl
  · refine s_off rfl rfl ?_
    refine s_off rfl rfl ?_
    refine s_off rfl rfl ?_
    refine s_off rfl rfl ?_
    refine s_off rfl rfl ?_
    refine s_off rfl rfl ?_
    refine s_q rfl rfl (q_pickF rfl rfl (is_sc rfl)) ?_
    refine s_q rfl rfl (q_mv (.inr rfl) (is_sc rfl)) ?_
    refine s_nil (n_n (w_ret ?_))
    -- end 1
    refine r_r (ra_tmp (is_sc rfl) ra_nil) (by exact (is_sc rfl)) (by exact rfl) sub_no ?_
    rfl


-- strings.HasPrefix
theorem pf_HasPrefix (s p : List UInt8) (hn : ¬ s.take p.length = p) : PF Tryz.prog G 73 [st s, st p] (bl false) := by
  refine PC.intro rfl Tryz.func73 rfl (Nat.le_of_ble_eq_true rfl) rfl ?_
  refine w_seq (w_reg (s_q rfl rfl (q_mv (.inr rfl) (is_sc rfl)) ?_))
  refine s_nil (n_n (w_seq (w_reg (s_q rfl rfl (q_mv (.inl rfl) (is_sc rfl)) ?_))))
  refine s_q rfl rfl (q_mv (.inl rfl) (is_sc rfl)) ?_
  refine s_q rfl rfl (q_call rfl rfl rfl rfl (pf_HasPrefix2 _ _ hn)) ?_
  refine s_q rfl rfl (q_mv (.inr rfl) (is_sc rfl)) ?_
  refine s_nil (n_n (w_ret ?_))
  -- end 0
  refine r_r (ra_tmp (is_sc rfl) ra_nil) (by exact (is_sc rfl)) (by exact rfl) sub_no ?_
  rfl


-- internal/strconv.lower
theorem pf_lowO (c : UInt8) : PF Tryz.prog G 289 [.sc (.int .u8 (c.toNat : Int))] (.sc (.int .u8 (lowO c : Int))) := by
  refine PC.intro rfl Tryz.func289 rfl (Nat.le_of_ble_eq_true rfl) rfl ?_
  refine w_seq (w_reg (s_q rfl rfl (q_mv (.inr rfl) (is_sc rfl)) ?_))
  refine s_nil (n_n (w_seq (w_reg (s_q rfl rfl (q_mv (.inl rfl) (is_sc rfl)) ?_))))
  refine s_q rfl rfl (q_as (u8_eq (lowO_word c)) (q_or rfl rfl rfl)) ?_
  refine s_q rfl rfl (q_mv (.inr rfl) (is_sc rfl)) ?_
  refine s_nil (n_n (w_ret ?_))
  -- end 0
  refine r_r (ra_tmp (is_sc rfl) ra_nil) (by exact (is_sc rfl)) (by exact rfl) sub_no ?_
  rfl

abbrev u64 (n : Int) : D := .sc (.int .u64 n)

-- internal/strconv.ParseUint
theorem pf_ParseUint (s : List UInt8) (m N : Int) (hs : s.length ≤ 1000) (he : ¬ s = []) (hm : 2 ≤ m ∧ m ≤ 36) (hD : decL m s 0 0 = some N) : PF Tryz.prog G 257 [st s, i64 m, i64 64] (.tup [u64 N, .sc .nilIface]) := by
  refine PC.intro rfl Tryz.func257 rfl (Nat.le_of_ble_eq_true rfl) rfl ?_
  refine w_seq (w_reg (s_q rfl rfl (q_mv (.inr rfl) (is_sc rfl)) ?_))
  refine s_q rfl rfl (q_mv (.inr rfl) (by first | exact is_ifc rfl | exact is_sc rfl | exact rfl)) ?_
  refine s_nil (n_n (w_seq (w_seq (w_reg (s_q rfl rfl (q_mv (.inl rfl) (is_sc rfl)) ?_)))))
  refine s_q rfl rfl (q_as (bl_no (he)) (q_eqs rfl rfl rfl)) ?_
  refine s_nil (n_n (w_ifF rfl (w_skip (n_n (w_seq (w_reg (s_q rfl rfl (q_mv (.inl rfl) (is_sc rfl)) ?_)))))))
  refine s_q rfl rfl (q_as (bl_no (show ¬ m = 0 by omega)) (q_eql rfl rfl rfl)) ?_
  refine s_q rfl rfl (q_mv (.inr rfl) (is_sc rfl)) ?_
  refine s_nil (n_n (w_seq (w_reg (s_q rfl rfl (q_mv (.inl rfl) (is_sc rfl)) ?_))))
  refine s_q rfl rfl (q_mv (.inr rfl) (is_sc rfl)) ?_
  refine s_nil (n_n (w_seq (w_block (w_seq (w_reg (s_q rfl rfl (q_mv (.inl rfl) (is_sc rfl)) ?_))))))
  refine s_q rfl rfl (q_as (bl_yes (show (2 : Int) ≤ m by omega)) (q_leq rfl rfl rfl)) ?_
  refine s_q rfl rfl (q_mv (.inl rfl) (is_sc rfl)) ?_
  refine s_q rfl rfl (q_mv (.inl rfl) (is_sc rfl)) ?_
  refine s_q rfl rfl (q_as (bl_yes (show m ≤ (36 : Int) by omega)) (q_leq rfl rfl rfl)) ?_
  refine s_q rfl rfl (q_pickT rfl rfl (is_sc rfl)) ?_
  refine s_q rfl rfl (q_mv (.inr rfl) (is_sc rfl)) ?_
  refine s_nil (n_n (w_ifT rfl (w_skip (b_n (n_n (w_seq (w_seq (w_reg (s_q rfl rfl (q_mv (.inl rfl) (is_sc rfl)) ?_)))))))))
  refine s_q rfl rfl (q_eql rfl rfl rfl) ?_
  refine s_nil (n_n (w_ifF rfl (w_seq (w_reg (s_q rfl rfl (q_mv (.inl rfl) (is_sc rfl)) ?_)))))
  refine s_q rfl rfl (q_lss rfl rfl rfl) ?_
  refine s_q rfl rfl (q_mv (.inl rfl) (is_sc rfl)) ?_
  refine s_q rfl rfl (q_mv (.inl rfl) (is_sc rfl)) ?_
  refine s_q rfl rfl (q_gtr rfl rfl rfl) ?_
  refine s_q rfl rfl (q_pickF rfl rfl (is_sc rfl)) ?_
  refine s_nil (n_n (w_ifF rfl (w_skip (n_n (w_seq (w_reg (s_q rfl rfl (q_mv (.inr rfl) (is_sc rfl)) ?_)))))))
  refine s_nil (n_n (w_seq (w_seq (w_reg (s_q rfl rfl (q_mv (.inl rfl) (is_sc rfl)) ?_)))))
  refine s_nil (n_n (w_block (w_seq (w_reg (s_q rfl rfl (q_eql rfl rfl rfl) ?_)))))
  refine s_q rfl rfl (q_mv (.inr rfl) (is_sc rfl)) ?_
  refine s_nil (n_n (w_if (is_scb rfl) (fun h1 => ?_) (fun h1 => ?_)))
  · refine w_reg (s_q rfl rfl (q_mv (.inr rfl) (is_sc rfl)) ?_)
    refine s_nil (b_n (n_n (w_seq (w_reg (s_q rfl rfl (q_mv (.inl rfl) (is_sc rfl)) ?_)))))
    refine s_q rfl rfl (q_as (u64_eq (by decide : _ = (64 : Int))) (q_cii rfl rfl)) ?_
    refine s_q rfl rfl (q_as (u64_eq (by decide : _ = (0 : Int))) (q_shl rfl rfl rfl (by decide))) ?_
    refine s_q rfl rfl (q_as (u64_eq (by decide : _ = (18446744073709551615 : Int))) (q_sub rfl rfl rfl)) ?_
    refine s_q rfl rfl (q_mv (.inr rfl) (is_sc rfl)) ?_
    refine s_nil (n_n (w_seq (w_reg (s_q rfl rfl (q_mv (.inr rfl) (is_sc rfl)) ?_))))
    refine s_nil (n_n (w_seq (w_reg (s_q rfl rfl (q_mv (.inr rfl) (is_sc rfl)) ?_))))
    refine s_nil (n_n (w_seq (w_seq (w_reg (s_q rfl rfl (q_mv (.inl rfl) (is_sc rfl)) ?_)))))
    refine s_q rfl rfl (q_bytesIm rfl rfl) ?_
    refine s_q rfl rfl (q_len rfl rfl rfl) ?_
    refine s_q rfl rfl (q_mv (.inl rfl) (is_sc rfl)) ?_
    refine s_nil (n_n (w_block ?_))
    refine w_loop (fun env A => ∃ (i : Nat) (n c : Int), i ≤ s.length ∧ 0 ≤ n ∧ n ≤ 99999999999 ∧ 99999999999 < c ∧ decL m (s.drop i) i n = some N ∧ Binds env [(1, i64 m), (10, u64 c), (11, u64 18446744073709551615), (12, bl false), (13, u64 n), (99, .im (bc s) s.length), (100, i64 s.length), (101, i64 i)] ∧ A = AH.start noHeap) (fun env _ => s.length - ctr (env 101)) ?_ ?_
    · refine ⟨0, 0, _, Nat.zero_le _, by omega, by omega, ?_, by simpa using hD, ⟨rfl, rfl, rfl, rfl, rfl, rfl, rfl, rfl, trivial⟩, rfl⟩
      first | decide | (have := (cutoff_ok hm).1; omega)
    · rintro env A ⟨i, n, c, hi, hn0, hn1, hc, hD, hB, rfl⟩
      rw [hB.eq]; clear hB
      refine w_seq (w_reg (s_q rfl rfl (q_lss rfl rfl rfl) ?_))
      refine s_nil (n_n (w_seq (w_if (is_scb rfl) (fun h102 => ?_) (fun h102 => ?_))))
      · have hlt : i < s.length := by have := of_decide_eq_true h102; omega
        obtain ⟨hd1, hd2, hd3⟩ := dec_some_step hlt hD
        unfold decBad at hd1
        have hd4 : ¬ digV s[i] = 36 := fun e => hd1 (.inl e)
        have hd5 : ¬ m ≤ (digV s[i] : Int) := fun e => hd1 (.inr (.inr e))
        have hdf := dig_form s[i] hd4
        have hds := dig_sign hd4
        have hdl := dig_le s[i]
        have hmul := dec_mul hn0 hn1 hm
        refine w_skip (n_n (w_seq (w_block (w_seq (w_reg (s_q rfl rfl (q_index rfl rfl rfl rfl (Int.natCast_nonneg _) (by omega)) ?_))))))
        refine s_q rfl rfl (q_loadPin rfl rfl (take_map (fun (b : UInt8) => D.sc (.int .u8 (b.toNat : Int))) hlt)) ?_
        refine s_q rfl rfl (q_mv (.inr rfl) (is_sc rfl)) ?_
        refine s_nil (n_n (w_seq (w_reg (s_q rfl rfl (q_mv (.inr rfl) (is_sc rfl)) ?_))))
        refine s_nil (n_n (w_seq (w_block (w_seq (w_reg (s_q rfl rfl (q_mv (.inl rfl) (is_sc rfl)) ?_))))))
        refine s_q rfl rfl (q_as (bl_no (show ¬ (s[i].toNat : Int) = 95 by omega)) (q_eql rfl rfl rfl)) ?_
        refine s_q rfl rfl (q_mv (.inl rfl) (is_sc rfl)) ?_
        refine s_off rfl rfl ?_
        refine s_q rfl rfl (q_pickF rfl rfl (is_sc rfl)) ?_
        refine s_q rfl rfl (q_mv (.inr rfl) (is_sc rfl)) ?_
        refine s_nil (n_n (w_ifF rfl (w_seq (w_reg (s_q rfl rfl (q_mv (.inl rfl) (is_sc rfl)) ?_)))))
        refine s_q rfl rfl (q_leq rfl rfl rfl) ?_
        refine s_q rfl rfl (q_mv (.inl rfl) (is_sc rfl)) ?_
        refine s_split 115 (is_scb rfl) (fun h114 => ?_) (fun h114 => ?_)
        · have g114 : 48 ≤ s[i].toNat := by have := of_decide_eq_true h114; omega
          refine s_q rfl rfl (q_mv (.inl rfl) (is_sc rfl)) ?_
          refine s_q rfl rfl (q_leq rfl rfl rfl) ?_
          refine s_q rfl rfl (q_pickT rfl rfl (is_sc rfl)) ?_
          refine s_q rfl rfl (q_mv (.inr rfl) (is_sc rfl)) ?_
          refine s_nil (n_n (w_if (is_scb rfl) (fun h117 => ?_) (fun h117 => ?_)))
          · have g117 : s[i].toNat ≤ 57 := by have := of_decide_eq_true h117; omega
            refine w_reg (s_q rfl rfl (q_mv (.inl rfl) (is_sc rfl)) ?_)
            refine s_q rfl rfl (q_as (u8_eq (show _ = (digV s[i] : Int) by rw [u8_wrap (by omega) (by omega)]; omega)) (q_sub rfl rfl rfl)) ?_
            refine s_q rfl rfl (q_mv (.inr rfl) (is_sc rfl)) ?_
            refine s_nil (b_n (n_n (w_seq (w_seq (w_reg (s_q rfl rfl (q_mv (.inl rfl) (is_sc rfl)) ?_))))))
            refine s_q rfl rfl (q_mv (.inl rfl) (is_sc rfl)) ?_
            refine s_q rfl rfl (q_as (u8_eq (u8_wrap (by omega) (by omega))) (q_cii rfl rfl)) ?_
            refine s_q rfl rfl (q_as (bl_no (show ¬ m ≤ (digV s[i] : Int) by omega)) (q_geq rfl rfl rfl)) ?_
            refine s_nil (n_n (w_ifF rfl (w_skip (n_n (w_seq (w_seq (w_reg (s_q rfl rfl (q_mv (.inl rfl) (is_sc rfl)) ?_))))))))
            refine s_q rfl rfl (q_mv (.inl rfl) (is_sc rfl)) ?_
            refine s_q rfl rfl (q_as (bl_no (show ¬ c ≤ n by omega)) (q_geq rfl rfl rfl)) ?_
            refine s_nil (n_n (w_ifF rfl (w_skip (n_n (w_seq (w_reg (s_q rfl rfl (q_mv (.inl rfl) (is_sc rfl)) ?_)))))))
            refine s_q rfl rfl (q_mv (.inl rfl) (is_sc rfl)) ?_
            refine s_q rfl rfl (q_as (u64_eq (u64_id (by omega) (by omega))) (q_cii rfl rfl)) ?_
            refine s_q rfl rfl (q_as (u64_eq (u64_id (by omega) (by omega))) (q_mul rfl rfl rfl)) ?_
            refine s_q rfl rfl (q_mv (.inr rfl) (is_sc rfl)) ?_
            refine s_nil (n_n (w_seq (w_reg (s_q rfl rfl (q_mv (.inl rfl) (is_sc rfl)) ?_))))
            refine s_q rfl rfl (q_mv (.inl rfl) (is_sc rfl)) ?_
            refine s_q rfl rfl (q_as (u64_eq (u64_id (by omega) (by omega))) (q_cii rfl rfl)) ?_
            refine s_q rfl rfl (q_as (u64_eq (u64_id (by omega) (by omega))) (q_add rfl rfl rfl)) ?_
            refine s_q rfl rfl (q_mv (.inr rfl) (is_sc rfl)) ?_
            refine s_nil (n_n (w_seq (w_seq (w_reg (s_q rfl rfl (q_mv (.inl rfl) (is_sc rfl)) ?_)))))
            refine s_q rfl rfl (q_mv (.inl rfl) (is_sc rfl)) ?_
            refine s_q rfl rfl (q_as (bl_no (show ¬ n * m + (digV s[i] : Int) < n * m by omega)) (q_lss rfl rfl rfl)) ?_
            refine s_q rfl rfl (q_mv (.inl rfl) (is_sc rfl)) ?_
            refine s_q rfl rfl (q_mv (.inl rfl) (is_sc rfl)) ?_
            refine s_q rfl rfl (q_mv (.inl rfl) (is_sc rfl)) ?_
            refine s_q rfl rfl (q_as (bl_no (show ¬ (18446744073709551615 : Int) < n * m + (digV s[i] : Int) by omega)) (q_gtr rfl rfl rfl)) ?_
            refine s_q rfl rfl (q_pickF rfl rfl (is_sc rfl)) ?_
            refine s_nil (n_n (w_ifF rfl (w_skip (n_n (w_reg (s_q rfl rfl (q_mv (.inl rfl) (is_sc rfl)) ?_))))))
            refine s_q rfl rfl (q_mv (.inr rfl) (is_sc rfl)) ?_
            refine s_nil (b_n (n_n (w_reg (s_q rfl rfl (q_add rfl rfl rfl) ?_))))
            refine s_q rfl rfl (q_mv (.inl rfl) (is_sc rfl)) ?_
            refine s_nil (n_n ?_)
            have hw : IntKind.i64.wrap ((i : Int) + 1) = ((i + 1 : Nat) : Int) := wrap_nat (by omega)
            refine ⟨⟨i + 1, n * m + (digV s[i] : Int), c, hlt, by omega, by omega, hc, hd3, ⟨rfl, rfl, rfl, rfl, rfl, rfl, rfl, i64_eq hw, trivial⟩, rfl⟩, ?_⟩
            show s.length - (IntKind.i64.wrap ((i : Int) + 1)).toNat < s.length - (i : Int).toNat
            rw [hw]; omega
          · have g117 : ¬ s[i].toNat ≤ 57 := by have := of_decide_eq_false h117; omega
            refine w_seq (w_reg (s_q rfl rfl (q_mv (.inl rfl) (is_sc rfl)) ?_))
            refine s_q rfl rfl (q_call rfl rfl rfl rfl (pf_lowO s[i])) ?_
            refine s_q rfl rfl (q_as (bl_yes (show (97 : Int) ≤ (lowO s[i] : Int) by omega)) (q_leq rfl rfl rfl)) ?_
            refine s_q rfl rfl (q_mv (.inl rfl) (is_sc rfl)) ?_
            refine s_q rfl rfl (q_mv (.inl rfl) (is_sc rfl)) ?_
            refine s_q rfl rfl (q_call rfl rfl rfl rfl (pf_lowO s[i])) ?_
            refine s_q rfl rfl (q_as (bl_yes (show (lowO s[i] : Int) ≤ (122 : Int) by omega)) (q_leq rfl rfl rfl)) ?_
            refine s_q rfl rfl (q_pickT rfl rfl (is_sc rfl)) ?_
            refine s_q rfl rfl (q_mv (.inr rfl) (is_sc rfl)) ?_
            refine s_nil (n_n (w_ifT rfl (w_reg (s_q rfl rfl (q_mv (.inl rfl) (is_sc rfl)) ?_))))
            refine s_q rfl rfl (q_call rfl rfl rfl rfl (pf_lowO s[i])) ?_
            refine s_q rfl rfl (q_as (u8_eq (u8_wrap (by omega) (by omega))) (q_sub rfl rfl rfl)) ?_
            refine s_q rfl rfl (q_as (u8_eq (show _ = (digV s[i] : Int) by rw [u8_wrap (by omega) (by omega)]; omega)) (q_add rfl rfl rfl)) ?_
            refine s_q rfl rfl (q_mv (.inr rfl) (is_sc rfl)) ?_
            refine s_nil (b_n (n_n (w_seq (w_seq (w_reg (s_q rfl rfl (q_mv (.inl rfl) (is_sc rfl)) ?_))))))
            refine s_q rfl rfl (q_mv (.inl rfl) (is_sc rfl)) ?_
            refine s_q rfl rfl (q_as (u8_eq (u8_wrap (by omega) (by omega))) (q_cii rfl rfl)) ?_
            refine s_q rfl rfl (q_as (bl_no (show ¬ m ≤ (digV s[i] : Int) by omega)) (q_geq rfl rfl rfl)) ?_
            refine s_nil (n_n (w_ifF rfl (w_skip (n_n (w_seq (w_seq (w_reg (s_q rfl rfl (q_mv (.inl rfl) (is_sc rfl)) ?_))))))))
            refine s_q rfl rfl (q_mv (.inl rfl) (is_sc rfl)) ?_
            refine s_q rfl rfl (q_as (bl_no (show ¬ c ≤ n by omega)) (q_geq rfl rfl rfl)) ?_
            refine s_nil (n_n (w_ifF rfl (w_skip (n_n (w_seq (w_reg (s_q rfl rfl (q_mv (.inl rfl) (is_sc rfl)) ?_)))))))
            refine s_q rfl rfl (q_mv (.inl rfl) (is_sc rfl)) ?_
            refine s_q rfl rfl (q_as (u64_eq (u64_id (by omega) (by omega))) (q_cii rfl rfl)) ?_
            refine s_q rfl rfl (q_as (u64_eq (u64_id (by omega) (by omega))) (q_mul rfl rfl rfl)) ?_
            refine s_q rfl rfl (q_mv (.inr rfl) (is_sc rfl)) ?_
            refine s_nil (n_n (w_seq (w_reg (s_q rfl rfl (q_mv (.inl rfl) (is_sc rfl)) ?_))))
            refine s_q rfl rfl (q_mv (.inl rfl) (is_sc rfl)) ?_
            refine s_q rfl rfl (q_as (u64_eq (u64_id (by omega) (by omega))) (q_cii rfl rfl)) ?_
            refine s_q rfl rfl (q_as (u64_eq (u64_id (by omega) (by omega))) (q_add rfl rfl rfl)) ?_
            refine s_q rfl rfl (q_mv (.inr rfl) (is_sc rfl)) ?_
            refine s_nil (n_n (w_seq (w_seq (w_reg (s_q rfl rfl (q_mv (.inl rfl) (is_sc rfl)) ?_)))))
            refine s_q rfl rfl (q_mv (.inl rfl) (is_sc rfl)) ?_
            refine s_q rfl rfl (q_as (bl_no (show ¬ n * m + (digV s[i] : Int) < n * m by omega)) (q_lss rfl rfl rfl)) ?_
            refine s_q rfl rfl (q_mv (.inl rfl) (is_sc rfl)) ?_
            refine s_q rfl rfl (q_mv (.inl rfl) (is_sc rfl)) ?_
            refine s_q rfl rfl (q_mv (.inl rfl) (is_sc rfl)) ?_
            refine s_q rfl rfl (q_as (bl_no (show ¬ (18446744073709551615 : Int) < n * m + (digV s[i] : Int) by omega)) (q_gtr rfl rfl rfl)) ?_
            refine s_q rfl rfl (q_pickF rfl rfl (is_sc rfl)) ?_
            refine s_nil (n_n (w_ifF rfl (w_skip (n_n (w_reg (s_q rfl rfl (q_mv (.inl rfl) (is_sc rfl)) ?_))))))
            refine s_q rfl rfl (q_mv (.inr rfl) (is_sc rfl)) ?_
            refine s_nil (b_n (n_n (w_reg (s_q rfl rfl (q_add rfl rfl rfl) ?_))))
            refine s_q rfl rfl (q_mv (.inl rfl) (is_sc rfl)) ?_
            refine s_nil (n_n ?_)
            have hw : IntKind.i64.wrap ((i : Int) + 1) = ((i + 1 : Nat) : Int) := wrap_nat (by omega)
            refine ⟨⟨i + 1, n * m + (digV s[i] : Int), c, hlt, by omega, by omega, hc, hd3, ⟨rfl, rfl, rfl, rfl, rfl, rfl, rfl, i64_eq hw, trivial⟩, rfl⟩, ?_⟩
            show s.length - (IntKind.i64.wrap ((i : Int) + 1)).toNat < s.length - (i : Int).toNat
            rw [hw]; omega
        · have g114 : ¬ 48 ≤ s[i].toNat := by have := of_decide_eq_false h114; omega
          refine s_off rfl rfl ?_
          refine s_off rfl rfl ?_
          refine s_q rfl rfl (q_pickF rfl rfl (is_sc rfl)) ?_
          refine s_q rfl rfl (q_mv (.inr rfl) (is_sc rfl)) ?_
          refine s_nil (n_n (w_ifF rfl (w_seq (w_reg (s_q rfl rfl (q_mv (.inl rfl) (is_sc rfl)) ?_)))))
          refine s_q rfl rfl (q_call rfl rfl rfl rfl (pf_lowO s[i])) ?_
          refine s_q rfl rfl (q_as (bl_yes (show (97 : Int) ≤ (lowO s[i] : Int) by omega)) (q_leq rfl rfl rfl)) ?_
          refine s_q rfl rfl (q_mv (.inl rfl) (is_sc rfl)) ?_
          refine s_q rfl rfl (q_mv (.inl rfl) (is_sc rfl)) ?_
          refine s_q rfl rfl (q_call rfl rfl rfl rfl (pf_lowO s[i])) ?_
          refine s_q rfl rfl (q_as (bl_yes (show (lowO s[i] : Int) ≤ (122 : Int) by omega)) (q_leq rfl rfl rfl)) ?_
          refine s_q rfl rfl (q_pickT rfl rfl (is_sc rfl)) ?_
          refine s_q rfl rfl (q_mv (.inr rfl) (is_sc rfl)) ?_
          refine s_nil (n_n (w_ifT rfl (w_reg (s_q rfl rfl (q_mv (.inl rfl) (is_sc rfl)) ?_))))
          refine s_q rfl rfl (q_call rfl rfl rfl rfl (pf_lowO s[i])) ?_
          refine s_q rfl rfl (q_as (u8_eq (u8_wrap (by omega) (by omega))) (q_sub rfl rfl rfl)) ?_
          refine s_q rfl rfl (q_as (u8_eq (show _ = (digV s[i] : Int) by rw [u8_wrap (by omega) (by omega)]; omega)) (q_add rfl rfl rfl)) ?_
          refine s_q rfl rfl (q_mv (.inr rfl) (is_sc rfl)) ?_
          refine s_nil (b_n (n_n (w_seq (w_seq (w_reg (s_q rfl rfl (q_mv (.inl rfl) (is_sc rfl)) ?_))))))
          refine s_q rfl rfl (q_mv (.inl rfl) (is_sc rfl)) ?_
          refine s_q rfl rfl (q_as (u8_eq (u8_wrap (by omega) (by omega))) (q_cii rfl rfl)) ?_
          refine s_q rfl rfl (q_as (bl_no (show ¬ m ≤ (digV s[i] : Int) by omega)) (q_geq rfl rfl rfl)) ?_
          refine s_nil (n_n (w_ifF rfl (w_skip (n_n (w_seq (w_seq (w_reg (s_q rfl rfl (q_mv (.inl rfl) (is_sc rfl)) ?_))))))))
          refine s_q rfl rfl (q_mv (.inl rfl) (is_sc rfl)) ?_
          refine s_q rfl rfl (q_as (bl_no (show ¬ c ≤ n by omega)) (q_geq rfl rfl rfl)) ?_
          refine s_nil (n_n (w_ifF rfl (w_skip (n_n (w_seq (w_reg (s_q rfl rfl (q_mv (.inl rfl) (is_sc rfl)) ?_)))))))
          refine s_q rfl rfl (q_mv (.inl rfl) (is_sc rfl)) ?_
          refine s_q rfl rfl (q_as (u64_eq (u64_id (by omega) (by omega))) (q_cii rfl rfl)) ?_
          refine s_q rfl rfl (q_as (u64_eq (u64_id (by omega) (by omega))) (q_mul rfl rfl rfl)) ?_
          refine s_q rfl rfl (q_mv (.inr rfl) (is_sc rfl)) ?_
          refine s_nil (n_n (w_seq (w_reg (s_q rfl rfl (q_mv (.inl rfl) (is_sc rfl)) ?_))))
          refine s_q rfl rfl (q_mv (.inl rfl) (is_sc rfl)) ?_
          refine s_q rfl rfl (q_as (u64_eq (u64_id (by omega) (by omega))) (q_cii rfl rfl)) ?_
          refine s_q rfl rfl (q_as (u64_eq (u64_id (by omega) (by omega))) (q_add rfl rfl rfl)) ?_
          refine s_q rfl rfl (q_mv (.inr rfl) (is_sc rfl)) ?_
          refine s_nil (n_n (w_seq (w_seq (w_reg (s_q rfl rfl (q_mv (.inl rfl) (is_sc rfl)) ?_)))))
          refine s_q rfl rfl (q_mv (.inl rfl) (is_sc rfl)) ?_
          refine s_q rfl rfl (q_as (bl_no (show ¬ n * m + (digV s[i] : Int) < n * m by omega)) (q_lss rfl rfl rfl)) ?_
          refine s_q rfl rfl (q_mv (.inl rfl) (is_sc rfl)) ?_
          refine s_q rfl rfl (q_mv (.inl rfl) (is_sc rfl)) ?_
          refine s_q rfl rfl (q_mv (.inl rfl) (is_sc rfl)) ?_
          refine s_q rfl rfl (q_as (bl_no (show ¬ (18446744073709551615 : Int) < n * m + (digV s[i] : Int) by omega)) (q_gtr rfl rfl rfl)) ?_
          refine s_q rfl rfl (q_pickF rfl rfl (is_sc rfl)) ?_
          refine s_nil (n_n (w_ifF rfl (w_skip (n_n (w_reg (s_q rfl rfl (q_mv (.inl rfl) (is_sc rfl)) ?_))))))
          refine s_q rfl rfl (q_mv (.inr rfl) (is_sc rfl)) ?_
          refine s_nil (b_n (n_n (w_reg (s_q rfl rfl (q_add rfl rfl rfl) ?_))))
          refine s_q rfl rfl (q_mv (.inl rfl) (is_sc rfl)) ?_
          refine s_nil (n_n ?_)
          have hw : IntKind.i64.wrap ((i : Int) + 1) = ((i + 1 : Nat) : Int) := wrap_nat (by omega)
          refine ⟨⟨i + 1, n * m + (digV s[i] : Int), c, hlt, by omega, by omega, hc, hd3, ⟨rfl, rfl, rfl, rfl, rfl, rfl, rfl, i64_eq hw, trivial⟩, rfl⟩, ?_⟩
          show s.length - (IntKind.i64.wrap ((i : Int) + 1)).toNat < s.length - (i : Int).toNat
          rw [hw]; omega
      · have hge : s.length ≤ i := by have := of_decide_eq_false h102; omega
        refine w_exit (n_e (n_e (b_hit (n_n (w_seq (w_seq (w_reg (s_q rfl rfl (q_as (rfl) (q_mv (.inl rfl) (is_sc rfl))) ?_))))))))
        refine s_q rfl rfl (q_mv (.inl rfl) (is_sc rfl)) ?_
        refine s_off rfl rfl ?_
        refine s_off rfl rfl ?_
        refine s_off rfl rfl ?_
        refine s_q rfl rfl (q_pickF rfl rfl (is_sc rfl)) ?_
        refine s_nil (n_n (w_ifF rfl (w_skip (n_n (w_seq (w_reg (s_q rfl rfl (q_mv (.inl rfl) (is_sc rfl)) ?_)))))))
        refine s_q rfl rfl (q_mv (.inr rfl) (is_sc rfl)) ?_
        refine s_q rfl rfl (q_mv (.inr rfl) (by first | exact is_ifc rfl | exact is_sc rfl | exact rfl)) ?_
        refine s_nil (n_n (w_ret ?_))
        -- end 0
        refine r_r (ra_tmp (is_sc rfl) (ra_tmp (by first | exact is_ifc rfl | exact is_sc rfl | exact rfl) ra_nil)) (by exact (rfl : _ = D.tup [_, _])) (by exact rfl) sub_no ?_
        rw [dec_end hge] at hD
        cases hD; rfl
  · refine w_seq (w_reg (s_q rfl rfl (q_eql rfl rfl rfl) ?_))
    refine s_q rfl rfl (q_mv (.inr rfl) (is_sc rfl)) ?_
    refine s_nil (n_n (w_if (is_scb rfl) (fun h2 => ?_) (fun h2 => ?_)))
    · refine w_reg (s_q rfl rfl (q_mv (.inr rfl) (is_sc rfl)) ?_)
      refine s_nil (b_n (n_n (w_seq (w_reg (s_q rfl rfl (q_mv (.inl rfl) (is_sc rfl)) ?_)))))
      refine s_q rfl rfl (q_as (u64_eq (by decide : _ = (64 : Int))) (q_cii rfl rfl)) ?_
      refine s_q rfl rfl (q_as (u64_eq (by decide : _ = (0 : Int))) (q_shl rfl rfl rfl (by decide))) ?_
      refine s_q rfl rfl (q_as (u64_eq (by decide : _ = (18446744073709551615 : Int))) (q_sub rfl rfl rfl)) ?_
      refine s_q rfl rfl (q_mv (.inr rfl) (is_sc rfl)) ?_
      refine s_nil (n_n (w_seq (w_reg (s_q rfl rfl (q_mv (.inr rfl) (is_sc rfl)) ?_))))
      refine s_nil (n_n (w_seq (w_reg (s_q rfl rfl (q_mv (.inr rfl) (is_sc rfl)) ?_))))
      refine s_nil (n_n (w_seq (w_seq (w_reg (s_q rfl rfl (q_mv (.inl rfl) (is_sc rfl)) ?_)))))
      refine s_q rfl rfl (q_bytesIm rfl rfl) ?_
      refine s_q rfl rfl (q_len rfl rfl rfl) ?_
      refine s_q rfl rfl (q_mv (.inl rfl) (is_sc rfl)) ?_
      refine s_nil (n_n (w_block ?_))
      refine w_loop (fun env A => ∃ (i : Nat) (n c : Int), i ≤ s.length ∧ 0 ≤ n ∧ n ≤ 99999999999 ∧ 99999999999 < c ∧ decL m (s.drop i) i n = some N ∧ Binds env [(1, i64 m), (10, u64 c), (11, u64 18446744073709551615), (12, bl false), (13, u64 n), (99, .im (bc s) s.length), (100, i64 s.length), (101, i64 i)] ∧ A = AH.start noHeap) (fun env _ => s.length - ctr (env 101)) ?_ ?_
      · refine ⟨0, 0, _, Nat.zero_le _, by omega, by omega, ?_, by simpa using hD, ⟨rfl, rfl, rfl, rfl, rfl, rfl, rfl, rfl, trivial⟩, rfl⟩
        first | decide | (have := (cutoff_ok hm).1; omega)
      · rintro env A ⟨i, n, c, hi, hn0, hn1, hc, hD, hB, rfl⟩
        rw [hB.eq]; clear hB
        refine w_seq (w_reg (s_q rfl rfl (q_lss rfl rfl rfl) ?_))
        refine s_nil (n_n (w_seq (w_if (is_scb rfl) (fun h102 => ?_) (fun h102 => ?_))))
        · have hlt : i < s.length := by have := of_decide_eq_true h102; omega
          obtain ⟨hd1, hd2, hd3⟩ := dec_some_step hlt hD
          unfold decBad at hd1
          have hd4 : ¬ digV s[i] = 36 := fun e => hd1 (.inl e)
          have hd5 : ¬ m ≤ (digV s[i] : Int) := fun e => hd1 (.inr (.inr e))
          have hdf := dig_form s[i] hd4
          have hds := dig_sign hd4
          have hdl := dig_le s[i]
          have hmul := dec_mul hn0 hn1 hm
          refine w_skip (n_n (w_seq (w_block (w_seq (w_reg (s_q rfl rfl (q_index rfl rfl rfl rfl (Int.natCast_nonneg _) (by omega)) ?_))))))
          refine s_q rfl rfl (q_loadPin rfl rfl (take_map (fun (b : UInt8) => D.sc (.int .u8 (b.toNat : Int))) hlt)) ?_
          refine s_q rfl rfl (q_mv (.inr rfl) (is_sc rfl)) ?_
          refine s_nil (n_n (w_seq (w_reg (s_q rfl rfl (q_mv (.inr rfl) (is_sc rfl)) ?_))))
          refine s_nil (n_n (w_seq (w_block (w_seq (w_reg (s_q rfl rfl (q_mv (.inl rfl) (is_sc rfl)) ?_))))))
          refine s_q rfl rfl (q_as (bl_no (show ¬ (s[i].toNat : Int) = 95 by omega)) (q_eql rfl rfl rfl)) ?_
          refine s_q rfl rfl (q_mv (.inl rfl) (is_sc rfl)) ?_
          refine s_off rfl rfl ?_
          refine s_q rfl rfl (q_pickF rfl rfl (is_sc rfl)) ?_
          refine s_q rfl rfl (q_mv (.inr rfl) (is_sc rfl)) ?_
          refine s_nil (n_n (w_ifF rfl (w_seq (w_reg (s_q rfl rfl (q_mv (.inl rfl) (is_sc rfl)) ?_)))))
          refine s_q rfl rfl (q_leq rfl rfl rfl) ?_
          refine s_q rfl rfl (q_mv (.inl rfl) (is_sc rfl)) ?_
          refine s_split 115 (is_scb rfl) (fun h114 => ?_) (fun h114 => ?_)
          · have g114 : 48 ≤ s[i].toNat := by have := of_decide_eq_true h114; omega
            refine s_q rfl rfl (q_mv (.inl rfl) (is_sc rfl)) ?_
            refine s_q rfl rfl (q_leq rfl rfl rfl) ?_
            refine s_q rfl rfl (q_pickT rfl rfl (is_sc rfl)) ?_
            refine s_q rfl rfl (q_mv (.inr rfl) (is_sc rfl)) ?_
            refine s_nil (n_n (w_if (is_scb rfl) (fun h117 => ?_) (fun h117 => ?_)))
            · have g117 : s[i].toNat ≤ 57 := by have := of_decide_eq_true h117; omega
              refine w_reg (s_q rfl rfl (q_mv (.inl rfl) (is_sc rfl)) ?_)
              refine s_q rfl rfl (q_as (u8_eq (show _ = (digV s[i] : Int) by rw [u8_wrap (by omega) (by omega)]; omega)) (q_sub rfl rfl rfl)) ?_
              refine s_q rfl rfl (q_mv (.inr rfl) (is_sc rfl)) ?_
              refine s_nil (b_n (n_n (w_seq (w_seq (w_reg (s_q rfl rfl (q_mv (.inl rfl) (is_sc rfl)) ?_))))))
              refine s_q rfl rfl (q_mv (.inl rfl) (is_sc rfl)) ?_
              refine s_q rfl rfl (q_as (u8_eq (u8_wrap (by omega) (by omega))) (q_cii rfl rfl)) ?_
              refine s_q rfl rfl (q_as (bl_no (show ¬ m ≤ (digV s[i] : Int) by omega)) (q_geq rfl rfl rfl)) ?_
              refine s_nil (n_n (w_ifF rfl (w_skip (n_n (w_seq (w_seq (w_reg (s_q rfl rfl (q_mv (.inl rfl) (is_sc rfl)) ?_))))))))
              refine s_q rfl rfl (q_mv (.inl rfl) (is_sc rfl)) ?_
              refine s_q rfl rfl (q_as (bl_no (show ¬ c ≤ n by omega)) (q_geq rfl rfl rfl)) ?_
              refine s_nil (n_n (w_ifF rfl (w_skip (n_n (w_seq (w_reg (s_q rfl rfl (q_mv (.inl rfl) (is_sc rfl)) ?_)))))))
              refine s_q rfl rfl (q_mv (.inl rfl) (is_sc rfl)) ?_
              refine s_q rfl rfl (q_as (u64_eq (u64_id (by omega) (by omega))) (q_cii rfl rfl)) ?_
              refine s_q rfl rfl (q_as (u64_eq (u64_id (by omega) (by omega))) (q_mul rfl rfl rfl)) ?_
              refine s_q rfl rfl (q_mv (.inr rfl) (is_sc rfl)) ?_
              refine s_nil (n_n (w_seq (w_reg (s_q rfl rfl (q_mv (.inl rfl) (is_sc rfl)) ?_))))
              refine s_q rfl rfl (q_mv (.inl rfl) (is_sc rfl)) ?_
              refine s_q rfl rfl (q_as (u64_eq (u64_id (by omega) (by omega))) (q_cii rfl rfl)) ?_
              refine s_q rfl rfl (q_as (u64_eq (u64_id (by omega) (by omega))) (q_add rfl rfl rfl)) ?_
              refine s_q rfl rfl (q_mv (.inr rfl) (is_sc rfl)) ?_
              refine s_nil (n_n (w_seq (w_seq (w_reg (s_q rfl rfl (q_mv (.inl rfl) (is_sc rfl)) ?_)))))
              refine s_q rfl rfl (q_mv (.inl rfl) (is_sc rfl)) ?_
              refine s_q rfl rfl (q_as (bl_no (show ¬ n * m + (digV s[i] : Int) < n * m by omega)) (q_lss rfl rfl rfl)) ?_
              refine s_q rfl rfl (q_mv (.inl rfl) (is_sc rfl)) ?_
              refine s_q rfl rfl (q_mv (.inl rfl) (is_sc rfl)) ?_
              refine s_q rfl rfl (q_mv (.inl rfl) (is_sc rfl)) ?_
              refine s_q rfl rfl (q_as (bl_no (show ¬ (18446744073709551615 : Int) < n * m + (digV s[i] : Int) by omega)) (q_gtr rfl rfl rfl)) ?_
              refine s_q rfl rfl (q_pickF rfl rfl (is_sc rfl)) ?_
              refine s_nil (n_n (w_ifF rfl (w_skip (n_n (w_reg (s_q rfl rfl (q_mv (.inl rfl) (is_sc rfl)) ?_))))))
              refine s_q rfl rfl (q_mv (.inr rfl) (is_sc rfl)) ?_
              refine s_nil (b_n (n_n (w_reg (s_q rfl rfl (q_add rfl rfl rfl) ?_))))
              refine s_q rfl rfl (q_mv (.inl rfl) (is_sc rfl)) ?_
              refine s_nil (n_n ?_)
              have hw : IntKind.i64.wrap ((i : Int) + 1) = ((i + 1 : Nat) : Int) := wrap_nat (by omega)
              refine ⟨⟨i + 1, n * m + (digV s[i] : Int), c, hlt, by omega, by omega, hc, hd3, ⟨rfl, rfl, rfl, rfl, rfl, rfl, rfl, i64_eq hw, trivial⟩, rfl⟩, ?_⟩
              show s.length - (IntKind.i64.wrap ((i : Int) + 1)).toNat < s.length - (i : Int).toNat
              rw [hw]; omega
            · have g117 : ¬ s[i].toNat ≤ 57 := by have := of_decide_eq_false h117; omega
              refine w_seq (w_reg (s_q rfl rfl (q_mv (.inl rfl) (is_sc rfl)) ?_))
              refine s_q rfl rfl (q_call rfl rfl rfl rfl (pf_lowO s[i])) ?_
              refine s_q rfl rfl (q_as (bl_yes (show (97 : Int) ≤ (lowO s[i] : Int) by omega)) (q_leq rfl rfl rfl)) ?_
              refine s_q rfl rfl (q_mv (.inl rfl) (is_sc rfl)) ?_
              refine s_q rfl rfl (q_mv (.inl rfl) (is_sc rfl)) ?_
              refine s_q rfl rfl (q_call rfl rfl rfl rfl (pf_lowO s[i])) ?_
              refine s_q rfl rfl (q_as (bl_yes (show (lowO s[i] : Int) ≤ (122 : Int) by omega)) (q_leq rfl rfl rfl)) ?_
              refine s_q rfl rfl (q_pickT rfl rfl (is_sc rfl)) ?_
              refine s_q rfl rfl (q_mv (.inr rfl) (is_sc rfl)) ?_
              refine s_nil (n_n (w_ifT rfl (w_reg (s_q rfl rfl (q_mv (.inl rfl) (is_sc rfl)) ?_))))
              refine s_q rfl rfl (q_call rfl rfl rfl rfl (pf_lowO s[i])) ?_
              refine s_q rfl rfl (q_as (u8_eq (u8_wrap (by omega) (by omega))) (q_sub rfl rfl rfl)) ?_
              refine s_q rfl rfl (q_as (u8_eq (show _ = (digV s[i] : Int) by rw [u8_wrap (by omega) (by omega)]; omega)) (q_add rfl rfl rfl)) ?_
              refine s_q rfl rfl (q_mv (.inr rfl) (is_sc rfl)) ?_
              refine s_nil (b_n (n_n (w_seq (w_seq (w_reg (s_q rfl rfl (q_mv (.inl rfl) (is_sc rfl)) ?_))))))
              refine s_q rfl rfl (q_mv (.inl rfl) (is_sc rfl)) ?_
              refine s_q rfl rfl (q_as (u8_eq (u8_wrap (by omega) (by omega))) (q_cii rfl rfl)) ?_
              refine s_q rfl rfl (q_as (bl_no (show ¬ m ≤ (digV s[i] : Int) by omega)) (q_geq rfl rfl rfl)) ?_
              refine s_nil (n_n (w_ifF rfl (w_skip (n_n (w_seq (w_seq (w_reg (s_q rfl rfl (q_mv (.inl rfl) (is_sc rfl)) ?_))))))))
              refine s_q rfl rfl (q_mv (.inl rfl) (is_sc rfl)) ?_
              refine s_q rfl rfl (q_as (bl_no (show ¬ c ≤ n by omega)) (q_geq rfl rfl rfl)) ?_
              refine s_nil (n_n (w_ifF rfl (w_skip (n_n (w_seq (w_reg (s_q rfl rfl (q_mv (.inl rfl) (is_sc rfl)) ?_)))))))
              refine s_q rfl rfl (q_mv (.inl rfl) (is_sc rfl)) ?_
              refine s_q rfl rfl (q_as (u64_eq (u64_id (by omega) (by omega))) (q_cii rfl rfl)) ?_
              refine s_q rfl rfl (q_as (u64_eq (u64_id (by omega) (by omega))) (q_mul rfl rfl rfl)) ?_
              refine s_q rfl rfl (q_mv (.inr rfl) (is_sc rfl)) ?_
              refine s_nil (n_n (w_seq (w_reg (s_q rfl rfl (q_mv (.inl rfl) (is_sc rfl)) ?_))))
              refine s_q rfl rfl (q_mv (.inl rfl) (is_sc rfl)) ?_
              refine s_q rfl rfl (q_as (u64_eq (u64_id (by omega) (by omega))) (q_cii rfl rfl)) ?_
              refine s_q rfl rfl (q_as (u64_eq (u64_id (by omega) (by omega))) (q_add rfl rfl rfl)) ?_
              refine s_q rfl rfl (q_mv (.inr rfl) (is_sc rfl)) ?_
              refine s_nil (n_n (w_seq (w_seq (w_reg (s_q rfl rfl (q_mv (.inl rfl) (is_sc rfl)) ?_)))))
              refine s_q rfl rfl (q_mv (.inl rfl) (is_sc rfl)) ?_
              refine s_q rfl rfl (q_as (bl_no (show ¬ n * m + (digV s[i] : Int) < n * m by omega)) (q_lss rfl rfl rfl)) ?_
              refine s_q rfl rfl (q_mv (.inl rfl) (is_sc rfl)) ?_
              refine s_q rfl rfl (q_mv (.inl rfl) (is_sc rfl)) ?_
              refine s_q rfl rfl (q_mv (.inl rfl) (is_sc rfl)) ?_
              refine s_q rfl rfl (q_as (bl_no (show ¬ (18446744073709551615 : Int) < n * m + (digV s[i] : Int) by omega)) (q_gtr rfl rfl rfl)) ?_
              refine s_q rfl rfl (q_pickF rfl rfl (is_sc rfl)) ?_
              refine s_nil (n_n (w_ifF rfl (w_skip (n_n (w_reg (s_q rfl rfl (q_mv (.inl rfl) (is_sc rfl)) ?_))))))
              refine s_q rfl rfl (q_mv (.inr rfl) (is_sc rfl)) ?_
              refine s_nil (b_n (n_n (w_reg (s_q rfl rfl (q_add rfl rfl rfl) ?_))))
              refine s_q rfl rfl (q_mv (.inl rfl) (is_sc rfl)) ?_
              refine s_nil (n_n ?_)
              have hw : IntKind.i64.wrap ((i : Int) + 1) = ((i + 1 : Nat) : Int) := wrap_nat (by omega)
              refine ⟨⟨i + 1, n * m + (digV s[i] : Int), c, hlt, by omega, by omega, hc, hd3, ⟨rfl, rfl, rfl, rfl, rfl, rfl, rfl, i64_eq hw, trivial⟩, rfl⟩, ?_⟩
              show s.length - (IntKind.i64.wrap ((i : Int) + 1)).toNat < s.length - (i : Int).toNat
              rw [hw]; omega
          · have g114 : ¬ 48 ≤ s[i].toNat := by have := of_decide_eq_false h114; omega
            refine s_off rfl rfl ?_
            refine s_off rfl rfl ?_
            refine s_q rfl rfl (q_pickF rfl rfl (is_sc rfl)) ?_
            refine s_q rfl rfl (q_mv (.inr rfl) (is_sc rfl)) ?_
            refine s_nil (n_n (w_ifF rfl (w_seq (w_reg (s_q rfl rfl (q_mv (.inl rfl) (is_sc rfl)) ?_)))))
            refine s_q rfl rfl (q_call rfl rfl rfl rfl (pf_lowO s[i])) ?_
            refine s_q rfl rfl (q_as (bl_yes (show (97 : Int) ≤ (lowO s[i] : Int) by omega)) (q_leq rfl rfl rfl)) ?_
            refine s_q rfl rfl (q_mv (.inl rfl) (is_sc rfl)) ?_
            refine s_q rfl rfl (q_mv (.inl rfl) (is_sc rfl)) ?_
            refine s_q rfl rfl (q_call rfl rfl rfl rfl (pf_lowO s[i])) ?_
            refine s_q rfl rfl (q_as (bl_yes (show (lowO s[i] : Int) ≤ (122 : Int) by omega)) (q_leq rfl rfl rfl)) ?_
            refine s_q rfl rfl (q_pickT rfl rfl (is_sc rfl)) ?_
            refine s_q rfl rfl (q_mv (.inr rfl) (is_sc rfl)) ?_
            refine s_nil (n_n (w_ifT rfl (w_reg (s_q rfl rfl (q_mv (.inl rfl) (is_sc rfl)) ?_))))
            refine s_q rfl rfl (q_call rfl rfl rfl rfl (pf_lowO s[i])) ?_
            refine s_q rfl rfl (q_as (u8_eq (u8_wrap (by omega) (by omega))) (q_sub rfl rfl rfl)) ?_
            refine s_q rfl rfl (q_as (u8_eq (show _ = (digV s[i] : Int) by rw [u8_wrap (by omega) (by omega)]; omega)) (q_add rfl rfl rfl)) ?_
            refine s_q rfl rfl (q_mv (.inr rfl) (is_sc rfl)) ?_
            refine s_nil (b_n (n_n (w_seq (w_seq (w_reg (s_q rfl rfl (q_mv (.inl rfl) (is_sc rfl)) ?_))))))
            refine s_q rfl rfl (q_mv (.inl rfl) (is_sc rfl)) ?_
            refine s_q rfl rfl (q_as (u8_eq (u8_wrap (by omega) (by omega))) (q_cii rfl rfl)) ?_
            refine s_q rfl rfl (q_as (bl_no (show ¬ m ≤ (digV s[i] : Int) by omega)) (q_geq rfl rfl rfl)) ?_
            refine s_nil (n_n (w_ifF rfl (w_skip (n_n (w_seq (w_seq (w_reg (s_q rfl rfl (q_mv (.inl rfl) (is_sc rfl)) ?_))))))))
            refine s_q rfl rfl (q_mv (.inl rfl) (is_sc rfl)) ?_
            refine s_q rfl rfl (q_as (bl_no (show ¬ c ≤ n by omega)) (q_geq rfl rfl rfl)) ?_
            refine s_nil (n_n (w_ifF rfl (w_skip (n_n (w_seq (w_reg (s_q rfl rfl (q_mv (.inl rfl) (is_sc rfl)) ?_)))))))
            refine s_q rfl rfl (q_mv (.inl rfl) (is_sc rfl)) ?_
            refine s_q rfl rfl (q_as (u64_eq (u64_id (by omega) (by omega))) (q_cii rfl rfl)) ?_
            refine s_q rfl rfl (q_as (u64_eq (u64_id (by omega) (by omega))) (q_mul rfl rfl rfl)) ?_
            refine s_q rfl rfl (q_mv (.inr rfl) (is_sc rfl)) ?_
            refine s_nil (n_n (w_seq (w_reg (s_q rfl rfl (q_mv (.inl rfl) (is_sc rfl)) ?_))))
            refine s_q rfl rfl (q_mv (.inl rfl) (is_sc rfl)) ?_
            refine s_q rfl rfl (q_as (u64_eq (u64_id (by omega) (by omega))) (q_cii rfl rfl)) ?_
            refine s_q rfl rfl (q_as (u64_eq (u64_id (by omega) (by omega))) (q_add rfl rfl rfl)) ?_
            refine s_q rfl rfl (q_mv (.inr rfl) (is_sc rfl)) ?_
            refine s_nil (n_n (w_seq (w_seq (w_reg (s_q rfl rfl (q_mv (.inl rfl) (is_sc rfl)) ?_)))))
            refine s_q rfl rfl (q_mv (.inl rfl) (is_sc rfl)) ?_
            refine s_q rfl rfl (q_as (bl_no (show ¬ n * m + (digV s[i] : Int) < n * m by omega)) (q_lss rfl rfl rfl)) ?_
            refine s_q rfl rfl (q_mv (.inl rfl) (is_sc rfl)) ?_
            refine s_q rfl rfl (q_mv (.inl rfl) (is_sc rfl)) ?_
            refine s_q rfl rfl (q_mv (.inl rfl) (is_sc rfl)) ?_
            refine s_q rfl rfl (q_as (bl_no (show ¬ (18446744073709551615 : Int) < n * m + (digV s[i] : Int) by omega)) (q_gtr rfl rfl rfl)) ?_
            refine s_q rfl rfl (q_pickF rfl rfl (is_sc rfl)) ?_
            refine s_nil (n_n (w_ifF rfl (w_skip (n_n (w_reg (s_q rfl rfl (q_mv (.inl rfl) (is_sc rfl)) ?_))))))
            refine s_q rfl rfl (q_mv (.inr rfl) (is_sc rfl)) ?_
            refine s_nil (b_n (n_n (w_reg (s_q rfl rfl (q_add rfl rfl rfl) ?_))))
            refine s_q rfl rfl (q_mv (.inl rfl) (is_sc rfl)) ?_
            refine s_nil (n_n ?_)
            have hw : IntKind.i64.wrap ((i : Int) + 1) = ((i + 1 : Nat) : Int) := wrap_nat (by omega)
            refine ⟨⟨i + 1, n * m + (digV s[i] : Int), c, hlt, by omega, by omega, hc, hd3, ⟨rfl, rfl, rfl, rfl, rfl, rfl, rfl, i64_eq hw, trivial⟩, rfl⟩, ?_⟩
            show s.length - (IntKind.i64.wrap ((i : Int) + 1)).toNat < s.length - (i : Int).toNat
            rw [hw]; omega
        · have hge : s.length ≤ i := by have := of_decide_eq_false h102; omega
          refine w_exit (n_e (n_e (b_hit (n_n (w_seq (w_seq (w_reg (s_q rfl rfl (q_as (rfl) (q_mv (.inl rfl) (is_sc rfl))) ?_))))))))
          refine s_q rfl rfl (q_mv (.inl rfl) (is_sc rfl)) ?_
          refine s_off rfl rfl ?_
          refine s_off rfl rfl ?_
          refine s_off rfl rfl ?_
          refine s_q rfl rfl (q_pickF rfl rfl (is_sc rfl)) ?_
          refine s_nil (n_n (w_ifF rfl (w_skip (n_n (w_seq (w_reg (s_q rfl rfl (q_mv (.inl rfl) (is_sc rfl)) ?_)))))))
          refine s_q rfl rfl (q_mv (.inr rfl) (is_sc rfl)) ?_
          refine s_q rfl rfl (q_mv (.inr rfl) (by first | exact is_ifc rfl | exact is_sc rfl | exact rfl)) ?_
          refine s_nil (n_n (w_ret ?_))
          -- end 1
          refine r_r (ra_tmp (is_sc rfl) (ra_tmp (by first | exact is_ifc rfl | exact is_sc rfl | exact rfl) ra_nil)) (by exact (rfl : _ = D.tup [_, _])) (by exact rfl) sub_no ?_
          rw [dec_end hge] at hD
          cases hD; rfl
    · refine w_reg (s_q rfl rfl (q_mv (.inl rfl) (is_sc rfl)) ?_)
      refine s_q rfl rfl (q_as (u64_eq (u64_id (by omega) (by omega))) (q_cii rfl rfl)) ?_
      refine s_q rfl rfl (q_as (u64_eq (u64_id (by have := cutoff_ok hm; omega) (by have := cutoff_ok hm; omega))) (q_quo rfl rfl rfl (by omega))) ?_
      refine s_q rfl rfl (q_as (u64_eq (u64_id (by have := cutoff_ok hm; omega) (by have := cutoff_ok hm; omega))) (q_add rfl rfl rfl)) ?_
      refine s_q rfl rfl (q_mv (.inr rfl) (is_sc rfl)) ?_
      refine s_nil (b_n (n_n (w_seq (w_reg (s_q rfl rfl (q_mv (.inl rfl) (is_sc rfl)) ?_)))))
      refine s_q rfl rfl (q_as (u64_eq (by decide : _ = (64 : Int))) (q_cii rfl rfl)) ?_
      refine s_q rfl rfl (q_as (u64_eq (by decide : _ = (0 : Int))) (q_shl rfl rfl rfl (by decide))) ?_
      refine s_q rfl rfl (q_as (u64_eq (by decide : _ = (18446744073709551615 : Int))) (q_sub rfl rfl rfl)) ?_
      refine s_q rfl rfl (q_mv (.inr rfl) (is_sc rfl)) ?_
      refine s_nil (n_n (w_seq (w_reg (s_q rfl rfl (q_mv (.inr rfl) (is_sc rfl)) ?_))))
      refine s_nil (n_n (w_seq (w_reg (s_q rfl rfl (q_mv (.inr rfl) (is_sc rfl)) ?_))))
      refine s_nil (n_n (w_seq (w_seq (w_reg (s_q rfl rfl (q_mv (.inl rfl) (is_sc rfl)) ?_)))))
      refine s_q rfl rfl (q_bytesIm rfl rfl) ?_
      refine s_q rfl rfl (q_len rfl rfl rfl) ?_
      refine s_q rfl rfl (q_mv (.inl rfl) (is_sc rfl)) ?_
      refine s_nil (n_n (w_block ?_))
      refine w_loop (fun env A => ∃ (i : Nat) (n c : Int), i ≤ s.length ∧ 0 ≤ n ∧ n ≤ 99999999999 ∧ 99999999999 < c ∧ decL m (s.drop i) i n = some N ∧ Binds env [(1, i64 m), (10, u64 c), (11, u64 18446744073709551615), (12, bl false), (13, u64 n), (99, .im (bc s) s.length), (100, i64 s.length), (101, i64 i)] ∧ A = AH.start noHeap) (fun env _ => s.length - ctr (env 101)) ?_ ?_
      · refine ⟨0, 0, _, Nat.zero_le _, by omega, by omega, ?_, by simpa using hD, ⟨rfl, rfl, rfl, rfl, rfl, rfl, rfl, rfl, trivial⟩, rfl⟩
        first | decide | (have := (cutoff_ok hm).1; omega)
      · rintro env A ⟨i, n, c, hi, hn0, hn1, hc, hD, hB, rfl⟩
        rw [hB.eq]; clear hB
        refine w_seq (w_reg (s_q rfl rfl (q_lss rfl rfl rfl) ?_))
        refine s_nil (n_n (w_seq (w_if (is_scb rfl) (fun h102 => ?_) (fun h102 => ?_))))
        · have hlt : i < s.length := by have := of_decide_eq_true h102; omega
          obtain ⟨hd1, hd2, hd3⟩ := dec_some_step hlt hD
          unfold decBad at hd1
          have hd4 : ¬ digV s[i] = 36 := fun e => hd1 (.inl e)
          have hd5 : ¬ m ≤ (digV s[i] : Int) := fun e => hd1 (.inr (.inr e))
          have hdf := dig_form s[i] hd4
          have hds := dig_sign hd4
          have hdl := dig_le s[i]
          have hmul := dec_mul hn0 hn1 hm
          refine w_skip (n_n (w_seq (w_block (w_seq (w_reg (s_q rfl rfl (q_index rfl rfl rfl rfl (Int.natCast_nonneg _) (by omega)) ?_))))))
          refine s_q rfl rfl (q_loadPin rfl rfl (take_map (fun (b : UInt8) => D.sc (.int .u8 (b.toNat : Int))) hlt)) ?_
          refine s_q rfl rfl (q_mv (.inr rfl) (is_sc rfl)) ?_
          refine s_nil (n_n (w_seq (w_reg (s_q rfl rfl (q_mv (.inr rfl) (is_sc rfl)) ?_))))
          refine s_nil (n_n (w_seq (w_block (w_seq (w_reg (s_q rfl rfl (q_mv (.inl rfl) (is_sc rfl)) ?_))))))
          refine s_q rfl rfl (q_as (bl_no (show ¬ (s[i].toNat : Int) = 95 by omega)) (q_eql rfl rfl rfl)) ?_
          refine s_q rfl rfl (q_mv (.inl rfl) (is_sc rfl)) ?_
          refine s_off rfl rfl ?_
          refine s_q rfl rfl (q_pickF rfl rfl (is_sc rfl)) ?_
          refine s_q rfl rfl (q_mv (.inr rfl) (is_sc rfl)) ?_
          refine s_nil (n_n (w_ifF rfl (w_seq (w_reg (s_q rfl rfl (q_mv (.inl rfl) (is_sc rfl)) ?_)))))
          refine s_q rfl rfl (q_leq rfl rfl rfl) ?_
          refine s_q rfl rfl (q_mv (.inl rfl) (is_sc rfl)) ?_
          refine s_split 115 (is_scb rfl) (fun h114 => ?_) (fun h114 => ?_)
          · have g114 : 48 ≤ s[i].toNat := by have := of_decide_eq_true h114; omega
            refine s_q rfl rfl (q_mv (.inl rfl) (is_sc rfl)) ?_
            refine s_q rfl rfl (q_leq rfl rfl rfl) ?_
            refine s_q rfl rfl (q_pickT rfl rfl (is_sc rfl)) ?_
            refine s_q rfl rfl (q_mv (.inr rfl) (is_sc rfl)) ?_
            refine s_nil (n_n (w_if (is_scb rfl) (fun h117 => ?_) (fun h117 => ?_)))
            · have g117 : s[i].toNat ≤ 57 := by have := of_decide_eq_true h117; omega
              refine w_reg (s_q rfl rfl (q_mv (.inl rfl) (is_sc rfl)) ?_)
              refine s_q rfl rfl (q_as (u8_eq (show _ = (digV s[i] : Int) by rw [u8_wrap (by omega) (by omega)]; omega)) (q_sub rfl rfl rfl)) ?_
              refine s_q rfl rfl (q_mv (.inr rfl) (is_sc rfl)) ?_
              refine s_nil (b_n (n_n (w_seq (w_seq (w_reg (s_q rfl rfl (q_mv (.inl rfl) (is_sc rfl)) ?_))))))
              refine s_q rfl rfl (q_mv (.inl rfl) (is_sc rfl)) ?_
              refine s_q rfl rfl (q_as (u8_eq (u8_wrap (by omega) (by omega))) (q_cii rfl rfl)) ?_
              refine s_q rfl rfl (q_as (bl_no (show ¬ m ≤ (digV s[i] : Int) by omega)) (q_geq rfl rfl rfl)) ?_
              refine s_nil (n_n (w_ifF rfl (w_skip (n_n (w_seq (w_seq (w_reg (s_q rfl rfl (q_mv (.inl rfl) (is_sc rfl)) ?_))))))))
              refine s_q rfl rfl (q_mv (.inl rfl) (is_sc rfl)) ?_
              refine s_q rfl rfl (q_as (bl_no (show ¬ c ≤ n by omega)) (q_geq rfl rfl rfl)) ?_
              refine s_nil (n_n (w_ifF rfl (w_skip (n_n (w_seq (w_reg (s_q rfl rfl (q_mv (.inl rfl) (is_sc rfl)) ?_)))))))
              refine s_q rfl rfl (q_mv (.inl rfl) (is_sc rfl)) ?_
              refine s_q rfl rfl (q_as (u64_eq (u64_id (by omega) (by omega))) (q_cii rfl rfl)) ?_
              refine s_q rfl rfl (q_as (u64_eq (u64_id (by omega) (by omega))) (q_mul rfl rfl rfl)) ?_
              refine s_q rfl rfl (q_mv (.inr rfl) (is_sc rfl)) ?_
              refine s_nil (n_n (w_seq (w_reg (s_q rfl rfl (q_mv (.inl rfl) (is_sc rfl)) ?_))))
              refine s_q rfl rfl (q_mv (.inl rfl) (is_sc rfl)) ?_
              refine s_q rfl rfl (q_as (u64_eq (u64_id (by omega) (by omega))) (q_cii rfl rfl)) ?_
              refine s_q rfl rfl (q_as (u64_eq (u64_id (by omega) (by omega))) (q_add rfl rfl rfl)) ?_
              refine s_q rfl rfl (q_mv (.inr rfl) (is_sc rfl)) ?_
              refine s_nil (n_n (w_seq (w_seq (w_reg (s_q rfl rfl (q_mv (.inl rfl) (is_sc rfl)) ?_)))))
              refine s_q rfl rfl (q_mv (.inl rfl) (is_sc rfl)) ?_
              refine s_q rfl rfl (q_as (bl_no (show ¬ n * m + (digV s[i] : Int) < n * m by omega)) (q_lss rfl rfl rfl)) ?_
              refine s_q rfl rfl (q_mv (.inl rfl) (is_sc rfl)) ?_
              refine s_q rfl rfl (q_mv (.inl rfl) (is_sc rfl)) ?_
              refine s_q rfl rfl (q_mv (.inl rfl) (is_sc rfl)) ?_
              refine s_q rfl rfl (q_as (bl_no (show ¬ (18446744073709551615 : Int) < n * m + (digV s[i] : Int) by omega)) (q_gtr rfl rfl rfl)) ?_
              refine s_q rfl rfl (q_pickF rfl rfl (is_sc rfl)) ?_
              refine s_nil (n_n (w_ifF rfl (w_skip (n_n (w_reg (s_q rfl rfl (q_mv (.inl rfl) (is_sc rfl)) ?_))))))
              refine s_q rfl rfl (q_mv (.inr rfl) (is_sc rfl)) ?_
              refine s_nil (b_n (n_n (w_reg (s_q rfl rfl (q_add rfl rfl rfl) ?_))))
              refine s_q rfl rfl (q_mv (.inl rfl) (is_sc rfl)) ?_
              refine s_nil (n_n ?_)
              have hw : IntKind.i64.wrap ((i : Int) + 1) = ((i + 1 : Nat) : Int) := wrap_nat (by omega)
              refine ⟨⟨i + 1, n * m + (digV s[i] : Int), c, hlt, by omega, by omega, hc, hd3, ⟨rfl, rfl, rfl, rfl, rfl, rfl, rfl, i64_eq hw, trivial⟩, rfl⟩, ?_⟩
              show s.length - (IntKind.i64.wrap ((i : Int) + 1)).toNat < s.length - (i : Int).toNat
              rw [hw]; omega
            · have g117 : ¬ s[i].toNat ≤ 57 := by have := of_decide_eq_false h117; omega
              refine w_seq (w_reg (s_q rfl rfl (q_mv (.inl rfl) (is_sc rfl)) ?_))
              refine s_q rfl rfl (q_call rfl rfl rfl rfl (pf_lowO s[i])) ?_
              refine s_q rfl rfl (q_as (bl_yes (show (97 : Int) ≤ (lowO s[i] : Int) by omega)) (q_leq rfl rfl rfl)) ?_
              refine s_q rfl rfl (q_mv (.inl rfl) (is_sc rfl)) ?_
              refine s_q rfl rfl (q_mv (.inl rfl) (is_sc rfl)) ?_
              refine s_q rfl rfl (q_call rfl rfl rfl rfl (pf_lowO s[i])) ?_
              refine s_q rfl rfl (q_as (bl_yes (show (lowO s[i] : Int) ≤ (122 : Int) by omega)) (q_leq rfl rfl rfl)) ?_
              refine s_q rfl rfl (q_pickT rfl rfl (is_sc rfl)) ?_
              refine s_q rfl rfl (q_mv (.inr rfl) (is_sc rfl)) ?_
              refine s_nil (n_n (w_ifT rfl (w_reg (s_q rfl rfl (q_mv (.inl rfl) (is_sc rfl)) ?_))))
              refine s_q rfl rfl (q_call rfl rfl rfl rfl (pf_lowO s[i])) ?_
              refine s_q rfl rfl (q_as (u8_eq (u8_wrap (by omega) (by omega))) (q_sub rfl rfl rfl)) ?_
              refine s_q rfl rfl (q_as (u8_eq (show _ = (digV s[i] : Int) by rw [u8_wrap (by omega) (by omega)]; omega)) (q_add rfl rfl rfl)) ?_
              refine s_q rfl rfl (q_mv (.inr rfl) (is_sc rfl)) ?_
              refine s_nil (b_n (n_n (w_seq (w_seq (w_reg (s_q rfl rfl (q_mv (.inl rfl) (is_sc rfl)) ?_))))))
              refine s_q rfl rfl (q_mv (.inl rfl) (is_sc rfl)) ?_
              refine s_q rfl rfl (q_as (u8_eq (u8_wrap (by omega) (by omega))) (q_cii rfl rfl)) ?_
              refine s_q rfl rfl (q_as (bl_no (show ¬ m ≤ (digV s[i] : Int) by omega)) (q_geq rfl rfl rfl)) ?_
              refine s_nil (n_n (w_ifF rfl (w_skip (n_n (w_seq (w_seq (w_reg (s_q rfl rfl (q_mv (.inl rfl) (is_sc rfl)) ?_))))))))
              refine s_q rfl rfl (q_mv (.inl rfl) (is_sc rfl)) ?_
              refine s_q rfl rfl (q_as (bl_no (show ¬ c ≤ n by omega)) (q_geq rfl rfl rfl)) ?_
              refine s_nil (n_n (w_ifF rfl (w_skip (n_n (w_seq (w_reg (s_q rfl rfl (q_mv (.inl rfl) (is_sc rfl)) ?_)))))))
              refine s_q rfl rfl (q_mv (.inl rfl) (is_sc rfl)) ?_
              refine s_q rfl rfl (q_as (u64_eq (u64_id (by omega) (by omega))) (q_cii rfl rfl)) ?_
              refine s_q rfl rfl (q_as (u64_eq (u64_id (by omega) (by omega))) (q_mul rfl rfl rfl)) ?_
              refine s_q rfl rfl (q_mv (.inr rfl) (is_sc rfl)) ?_
              refine s_nil (n_n (w_seq (w_reg (s_q rfl rfl (q_mv (.inl rfl) (is_sc rfl)) ?_))))
              refine s_q rfl rfl (q_mv (.inl rfl) (is_sc rfl)) ?_
              refine s_q rfl rfl (q_as (u64_eq (u64_id (by omega) (by omega))) (q_cii rfl rfl)) ?_
              refine s_q rfl rfl (q_as (u64_eq (u64_id (by omega) (by omega))) (q_add rfl rfl rfl)) ?_
              refine s_q rfl rfl (q_mv (.inr rfl) (is_sc rfl)) ?_
              refine s_nil (n_n (w_seq (w_seq (w_reg (s_q rfl rfl (q_mv (.inl rfl) (is_sc rfl)) ?_)))))
              refine s_q rfl rfl (q_mv (.inl rfl) (is_sc rfl)) ?_
              refine s_q rfl rfl (q_as (bl_no (show ¬ n * m + (digV s[i] : Int) < n * m by omega)) (q_lss rfl rfl rfl)) ?_
              refine s_q rfl rfl (q_mv (.inl rfl) (is_sc rfl)) ?_
              refine s_q rfl rfl (q_mv (.inl rfl) (is_sc rfl)) ?_
              refine s_q rfl rfl (q_mv (.inl rfl) (is_sc rfl)) ?_
              refine s_q rfl rfl (q_as (bl_no (show ¬ (18446744073709551615 : Int) < n * m + (digV s[i] : Int) by omega)) (q_gtr rfl rfl rfl)) ?_
              refine s_q rfl rfl (q_pickF rfl rfl (is_sc rfl)) ?_
              refine s_nil (n_n (w_ifF rfl (w_skip (n_n (w_reg (s_q rfl rfl (q_mv (.inl rfl) (is_sc rfl)) ?_))))))
              refine s_q rfl rfl (q_mv (.inr rfl) (is_sc rfl)) ?_
              refine s_nil (b_n (n_n (w_reg (s_q rfl rfl (q_add rfl rfl rfl) ?_))))
              refine s_q rfl rfl (q_mv (.inl rfl) (is_sc rfl)) ?_
              refine s_nil (n_n ?_)
              have hw : IntKind.i64.wrap ((i : Int) + 1) = ((i + 1 : Nat) : Int) := wrap_nat (by omega)
              refine ⟨⟨i + 1, n * m + (digV s[i] : Int), c, hlt, by omega, by omega, hc, hd3, ⟨rfl, rfl, rfl, rfl, rfl, rfl, rfl, i64_eq hw, trivial⟩, rfl⟩, ?_⟩
              show s.length - (IntKind.i64.wrap ((i : Int) + 1)).toNat < s.length - (i : Int).toNat
              rw [hw]; omega
          · have g114 : ¬ 48 ≤ s[i].toNat := by have := of_decide_eq_false h114; omega
            refine s_off rfl rfl ?_
            refine s_off rfl rfl ?_
            refine s_q rfl rfl (q_pickF rfl rfl (is_sc rfl)) ?_
            refine s_q rfl rfl (q_mv (.inr rfl) (is_sc rfl)) ?_
            refine s_nil (n_n (w_ifF rfl (w_seq (w_reg (s_q rfl rfl (q_mv (.inl rfl) (is_sc rfl)) ?_)))))
            refine s_q rfl rfl (q_call rfl rfl rfl rfl (pf_lowO s[i])) ?_
            refine s_q rfl rfl (q_as (bl_yes (show (97 : Int) ≤ (lowO s[i] : Int) by omega)) (q_leq rfl rfl rfl)) ?_
            refine s_q rfl rfl (q_mv (.inl rfl) (is_sc rfl)) ?_
            refine s_q rfl rfl (q_mv (.inl rfl) (is_sc rfl)) ?_
            refine s_q rfl rfl (q_call rfl rfl rfl rfl (pf_lowO s[i])) ?_
            refine s_q rfl rfl (q_as (bl_yes (show (lowO s[i] : Int) ≤ (122 : Int) by omega)) (q_leq rfl rfl rfl)) ?_
            refine s_q rfl rfl (q_pickT rfl rfl (is_sc rfl)) ?_
            refine s_q rfl rfl (q_mv (.inr rfl) (is_sc rfl)) ?_
            refine s_nil (n_n (w_ifT rfl (w_reg (s_q rfl rfl (q_mv (.inl rfl) (is_sc rfl)) ?_))))
            refine s_q rfl rfl (q_call rfl rfl rfl rfl (pf_lowO s[i])) ?_
            refine s_q rfl rfl (q_as (u8_eq (u8_wrap (by omega) (by omega))) (q_sub rfl rfl rfl)) ?_
            refine s_q rfl rfl (q_as (u8_eq (show _ = (digV s[i] : Int) by rw [u8_wrap (by omega) (by omega)]; omega)) (q_add rfl rfl rfl)) ?_
            refine s_q rfl rfl (q_mv (.inr rfl) (is_sc rfl)) ?_
            refine s_nil (b_n (n_n (w_seq (w_seq (w_reg (s_q rfl rfl (q_mv (.inl rfl) (is_sc rfl)) ?_))))))
            refine s_q rfl rfl (q_mv (.inl rfl) (is_sc rfl)) ?_
            refine s_q rfl rfl (q_as (u8_eq (u8_wrap (by omega) (by omega))) (q_cii rfl rfl)) ?_
            refine s_q rfl rfl (q_as (bl_no (show ¬ m ≤ (digV s[i] : Int) by omega)) (q_geq rfl rfl rfl)) ?_
            refine s_nil (n_n (w_ifF rfl (w_skip (n_n (w_seq (w_seq (w_reg (s_q rfl rfl (q_mv (.inl rfl) (is_sc rfl)) ?_))))))))
            refine s_q rfl rfl (q_mv (.inl rfl) (is_sc rfl)) ?_
            refine s_q rfl rfl (q_as (bl_no (show ¬ c ≤ n by omega)) (q_geq rfl rfl rfl)) ?_
            refine s_nil (n_n (w_ifF rfl (w_skip (n_n (w_seq (w_reg (s_q rfl rfl (q_mv (.inl rfl) (is_sc rfl)) ?_)))))))
            refine s_q rfl rfl (q_mv (.inl rfl) (is_sc rfl)) ?_
            refine s_q rfl rfl (q_as (u64_eq (u64_id (by omega) (by omega))) (q_cii rfl rfl)) ?_
            refine s_q rfl rfl (q_as (u64_eq (u64_id (by omega) (by omega))) (q_mul rfl rfl rfl)) ?_
            refine s_q rfl rfl (q_mv (.inr rfl) (is_sc rfl)) ?_
            refine s_nil (n_n (w_seq (w_reg (s_q rfl rfl (q_mv (.inl rfl) (is_sc rfl)) ?_))))
            refine s_q rfl rfl (q_mv (.inl rfl) (is_sc rfl)) ?_
            refine s_q rfl rfl (q_as (u64_eq (u64_id (by omega) (by omega))) (q_cii rfl rfl)) ?_
            refine s_q rfl rfl (q_as (u64_eq (u64_id (by omega) (by omega))) (q_add rfl rfl rfl)) ?_
            refine s_q rfl rfl (q_mv (.inr rfl) (is_sc rfl)) ?_
            refine s_nil (n_n (w_seq (w_seq (w_reg (s_q rfl rfl (q_mv (.inl rfl) (is_sc rfl)) ?_)))))
            refine s_q rfl rfl (q_mv (.inl rfl) (is_sc rfl)) ?_
            refine s_q rfl rfl (q_as (bl_no (show ¬ n * m + (digV s[i] : Int) < n * m by omega)) (q_lss rfl rfl rfl)) ?_
            refine s_q rfl rfl (q_mv (.inl rfl) (is_sc rfl)) ?_
            refine s_q rfl rfl (q_mv (.inl rfl) (is_sc rfl)) ?_
            refine s_q rfl rfl (q_mv (.inl rfl) (is_sc rfl)) ?_
            refine s_q rfl rfl (q_as (bl_no (show ¬ (18446744073709551615 : Int) < n * m + (digV s[i] : Int) by omega)) (q_gtr rfl rfl rfl)) ?_
            refine s_q rfl rfl (q_pickF rfl rfl (is_sc rfl)) ?_
            refine s_nil (n_n (w_ifF rfl (w_skip (n_n (w_reg (s_q rfl rfl (q_mv (.inl rfl) (is_sc rfl)) ?_))))))
            refine s_q rfl rfl (q_mv (.inr rfl) (is_sc rfl)) ?_
            refine s_nil (b_n (n_n (w_reg (s_q rfl rfl (q_add rfl rfl rfl) ?_))))
            refine s_q rfl rfl (q_mv (.inl rfl) (is_sc rfl)) ?_
            refine s_nil (n_n ?_)
            have hw : IntKind.i64.wrap ((i : Int) + 1) = ((i + 1 : Nat) : Int) := wrap_nat (by omega)
            refine ⟨⟨i + 1, n * m + (digV s[i] : Int), c, hlt, by omega, by omega, hc, hd3, ⟨rfl, rfl, rfl, rfl, rfl, rfl, rfl, i64_eq hw, trivial⟩, rfl⟩, ?_⟩
            show s.length - (IntKind.i64.wrap ((i : Int) + 1)).toNat < s.length - (i : Int).toNat
            rw [hw]; omega
        · have hge : s.length ≤ i := by have := of_decide_eq_false h102; omega
          refine w_exit (n_e (n_e (b_hit (n_n (w_seq (w_seq (w_reg (s_q rfl rfl (q_as (rfl) (q_mv (.inl rfl) (is_sc rfl))) ?_))))))))
          refine s_q rfl rfl (q_mv (.inl rfl) (is_sc rfl)) ?_
          refine s_off rfl rfl ?_
          refine s_off rfl rfl ?_
          refine s_off rfl rfl ?_
          refine s_q rfl rfl (q_pickF rfl rfl (is_sc rfl)) ?_
          refine s_nil (n_n (w_ifF rfl (w_skip (n_n (w_seq (w_reg (s_q rfl rfl (q_mv (.inl rfl) (is_sc rfl)) ?_)))))))
          refine s_q rfl rfl (q_mv (.inr rfl) (is_sc rfl)) ?_
          refine s_q rfl rfl (q_mv (.inr rfl) (by first | exact is_ifc rfl | exact is_sc rfl | exact rfl)) ?_
          refine s_nil (n_n (w_ret ?_))
          -- end 2
          refine r_r (ra_tmp (is_sc rfl) (ra_tmp (by first | exact is_ifc rfl | exact is_sc rfl | exact rfl) ra_nil)) (by exact (rfl : _ = D.tup [_, _])) (by exact rfl) sub_no ?_
          rw [dec_end hge] at hD
          cases hD; rfl


-- internal/strconv.ParseInt
theorem pf_ParseInt2 (s : List UInt8) (m N : Int) (hs : s.length ≤ 1000) (he : ¬ s = []) (hm : 2 ≤ m ∧ m ≤ 36) (hD : decL m s 0 0 = some N) : PF Tryz.prog G 160 [st s, i64 m, i64 64] (.tup [i64 N, .sc .nilIface]) := by
  have hl0 : 0 < s.length := List.length_pos_iff.mpr he
  have hD0 : decL m (s.drop 0) 0 0 = some N := by simpa using hD
  have hd1 := (dec_some_step hl0 hD0).1
  unfold decBad at hd1
  have hds := dig_sign (c := s[0]) fun e => hd1 (.inl e)
  have hby : s.getD (0 : Int).toNat 0 = s[0] := byte_at hl0
  have hN := dec_le hm s.length 0 0 rfl (by omega) (by omega) hD0
  refine PC.intro rfl Tryz.func160 rfl (Nat.le_of_ble_eq_true rfl) rfl ?_
  refine w_seq (w_reg (s_q rfl rfl (q_mv (.inr rfl) (is_sc rfl)) ?_))
  refine s_q rfl rfl (q_mv (.inr rfl) (by first | exact is_ifc rfl | exact is_sc rfl | exact rfl)) ?_
  refine s_nil (n_n (w_seq (w_seq (w_reg (s_q rfl rfl (q_mv (.inl rfl) (is_sc rfl)) ?_)))))
  refine s_q rfl rfl (q_as (bl_no (he)) (q_eqs rfl rfl rfl)) ?_
  refine s_nil (n_n (w_ifF rfl (w_skip (n_n (w_seq (w_reg (s_q rfl rfl (q_mv (.inr rfl) (is_sc rfl)) ?_)))))))
  refine s_nil (n_n (w_seq (w_seq (w_reg (s_q rfl rfl (q_mv (.inl rfl) (is_sc rfl)) ?_)))))
  refine s_q rfl rfl (q_byte rfl rfl rfl (by omega) (by show (0 : Int) < (s.length : Int); omega)) ?_
  refine s_nil (n_n (w_block (w_seq (w_reg (s_q rfl rfl (q_as (bl_no (show ¬ ((s.getD (0 : Int).toNat 0).toNat : Int) = 43 by rw [hby]; omega)) (q_eql rfl rfl rfl)) ?_)))))
  refine s_q rfl rfl (q_mv (.inr rfl) (is_sc rfl)) ?_
  refine s_nil (n_n (w_ifF rfl (w_seq (w_reg (s_q rfl rfl (q_as (bl_no (show ¬ ((s.getD (0 : Int).toNat 0).toNat : Int) = 45 by rw [hby]; omega)) (q_eql rfl rfl rfl)) ?_)))))
  refine s_q rfl rfl (q_mv (.inr rfl) (is_sc rfl)) ?_
  refine s_nil (n_n (w_ifF rfl (w_skip (b_n (n_n (w_seq (w_reg (s_q rfl rfl (q_mv (.inr rfl) (is_sc rfl)) ?_))))))))
  refine s_nil (n_n (w_seq (w_reg (s_q rfl rfl (q_mv (.inl rfl) (is_sc rfl)) ?_))))
  refine s_q rfl rfl (q_mv (.inl rfl) (is_sc rfl)) ?_
  refine s_q rfl rfl (q_mv (.inl rfl) (is_sc rfl)) ?_
  refine s_q rfl rfl (q_call rfl rfl rfl rfl (pf_ParseUint s m N hs he hm hD)) ?_
  refine s_q rfl rfl (q_mv (.inl rfl) (by first | exact (rfl : _ = D.tup [_, _]) | exact rfl)) ?_
  refine s_q rfl rfl (q_extract rfl rfl rfl) ?_
  refine s_q rfl rfl (q_extract rfl rfl rfl) ?_
  refine s_q rfl rfl (q_mv (.inr rfl) (is_sc rfl)) ?_
  refine s_q rfl rfl (q_mv (.inr rfl) (by first | exact is_ifc rfl | exact is_sc rfl | exact rfl)) ?_
  refine s_nil (n_n (w_seq (w_seq (w_reg (s_q rfl rfl (q_mv (.inl rfl) (by first | exact is_ifc rfl | exact is_sc rfl | exact rfl)) ?_)))))
  refine s_q rfl rfl (q_ifNeN rfl rfl rfl) ?_
  refine s_q rfl rfl (q_mv (.inl rfl) (is_sc rfl)) ?_
  refine s_off rfl rfl ?_
  refine s_off rfl rfl ?_
  refine s_off rfl rfl ?_
  refine s_q rfl rfl (q_pickF rfl rfl (is_sc rfl)) ?_
  refine s_nil (n_n (w_ifF rfl (w_skip (n_n (w_seq (w_seq (w_reg (s_q rfl rfl (q_mv (.inl rfl) (is_sc rfl)) ?_))))))))
  refine s_q rfl rfl (q_eql rfl rfl rfl) ?_
  refine s_nil (n_n (w_ifF rfl (w_skip (n_n (w_seq (w_reg (s_q rfl rfl (q_mv (.inl rfl) (is_sc rfl)) ?_)))))))
  refine s_q rfl rfl (q_sub rfl rfl rfl) ?_
  refine s_q rfl rfl (q_as (u64_eq (by decide : _ = (63 : Int))) (q_cii rfl rfl)) ?_
  refine s_q rfl rfl (q_as (u64_eq (by decide : _ = (9223372036854775808 : Int))) (q_shl rfl rfl rfl (by decide))) ?_
  refine s_q rfl rfl (q_mv (.inr rfl) (is_sc rfl)) ?_
  refine s_nil (n_n (w_seq (w_seq (w_reg (s_q rfl rfl (q_mv (.inl rfl) (is_sc rfl)) ?_)))))
  refine s_q rfl rfl (q_not rfl rfl) ?_
  refine s_q rfl rfl (q_mv (.inl rfl) (is_sc rfl)) ?_
  refine s_q rfl rfl (q_mv (.inl rfl) (is_sc rfl)) ?_
  refine s_q rfl rfl (q_mv (.inl rfl) (is_sc rfl)) ?_
  refine s_q rfl rfl (q_as (bl_no (show ¬ (9223372036854775808 : Int) ≤ N by omega)) (q_geq rfl rfl rfl)) ?_
  refine s_q rfl rfl (q_pickT rfl rfl (is_sc rfl)) ?_
  refine s_nil (n_n (w_ifF rfl (w_skip (n_n (w_seq (w_seq (w_reg (s_q rfl rfl (q_mv (.inl rfl) (is_sc rfl)) ?_))))))))
  refine s_q rfl rfl (q_mv (.inl rfl) (is_sc rfl)) ?_
  refine s_off rfl rfl ?_
  refine s_off rfl rfl ?_
  refine s_off rfl rfl ?_
  refine s_q rfl rfl (q_pickF rfl rfl (is_sc rfl)) ?_
  refine s_nil (n_n (w_ifF rfl (w_skip (n_n (w_seq (w_reg (s_q rfl rfl (q_mv (.inl rfl) (is_sc rfl)) ?_)))))))
  refine s_q rfl rfl (q_as (i64_eq (wrap_id (by omega) (by omega))) (q_cii rfl rfl)) ?_
  refine s_q rfl rfl (q_mv (.inr rfl) (is_sc rfl)) ?_
  refine s_nil (n_n (w_seq (w_seq (w_reg (s_q rfl rfl (q_mv (.inl rfl) (is_sc rfl)) ?_)))))
  refine s_nil (n_n (w_ifF rfl (w_skip (n_n (w_seq (w_reg (s_q rfl rfl (q_mv (.inl rfl) (is_sc rfl)) ?_)))))))
  refine s_q rfl rfl (q_mv (.inr rfl) (is_sc rfl)) ?_
  refine s_q rfl rfl (q_mv (.inr rfl) (by first | exact is_ifc rfl | exact is_sc rfl | exact rfl)) ?_
  refine s_nil (n_n (w_ret ?_))
  -- end 0
  refine r_r (ra_tmp (is_sc rfl) (ra_tmp (by first | exact is_ifc rfl | exact is_sc rfl | exact rfl) ra_nil)) (by exact (rfl : _ = D.tup [_, _])) (by exact rfl) sub_no ?_
  rfl


-- strconv.ParseInt
theorem pf_ParseInt (s : List UInt8) (m N : Int) (hs : s.length ≤ 1000) (he : ¬ s = []) (hm : 2 ≤ m ∧ m ≤ 36) (hD : decL m s 0 0 = some N) : PF Tryz.prog G 74 [st s, i64 m, i64 64] (.tup [i64 N, .sc .nilIface]) := by
  refine PC.intro rfl Tryz.func74 rfl (Nat.le_of_ble_eq_true rfl) rfl ?_
  refine w_seq (w_reg (s_q rfl rfl (q_mv (.inr rfl) (is_sc rfl)) ?_))
  refine s_q rfl rfl (q_mv (.inr rfl) (by first | exact is_ifc rfl | exact is_sc rfl | exact rfl)) ?_
  refine s_nil (n_n (w_seq (w_reg (s_q rfl rfl (q_mv (.inl rfl) (is_sc rfl)) ?_))))
  refine s_q rfl rfl (q_mv (.inl rfl) (is_sc rfl)) ?_
  refine s_q rfl rfl (q_mv (.inl rfl) (is_sc rfl)) ?_
  refine s_q rfl rfl (q_call rfl rfl rfl rfl (pf_ParseInt2 s m N hs he hm hD)) ?_
  refine s_q rfl rfl (q_mv (.inl rfl) (by first | exact (rfl : _ = D.tup [_, _]) | exact rfl)) ?_
  refine s_q rfl rfl (q_extract rfl rfl rfl) ?_
  refine s_q rfl rfl (q_extract rfl rfl rfl) ?_
  refine s_q rfl rfl (q_mv (.inr rfl) (is_sc rfl)) ?_
  refine s_q rfl rfl (q_mv (.inr rfl) (by first | exact is_ifc rfl | exact is_sc rfl | exact rfl)) ?_
  refine s_nil (n_n (w_seq (w_seq (w_reg (s_q rfl rfl (q_mv (.inl rfl) (by first | exact is_ifc rfl | exact is_sc rfl | exact rfl)) ?_)))))
  refine s_q rfl rfl (q_ifNeN rfl rfl rfl) ?_
  refine s_nil (n_n (w_ifF rfl (w_skip (n_n (w_seq (w_reg (s_q rfl rfl (q_mv (.inl rfl) (is_sc rfl)) ?_)))))))
  refine s_q rfl rfl (q_mv (.inr rfl) (is_sc rfl)) ?_
  refine s_q rfl rfl (q_mv (.inr rfl) (by first | exact is_ifc rfl | exact is_sc rfl | exact rfl)) ?_
  refine s_nil (n_n (w_ret ?_))
  -- end 0
  refine r_r (ra_tmp (is_sc rfl) (ra_tmp (by first | exact is_ifc rfl | exact is_sc rfl | exact rfl) ra_nil)) (by exact (rfl : _ = D.tup [_, _])) (by exact rfl) sub_no ?_
  rfl

end Go.Proofs.YteghibfaiifdoaaGreatDoor.Zz
