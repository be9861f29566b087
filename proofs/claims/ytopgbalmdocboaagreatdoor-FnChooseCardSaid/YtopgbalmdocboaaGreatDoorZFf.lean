/- Walks of the functions, printed by program, and the logic behind them: each theorem says what one function or one step answers. -/
import Derived.Test.YtopgbalmdocboaaGreatDoorZFd
import Derived.Test.YtopgbalmdocboaaGreatDoorZFe
import Derived.Test.YtopgbalmdocboaaGreatDoorZFz
namespace Go.Proofs.YtopgbalmdocboaaGreatDoor.Zz
open Go.Abs
set_option maxRecDepth 100000
set_option linter.unusedVariables false
set_option linter.unusedSimpArgs false
set_option maxHeartbeats 4000000
variable {G : Nat → D}
instance : XF Tryz.prog 284 Extern.MathFloatBits.float64bits := XF.of Tryz.func284 rfl rfl (by kernel_rfl) (by kernel_rfl)
instance : ZV Tryz.prog 262 32 [.int .u8 0, .int .u8 0, .int .u8 0, .int .u8 0, .int .u8 0, .int .u8 0, .int .u8 0, .int .u8 0, .int .u8 0, .int .u8 0, .int .u8 0, .int .u8 0, .int .u8 0, .int .u8 0, .int .u8 0, .int .u8 0, .int .u8 0, .int .u8 0, .int .u8 0, .int .u8 0, .int .u8 0, .int .u8 0, .int .u8 0, .int .u8 0, .int .u8 0, .int .u8 0, .int .u8 0, .int .u8 0, .int .u8 0, .int .u8 0, .int .u8 0, .int .u8 0] := ZV.of Tryz.typeInfo262 rfl rfl rfl rfl rfl
instance : FN Tryz.prog 236 := ⟨Tryz.call236⟩

theorem pf_EFG (h : Heap) (b k0 c0 n : Nat) (sp0 rest : List D) (ds : List UInt8) (neg : Bool) (dp : Int) (h0 : h k0 = some sp0) (hs0 : sp0.length = c0) (hc0 : 0 < c0) (hcm : c0 ≤ maxLen) (hb : h b = some (bc ds ++ rest)) (hbk : k0 ≠ b) (hn : n = ds.length) (hn0 : 0 < n) (hn20 : n ≤ 20) (hr : (bc ds ++ rest).length = 32) (hd : -3 ≤ dp ∧ dp ≤ 99) :
    ACall Tryz.prog G 287 true [.hs k0 0 0 c0, bl neg, .hs b 0 32 32, i64 dp, i64 n, i64 n, .sc (.int .u8 103), bl true] h (fun v h' => RowB h' b (some (bc ds ++ rest)) v ((if neg = true then [45] else []) ++ fmtT ds dp)) := by
  subst hn
  by_cases h7 : 7 ≤ dp
  · obtain ⟨E, rfl⟩ : ∃ E : Nat, dp = (E : Int) + 1 := ⟨(dp - 1).toNat, by omega⟩
    exact pf_fmtE h b k0 c0 sp0 rest ds neg h0 hs0 hc0 hcm hb hbk hn0 hn20 hr E (by omega) (by omega)
  · by_cases h1 : 1 ≤ dp
    · obtain ⟨q, rfl⟩ : ∃ q : Nat, dp = (q : Int) := ⟨dp.toNat, by omega⟩
      rcases Nat.lt_or_ge q ds.length with hq | hq
      · exact pf_fmtP h b k0 c0 sp0 rest ds neg h0 hs0 hc0 hcm hb hbk hn0 hn20 hr q (by omega) (by omega) hq
      · exact pf_fmtW h b k0 c0 sp0 rest ds neg h0 hs0 hc0 hcm hb hbk hn0 hn20 hr q (by omega) (by omega) hq
    · obtain ⟨q, rfl⟩ : ∃ q : Nat, dp = -(q : Int) := ⟨(-dp).toNat, by omega⟩
      exact pf_fmtQ h b k0 c0 sp0 rest ds neg h0 hs0 hc0 hcm hb hbk hn0 hn20 hr q (by omega)


-- internal/strconv.ftoa64
theorem pf_ftoaZ (h : Heap) (k0 c0 : Nat) (sp0 : List D) (h0 : h k0 = some sp0) (hs0 : sp0.length = c0) (hc0 : 0 < c0) (hcm : c0 ≤ maxLen) (w : Nat) (neg : Bool) (hw : w < 2 ^ 64) (hneg : decide (¬ ((w / 2 ^ 63 : Nat) : Int) = 0) = neg) (hz : w % 2 ^ 63 = 0) : ACall Tryz.prog G 262 true [.hs k0 0 0 c0, fl w, .sc (.int .u8 103), i64 (-1)] h (fun v h' => RowA h' v ((if neg = true then [45] else []) ++ [48])) := by
  refine ACall.intro rfl Tryz.func262 rfl (Nat.le_of_ble_eq_true rfl) rfl ?_
  refine w_seq (w_reg (s_q rfl rfl (q_mv (.inr rfl) (by first | exact is_im rfl | exact is_gs rfl | exact is_lit rfl | exact is_ms rfl | exact is_sc rfl | exact rfl)) ?_))
  refine s_nil (n_n (w_seq (w_reg (s_q rfl rfl (q_mv (.inr rfl) (is_sc rfl)) ?_))))
  refine s_nil (n_n (w_seq (w_reg (s_q rfl rfl (q_mv (.inr rfl) (is_sc rfl)) ?_))))
  refine s_q rfl rfl (q_mv (.inr rfl) (is_sc rfl)) ?_
  refine s_q rfl rfl (q_mv (.inr rfl) (is_sc rfl)) ?_
  refine s_nil (n_n (w_seq (w_block (w_seq (w_reg (s_q rfl rfl (q_eql rfl rfl rfl) ?_))))))
  refine s_q rfl rfl (q_mv (.inr rfl) (is_sc rfl)) ?_
  refine s_nil (n_n (w_ifF rfl (w_seq (w_reg (s_q rfl rfl (q_eql rfl rfl rfl) ?_)))))
  refine s_q rfl rfl (q_mv (.inr rfl) (is_sc rfl)) ?_
  refine s_nil (n_n (w_ifT rfl (w_seq (w_reg (s_q rfl rfl (q_mv (.inl rfl) (is_sc rfl)) ?_)))))
  refine s_q rfl rfl (q_ext rfl rfl rfl (x_bits w)) ?_
  refine s_q rfl rfl (q_mv (.inr rfl) (is_sc rfl)) ?_
  refine s_nil (n_n (w_seq (w_reg (s_q rfl rfl (q_mv (.inr rfl) (is_sc rfl)) ?_))))
  refine s_nil (n_n (w_seq (w_reg (s_q rfl rfl (q_mv (.inr rfl) (is_sc rfl)) ?_))))
  refine s_nil (n_n (w_reg (s_q rfl rfl (q_mv (.inr rfl) (is_sc rfl)) ?_)))
  refine s_nil (b_n (n_n (w_seq (w_reg (s_q rfl rfl (q_mv (.inl rfl) (is_sc rfl)) ?_)))))
  refine s_q rfl rfl (q_mv (.inl rfl) (is_sc rfl)) ?_
  refine s_q rfl rfl (q_mv (.inl rfl) (is_sc rfl)) ?_
  refine s_q rfl rfl (q_add rfl rfl rfl) ?_
  refine s_q rfl rfl (q_as (u64_eq (shr_nat w 63 64 (by omega))) (q_shr rfl rfl rfl (by decide))) ?_
  refine s_q rfl rfl (q_as (bl_eq hneg) (q_neq rfl rfl rfl)) ?_
  refine s_q rfl rfl (q_mv (.inr rfl) (is_sc rfl)) ?_
  refine s_nil (n_n (w_seq (w_draw [0, 0, 3, 7, 0, 16, 48, 127, 255] [0, 0, 0, 0, 0, 0, 0, 0, 0] rfl ?_)))
  refine d_q0 rfl rfl (q_mv (.inl rfl) (is_sc rfl)) ?_
  refine d_q0 rfl rfl (q_mv (.inl rfl) (is_sc rfl)) ?_
  refine d_q0 rfl rfl (q_as (u64_eq (shr_nat w 52 64 (by omega))) (q_shr rfl rfl rfl (by decide))) ?_
  refine d_q0 rfl rfl (q_as (i64_eq ((wrap_id (by omega) (by omega)).trans (by omega) : _ = ((w / 2 ^ 52 : Nat) : Int))) (q_cii rfl rfl)) ?_
  refine d_q0 rfl rfl (q_mv (.inl rfl) (is_sc rfl)) ?_
  refine d_q0 rfl rfl (q_as (i64_eq (by decide : _ = (2048 : Int))) (q_shl rfl rfl rfl (by decide))) ?_
  refine d_q0 rfl rfl (q_as (i64_eq (by decide : _ = (2047 : Int))) (q_sub rfl rfl rfl)) ?_
  refine d_q0 rfl rfl (q_as (i64_eq ((and_i64 (x := w / 2 ^ 52) (by omega) 11 (by omega) _ (by decide)).trans (by omega) : _ = (0 : Int))) (q_and rfl rfl rfl)) ?_
  refine d_q0 rfl rfl (q_mv (.inr rfl) (is_sc rfl)) ?_
  refine d_nil (n_n (w_seq (w_reg (s_q rfl rfl (q_mv (.inl rfl) (is_sc rfl)) ?_))))
  refine s_q rfl rfl (q_mv (.inl rfl) (is_sc rfl)) ?_
  refine s_q rfl rfl (q_as (u64_eq (by decide : _ = (4503599627370496 : Int))) (q_shl rfl rfl rfl (by decide))) ?_
  refine s_q rfl rfl (q_as (u64_eq (by decide : _ = (4503599627370495 : Int))) (q_sub rfl rfl rfl)) ?_
  refine s_q rfl rfl (q_as (u64_eq ((and_low hw 52 (by omega) _ (by decide)).trans (by omega) : _ = (0 : Int))) (q_and rfl rfl rfl)) ?_
  refine s_q rfl rfl (q_mv (.inr rfl) (is_sc rfl)) ?_
  refine s_nil (n_n (w_seq (w_seq (w_reg (s_q rfl rfl (q_mv (.inl rfl) (is_sc rfl)) ?_)))))
  refine s_q rfl rfl (q_mv (.inl rfl) (is_sc rfl)) ?_
  refine s_q rfl rfl (q_as (i64_eq (by decide : _ = (2048 : Int))) (q_shl rfl rfl rfl (by decide))) ?_
  refine s_q rfl rfl (q_as (i64_eq (by decide : _ = (2047 : Int))) (q_sub rfl rfl rfl)) ?_
  refine s_q rfl rfl (q_as (bl_no (show ¬ (0 : Int) = 2047 by omega)) (q_eql rfl rfl rfl)) ?_
  refine s_nil (n_n (w_ifF rfl (w_skip (n_n (w_seq (w_seq (w_reg (s_q rfl rfl (q_mv (.inl rfl) (is_sc rfl)) ?_))))))))
  refine s_q rfl rfl (q_as (bl_yes (show (0 : Int) = 0 by omega)) (q_eql rfl rfl rfl)) ?_
  refine s_nil (n_n (w_ifT rfl (w_reg (s_q rfl rfl (q_mv (.inl rfl) (is_sc rfl)) ?_))))
  refine s_q rfl rfl (q_as (i64_eq (by decide : _ = (1 : Int))) (q_add rfl rfl rfl)) ?_
  refine s_q rfl rfl (q_mv (.inr rfl) (is_sc rfl)) ?_
  refine s_nil (n_n (w_seq (w_reg (s_q rfl rfl (q_mv (.inl rfl) (is_sc rfl)) ?_))))
  refine s_q rfl rfl (q_mv (.inl rfl) (is_sc rfl)) ?_
  refine s_q rfl rfl (q_as (i64_eq (by decide : _ = (-1022 : Int))) (q_add rfl rfl rfl)) ?_
  refine s_q rfl rfl (q_mv (.inr rfl) (is_sc rfl)) ?_
  refine s_nil (n_n (w_seq (w_seq (w_reg (s_q rfl rfl (q_mv (.inl rfl) (is_sc rfl)) ?_)))))
  refine s_q rfl rfl (q_eql rfl rfl rfl) ?_
  refine s_nil (n_n (w_ifF rfl (w_skip (n_n (w_seq (w_seq (w_reg (s_q rfl rfl (q_mv (.inl rfl) (is_sc rfl)) ?_))))))))
  refine s_q rfl rfl (q_eql rfl rfl rfl) ?_
  refine s_q rfl rfl (q_mv (.inl rfl) (is_sc rfl)) ?_
  refine s_q rfl rfl (q_mv (.inl rfl) (is_sc rfl)) ?_
  refine s_q rfl rfl (q_eql rfl rfl rfl) ?_
  refine s_q rfl rfl (q_pickF rfl rfl (is_sc rfl)) ?_
  refine s_nil (n_n (w_ifF rfl (w_skip (n_n (w_seq (w_seq (w_reg (s_q rfl rfl (q_mv (.inl rfl) (is_sc rfl)) ?_))))))))
  refine s_q rfl rfl (q_as (bl_yes (show (0 : Int) = 0 by omega)) (q_eql rfl rfl rfl)) ?_
  refine s_nil (n_n (w_ifT rfl (w_seq (w_reg (s_q rfl rfl (q_mv (.inl rfl) (by first | exact is_im rfl | exact is_gs rfl | exact is_lit rfl | exact is_ms rfl | exact is_sc rfl | exact rfl)) ?_)))))
  refine s_q rfl rfl (q_mv (.inl rfl) (is_sc rfl)) ?_
  refine s_q rfl rfl (q_mv (.inl rfl) (is_sc rfl)) ?_
  refine s_q rfl rfl (q_mv (.inl rfl) (is_sc rfl)) ?_
  refine s_q rfl rfl (q_mv (.inl rfl) (is_sc rfl)) ?_
  refine s_q rfl rfl (q_lss rfl rfl rfl) ?_
  refine s_o rfl rfl (ao_callH rfl rfl rfl rfl (pf_fmtZ _ k0 c0 sp0 neg h0 hs0 hc0 hcm) fun v119 Hv119 hv119 => ?_)
  obtain ⟨k9, c9, s9, rfl, hx9⟩ := hv119
  refine s_q rfl rfl (q_mv (.inr rfl) (by first | exact is_im rfl | exact is_gs rfl | exact is_lit rfl | exact is_ms rfl | exact is_sc rfl | exact rfl)) ?_
  refine s_nil (n_n (w_ret (n_r ?_)))
  -- end 0
  refine r_r (ra_tmp (by first | exact is_im rfl | exact is_gs rfl | exact is_lit rfl | exact is_ms rfl | exact is_sc rfl | exact rfl) ra_nil) (by first | exact is_im rfl | exact is_gs rfl | exact is_lit rfl | exact is_ms rfl | exact is_sc rfl | exact rfl) (by exact rfl) (Sub.refl _) ?_
  exact ⟨k9, c9, s9, rfl, hx9⟩


-- internal/strconv.ftoa64
theorem pf_ftoa (h : Heap) (k0 c0 : Nat) (sp0 : List D) (h0 : h k0 = some sp0) (hs0 : sp0.length = c0) (hc0 : 0 < c0) (hcm : c0 ≤ maxLen) (w : Nat) (neg : Bool) (hw : w < 2 ^ 64) (hneg : decide (¬ ((w / 2 ^ 63 : Nat) : Int) = 0) = neg) (a L : Nat) (hL : L ≤ 40) (hL1 : 2 ^ L ≤ a) (hL3 : a < 2 ^ (L + 1)) (hE : w % 2 ^ 63 / 4503599627370496 = L + 1019) (hM : a * 2 ^ (52 - L) = 4503599627370496 + w % 4503599627370496) (T : Tabs G) : ACall Tryz.prog G 262 true [.hs k0 0 0 c0, fl w, .sc (.int .u8 103), i64 (-1)] h (fun v h' => RowA h' v (numT neg a L)) := by
  have hs := sh_pl hL a
  have h5 := hs.p1
  have h17 := hs.p2
  have ha0 : 0 < a := Nat.lt_of_lt_of_le (Nat.two_pow_pos L) hL1
  have hword := sh_word hL hL3 rfl
  have hN0 := digN_pos ha0 hL
  have hN58 := digN_lt hL hL3
  have hdp := dpN_bounds ha0 hL hL3
  have hN20 := Lib.nDigits_le20 (digN a L) (by omega)
  obtain ⟨c1, c2, c3, c4⟩ := core_facts (digN a L) (digN a L) (Nat.le_refl _) hN0
  have hcp := Lib.nDigits_pos (core (digN a L))
  obtain ⟨mm, hmm⟩ : ∃ mm, a * 2 ^ (52 - L) = mm := ⟨_, rfl⟩
  have hmw := word_mul hL hmm
  rw [hmm] at hM
  have hm1 : 4503599627370496 ≤ mm := by omega
  have hm2 : mm < 9007199254740992 := by omega
  have hor : w % 4503599627370496 ||| 4503599627370496 = mm := by rw [or_top (Nat.mod_lt _ (by decide)), hM]
  have hlen := pf_Len64 (G := G) mm (by omega)
  rw [bitLen53 hm1 hm2] at hlen
  have hsh := pf_short (G := G) a L (a * 2 ^ (63 - L)) hL hL1 hL3 rfl T
  have hdg : a * (10 ^ plS a L / 16) / 10 = digN a L := rfl
  rw [hdg] at hsh
  obtain ⟨p, hp⟩ : ∃ p, plS a L = p := ⟨_, rfl⟩
  have hdpe : dpN a L = ((Lib.nDigits (digN a L) : Nat) : Int) + -((p : Int) - 1) := by unfold dpN; rw [hp]; omega
  rw [hp] at hsh h5 h17
  obtain ⟨m, hm⟩ : ∃ m, a * 2 ^ (63 - L) = m := ⟨_, rfl⟩
  rw [hm] at hsh hword hmw
  unfold numT
  rw [hdpe]
  rw [hdpe] at hdp
  obtain ⟨N, hN⟩ : ∃ N, digN a L = N := ⟨_, rfl⟩
  rw [hN] at hsh hN0 hN58 hN20 hcp c1 c2 c3 c4 hdp ⊢
  clear hs hdg hdpe hN hp hmm
  refine ACall.intro rfl Tryz.func262 rfl (Nat.le_of_ble_eq_true rfl) rfl ?_
  refine w_seq (w_reg (s_q rfl rfl (q_mv (.inr rfl) (by first | exact is_im rfl | exact is_gs rfl | exact is_lit rfl | exact is_ms rfl | exact is_sc rfl | exact rfl)) ?_))
  refine s_nil (n_n (w_seq (w_reg (s_q rfl rfl (q_mv (.inr rfl) (is_sc rfl)) ?_))))
  refine s_nil (n_n (w_seq (w_reg (s_q rfl rfl (q_mv (.inr rfl) (is_sc rfl)) ?_))))
  refine s_q rfl rfl (q_mv (.inr rfl) (is_sc rfl)) ?_
  refine s_q rfl rfl (q_mv (.inr rfl) (is_sc rfl)) ?_
  refine s_nil (n_n (w_seq (w_block (w_seq (w_reg (s_q rfl rfl (q_eql rfl rfl rfl) ?_))))))
  refine s_q rfl rfl (q_mv (.inr rfl) (is_sc rfl)) ?_
  refine s_nil (n_n (w_ifF rfl (w_seq (w_reg (s_q rfl rfl (q_eql rfl rfl rfl) ?_)))))
  refine s_q rfl rfl (q_mv (.inr rfl) (is_sc rfl)) ?_
  refine s_nil (n_n (w_ifT rfl (w_seq (w_reg (s_q rfl rfl (q_mv (.inl rfl) (is_sc rfl)) ?_)))))
  refine s_q rfl rfl (q_ext rfl rfl rfl (x_bits w)) ?_
  refine s_q rfl rfl (q_mv (.inr rfl) (is_sc rfl)) ?_
  refine s_nil (n_n (w_seq (w_reg (s_q rfl rfl (q_mv (.inr rfl) (is_sc rfl)) ?_))))
  refine s_nil (n_n (w_seq (w_reg (s_q rfl rfl (q_mv (.inr rfl) (is_sc rfl)) ?_))))
  refine s_nil (n_n (w_reg (s_q rfl rfl (q_mv (.inr rfl) (is_sc rfl)) ?_)))
  refine s_nil (b_n (n_n (w_seq (w_reg (s_q rfl rfl (q_mv (.inl rfl) (is_sc rfl)) ?_)))))
  refine s_q rfl rfl (q_mv (.inl rfl) (is_sc rfl)) ?_
  refine s_q rfl rfl (q_mv (.inl rfl) (is_sc rfl)) ?_
  refine s_q rfl rfl (q_add rfl rfl rfl) ?_
  refine s_q rfl rfl (q_as (u64_eq (shr_nat w 63 64 (by omega))) (q_shr rfl rfl rfl (by decide))) ?_
  refine s_q rfl rfl (q_as (bl_eq hneg) (q_neq rfl rfl rfl)) ?_
  refine s_q rfl rfl (q_mv (.inr rfl) (is_sc rfl)) ?_
  refine s_nil (n_n (w_seq (w_draw [0, 0, 3, 7, 0, 16, 48, 127, 255] [0, 0, 0, 0, 0, 0, 0, 0, 0] rfl ?_)))
  refine d_q0 rfl rfl (q_mv (.inl rfl) (is_sc rfl)) ?_
  refine d_q0 rfl rfl (q_mv (.inl rfl) (is_sc rfl)) ?_
  refine d_q0 rfl rfl (q_as (u64_eq (shr_nat w 52 64 (by omega))) (q_shr rfl rfl rfl (by decide))) ?_
  refine d_q0 rfl rfl (q_as (i64_eq ((wrap_id (by omega) (by omega)).trans (by omega) : _ = ((w / 2 ^ 52 : Nat) : Int))) (q_cii rfl rfl)) ?_
  refine d_q0 rfl rfl (q_mv (.inl rfl) (is_sc rfl)) ?_
  refine d_q0 rfl rfl (q_as (i64_eq (by decide : _ = (2048 : Int))) (q_shl rfl rfl rfl (by decide))) ?_
  refine d_q0 rfl rfl (q_as (i64_eq (by decide : _ = (2047 : Int))) (q_sub rfl rfl rfl)) ?_
  refine d_q0 rfl rfl (q_as (i64_eq ((and_i64 (x := w / 2 ^ 52) (by omega) 11 (by omega) _ (by decide)).trans (by omega) : _ = ((L : Int) + 1019))) (q_and rfl rfl rfl)) ?_
  refine d_q0 rfl rfl (q_mv (.inr rfl) (is_sc rfl)) ?_
  refine d_nil (n_n (w_seq (w_reg (s_q rfl rfl (q_mv (.inl rfl) (is_sc rfl)) ?_))))
  refine s_q rfl rfl (q_mv (.inl rfl) (is_sc rfl)) ?_
  refine s_q rfl rfl (q_as (u64_eq (by decide : _ = (4503599627370496 : Int))) (q_shl rfl rfl rfl (by decide))) ?_
  refine s_q rfl rfl (q_as (u64_eq (by decide : _ = (4503599627370495 : Int))) (q_sub rfl rfl rfl)) ?_
  refine s_q rfl rfl (q_as (u64_eq ((and_low hw 52 (by omega) _ (by decide)).trans (by omega) : _ = ((w % 4503599627370496 : Nat) : Int))) (q_and rfl rfl rfl)) ?_
  refine s_q rfl rfl (q_mv (.inr rfl) (is_sc rfl)) ?_
  refine s_nil (n_n (w_seq (w_seq (w_reg (s_q rfl rfl (q_mv (.inl rfl) (is_sc rfl)) ?_)))))
  refine s_q rfl rfl (q_mv (.inl rfl) (is_sc rfl)) ?_
  refine s_q rfl rfl (q_as (i64_eq (by decide : _ = (2048 : Int))) (q_shl rfl rfl rfl (by decide))) ?_
  refine s_q rfl rfl (q_as (i64_eq (by decide : _ = (2047 : Int))) (q_sub rfl rfl rfl)) ?_
  refine s_q rfl rfl (q_as (bl_no (show ¬ ((L : Int) + 1019) = 2047 by omega)) (q_eql rfl rfl rfl)) ?_
  refine s_nil (n_n (w_ifF rfl (w_skip (n_n (w_seq (w_seq (w_reg (s_q rfl rfl (q_mv (.inl rfl) (is_sc rfl)) ?_))))))))
  refine s_q rfl rfl (q_as (bl_no (show ¬ ((L : Int) + 1019) = 0 by omega)) (q_eql rfl rfl rfl)) ?_
  refine s_nil (n_n (w_ifF rfl (w_reg (s_q rfl rfl (q_mv (.inl rfl) (is_sc rfl)) ?_))))
  refine s_q rfl rfl (q_mv (.inl rfl) (is_sc rfl)) ?_
  refine s_q rfl rfl (q_as (u64_eq (by decide : _ = (4503599627370496 : Int))) (q_shl rfl rfl rfl (by decide))) ?_
  refine s_q rfl rfl (q_as (u64_eq ((or_low (x := w % 4503599627370496) (y := 4503599627370496) (by omega) (by omega)).trans (congrArg _ hor) : _ = ((mm : Nat) : Int))) (q_or rfl rfl rfl)) ?_
  refine s_q rfl rfl (q_mv (.inr rfl) (is_sc rfl)) ?_
  refine s_nil (n_n (w_seq (w_reg (s_q rfl rfl (q_mv (.inl rfl) (is_sc rfl)) ?_))))
  refine s_q rfl rfl (q_mv (.inl rfl) (is_sc rfl)) ?_
  refine s_q rfl rfl (q_as (i64_eq ((wrap_id (by omega) (by omega)).trans (by omega) : _ = ((L : Int) - 4))) (q_add rfl rfl rfl)) ?_
  refine s_q rfl rfl (q_mv (.inr rfl) (is_sc rfl)) ?_
  refine s_nil (n_n (w_seq (w_seq (w_reg (s_q rfl rfl (q_mv (.inl rfl) (is_sc rfl)) ?_)))))
  refine s_q rfl rfl (q_eql rfl rfl rfl) ?_
  refine s_nil (n_n (w_ifF rfl (w_skip (n_n (w_seq (w_seq (w_reg (s_q rfl rfl (q_mv (.inl rfl) (is_sc rfl)) ?_))))))))
  refine s_q rfl rfl (q_eql rfl rfl rfl) ?_
  refine s_q rfl rfl (q_mv (.inl rfl) (is_sc rfl)) ?_
  refine s_q rfl rfl (q_mv (.inl rfl) (is_sc rfl)) ?_
  refine s_q rfl rfl (q_eql rfl rfl rfl) ?_
  refine s_q rfl rfl (q_pickF rfl rfl (is_sc rfl)) ?_
  refine s_nil (n_n (w_ifF rfl (w_skip (n_n (w_seq (w_seq (w_reg (s_q rfl rfl (q_mv (.inl rfl) (is_sc rfl)) ?_))))))))
  refine s_q rfl rfl (q_as (bl_no (show ¬ ((mm : Nat) : Int) = 0 by omega)) (q_eql rfl rfl rfl)) ?_
  refine s_nil (n_n (w_ifF rfl (w_skip (n_n (w_seq (w_seq (w_reg (s_q rfl rfl (q_mv (.inl rfl) (is_sc rfl)) ?_))))))))
  refine s_q rfl rfl (q_lss rfl rfl rfl) ?_
  refine s_nil (n_n (w_ifT rfl (w_seq (w_reg (s_o rfl rfl (ao_allocH rfl fun k16 hk16 => ?_))))))
  have hk : k0 ≠ k16 := fun e => by have e2 : h k16 = none := hk16; rw [← e, h0] at e2; cases e2
  obtain ⟨h1, hh1⟩ : ∃ h1 : Heap, h1 = ((AH.start h).hset k16 (List.map D.sc [Value.int .u8 0, Value.int .u8 0, Value.int .u8 0, Value.int .u8 0, Value.int .u8 0, Value.int .u8 0, Value.int .u8 0, Value.int .u8 0, Value.int .u8 0, Value.int .u8 0, Value.int .u8 0, Value.int .u8 0, Value.int .u8 0, Value.int .u8 0, Value.int .u8 0, Value.int .u8 0, Value.int .u8 0, Value.int .u8 0, Value.int .u8 0, Value.int .u8 0, Value.int .u8 0, Value.int .u8 0, Value.int .u8 0, Value.int .u8 0, Value.int .u8 0, Value.int .u8 0, Value.int .u8 0, Value.int .u8 0, Value.int .u8 0, Value.int .u8 0, Value.int .u8 0, Value.int .u8 0])).h := ⟨_, rfl⟩
  have hA16 : h1 k16 = some (bc (List.replicate 32 0)) := by rw [hh1]; show (if k16 = k16 then _ else _) = _; rw [if_pos rfl]; rfl
  have hA0 : h1 k0 = some sp0 := by rw [hh1]; show (if k0 = k16 then _ else _) = _; rw [if_neg hk]; exact h0
  rw [show (AH.start h).hset k16 (List.map D.sc [Value.int .u8 0, Value.int .u8 0, Value.int .u8 0, Value.int .u8 0, Value.int .u8 0, Value.int .u8 0, Value.int .u8 0, Value.int .u8 0, Value.int .u8 0, Value.int .u8 0, Value.int .u8 0, Value.int .u8 0, Value.int .u8 0, Value.int .u8 0, Value.int .u8 0, Value.int .u8 0, Value.int .u8 0, Value.int .u8 0, Value.int .u8 0, Value.int .u8 0, Value.int .u8 0, Value.int .u8 0, Value.int .u8 0, Value.int .u8 0, Value.int .u8 0, Value.int .u8 0, Value.int .u8 0, Value.int .u8 0, Value.int .u8 0, Value.int .u8 0, Value.int .u8 0, Value.int .u8 0]) = AH.start h1 by rw [hh1]; rfl]
  clear hh1 hk16
  refine s_nil (n_n (w_seq (w_reg (s_q rfl rfl (q_mv (.inl rfl) (is_sc rfl)) ?_))))
  refine s_q rfl rfl (q_call rfl rfl rfl rfl hlen) ?_
  refine s_q rfl rfl (q_as (i64_eq ((wrap_id (by omega) (by omega)).trans (by omega) : _ = (11 : Int))) (q_sub rfl rfl rfl)) ?_
  refine s_q rfl rfl (q_mv (.inr rfl) (is_sc rfl)) ?_
  refine s_nil (n_n (w_seq (w_reg (s_q rfl rfl (q_mv (.inl rfl) (is_sc rfl)) ?_))))
  refine s_q rfl rfl (q_mv (.inl rfl) (is_sc rfl)) ?_
  refine s_q rfl rfl (q_as (u64_eq ((shl_nat mm 11 (by omega) (by rw [hmw]; exact hword)).trans (congrArg _ hmw) : _ = ((m : Nat) : Int))) (q_shl rfl rfl rfl (by decide))) ?_
  refine s_q rfl rfl (q_mv (.inr rfl) (is_sc rfl)) ?_
  refine s_nil (n_n (w_seq (w_reg (s_q rfl rfl (q_mv (.inl rfl) (is_sc rfl)) ?_))))
  refine s_q rfl rfl (q_mv (.inl rfl) (is_sc rfl)) ?_
  refine s_q rfl rfl (q_as (i64_eq ((wrap_id (by omega) (by omega)).trans (by omega) : _ = ((L : Int) - 15))) (q_sub rfl rfl rfl)) ?_
  refine s_q rfl rfl (q_mv (.inr rfl) (is_sc rfl)) ?_
  refine s_nil (n_n (w_seq (w_reg (s_q rfl rfl (q_mv (.inl rfl) (is_sc rfl)) ?_))))
  refine s_q rfl rfl (q_mv (.inl rfl) (is_sc rfl)) ?_
  refine s_q rfl rfl (q_mv (.inl rfl) (is_sc rfl)) ?_
  refine s_q rfl rfl (q_as (i64_eq ((wrap_id (by omega) (by omega)).trans (by omega) : _ = ((L : Int) - 67))) (q_sub rfl rfl rfl)) ?_
  refine s_q rfl rfl (q_call rfl rfl rfl rfl hsh) ?_
  refine s_q rfl rfl (q_mv (.inl rfl) (by first | exact (rfl : _ = D.tup [_, _]) | exact rfl)) ?_
  refine s_q rfl rfl (q_extract rfl rfl rfl) ?_
  refine s_q rfl rfl (q_extract rfl rfl rfl) ?_
  refine s_q rfl rfl (q_mv (.inr rfl) (is_sc rfl)) ?_
  refine s_q rfl rfl (q_mv (.inr rfl) (is_sc rfl)) ?_
  refine s_nil (n_n (w_seq (w_draw [0, 0, 0, 0, 8, 31, 63, 127, 127, 255, 1023] [0, 0, 0, 0, 0, 3, 0, 0, 0, 0, 0] rfl ?_)))
  refine d_q0 rfl rfl (q_arrHs rfl rfl) ?_
  refine d_q0 rfl rfl (q_mv (.inl rfl) (is_sc rfl)) ?_
  refine d_q0 rfl rfl (q_mv (.inl rfl) (is_sc rfl)) ?_
  refine d_q0 rfl rfl (q_mv (.inl rfl) (is_sc rfl)) ?_
  refine d_q0 rfl rfl (q_call rfl rfl rfl rfl (pf_numDigits N (by omega) (by omega) T)) ?_
  refine d_s3 rfl rfl (as_callD rfl rfl rfl rfl (pf_setDigits h1 k16 N (-((p : Int) - 1)) _ hA16 rfl hN0 (by omega) (by omega))) ?_
  refine d_q0 rfl rfl (q_mv (.inl rfl) (by first | exact (rfl : _ = D.tup [_, _]) | exact rfl)) ?_
  refine d_q0 rfl rfl (q_extract rfl rfl rfl) ?_
  refine d_q0 rfl rfl (q_extract rfl rfl rfl) ?_
  refine d_q0 rfl rfl (q_mv (.inr rfl) (is_sc rfl)) ?_
  refine d_q0 rfl rfl (q_mv (.inr rfl) (is_sc rfl)) ?_
  refine d_nil (n_n (w_seq (w_seq (w_reg (s_q rfl rfl (q_mv (.inl rfl) (is_sc rfl)) ?_)))))
  refine s_nil (n_n (w_block (w_seq (w_seq (w_reg (s_q rfl rfl (q_eql rfl rfl rfl) ?_))))))
  refine s_q rfl rfl (q_mv (.inr rfl) (is_sc rfl)) ?_
  refine s_nil (n_n (w_ifF rfl (w_reg (s_q rfl rfl (q_eql rfl rfl rfl) ?_))))
  refine s_q rfl rfl (q_mv (.inr rfl) (is_sc rfl)) ?_
  refine s_nil (n_n (w_ifF rfl (w_seq (w_reg (s_q rfl rfl (q_eql rfl rfl rfl) ?_)))))
  refine s_q rfl rfl (q_mv (.inr rfl) (is_sc rfl)) ?_
  refine s_nil (n_n (w_ifF rfl (w_seq (w_seq (w_reg (s_q rfl rfl (q_eql rfl rfl rfl) ?_))))))
  refine s_q rfl rfl (q_mv (.inr rfl) (is_sc rfl)) ?_
  refine s_nil (n_n (w_ifT rfl (w_skip (n_n (w_ifT rfl (w_reg (s_q rfl rfl (q_mv (.inl rfl) (is_sc rfl)) ?_)))))))
  refine s_q rfl rfl (q_mv (.inr rfl) (is_sc rfl)) ?_
  refine s_nil (b_n (n_n (w_seq (w_reg (s_q rfl rfl (q_mv (.inl rfl) (by first | exact is_im rfl | exact is_gs rfl | exact is_lit rfl | exact is_ms rfl | exact is_sc rfl | exact rfl)) ?_)))))
  refine s_q rfl rfl (q_mv (.inl rfl) (is_sc rfl)) ?_
  refine s_q rfl rfl (q_arrHs rfl rfl) ?_
  refine s_q rfl rfl (q_mv (.inl rfl) (is_sc rfl)) ?_
  refine s_q rfl rfl (q_mv (.inl rfl) (is_sc rfl)) ?_
  refine s_q rfl rfl (q_mv (.inl rfl) (is_sc rfl)) ?_
  refine s_q rfl rfl (q_mv (.inl rfl) (is_sc rfl)) ?_
  refine s_o rfl rfl (ao_callH rfl rfl rfl rfl (pf_EFG _ k16 k0 c0 _ sp0 (bc (List.replicate (tzc N) 48) ++ (bc (List.replicate 32 0)).drop (Lib.nDigits N)) (Lib.decDigits (core N)) neg _ (by show setH h1 k16 _ k0 = _; rw [setH_off hk]; exact hA0) hs0 hc0 hcm (by show setH h1 k16 _ k16 = _; rw [setH_at, c3, ← List.append_assoc, bc_app]) hk (Lib.decDigits_length _).symm hcp (by omega) (by rw [List.length_append, List.length_append, List.length_drop, bc_len, bc_len, bc_len, List.length_replicate, List.length_replicate, Lib.decDigits_length]; omega) hdp) fun vf Hvf hvf => ?_)
  obtain ⟨k9, c9, s9, rfl, hx9⟩ := hvf.row
  refine s_q rfl rfl (q_mv (.inr rfl) (by first | exact is_im rfl | exact is_gs rfl | exact is_lit rfl | exact is_ms rfl | exact is_sc rfl | exact rfl)) ?_
  refine s_nil (n_n (w_ret (n_r ?_)))
  -- end 0
  refine r_r (ra_tmp (by first | exact is_im rfl | exact is_gs rfl | exact is_lit rfl | exact is_ms rfl | exact is_sc rfl | exact rfl) ra_nil) (by first | exact is_im rfl | exact is_gs rfl | exact is_lit rfl | exact is_ms rfl | exact is_sc rfl | exact rfl) (by exact rfl) (Sub.refl _) ?_
  exact ⟨k9, c9, s9, rfl, hx9⟩


-- internal/strconv.FormatFloat
theorem pf_FFZ (w : Nat) (neg : Bool) (hw : w < 2 ^ 64) (hneg : decide (¬ ((w / 2 ^ 63 : Nat) : Int) = 0) = neg) (hz : w % 2 ^ 63 = 0) : PF Tryz.prog G 236 [fl w, .sc (.int .u8 103), i64 (-1), i64 64] (st ((if neg = true then [45] else []) ++ [48])) := by
  refine PC.intro rfl Tryz.func236 rfl (Nat.le_of_ble_eq_true rfl) rfl ?_
  refine w_seq (w_reg (s_q rfl rfl (q_mv (.inr rfl) (is_sc rfl)) ?_))
  refine s_nil (n_n (w_seq (w_seq (w_reg (s_q rfl rfl (q_mv (.inl rfl) (is_sc rfl)) ?_)))))
  refine s_q rfl rfl (q_eql rfl rfl rfl) ?_
  refine s_nil (n_n (w_ifF rfl (w_skip (n_n (w_seq (w_seq (w_reg (s_q rfl rfl (q_mv (.inl rfl) (is_sc rfl)) ?_))))))))
  refine s_q rfl rfl (q_eql rfl rfl rfl) ?_
  refine s_nil (n_n (w_ifT rfl (w_seq (w_reg (s_q rfl rfl (q_mv (.inl rfl) (is_sc rfl)) ?_)))))
  refine s_q rfl rfl (q_add rfl rfl rfl) ?_
  refine s_q rfl rfl (q_as (i64_eq (by first | rfl | simp : _ = (24 : Int))) (q_max rfl rfl rfl)) ?_
  refine s_o rfl rfl (ao_makeH rfl rfl rfl (by decide) (by decide) (by decide) (by decide) fun k26 hk26 => ?_)
  refine s_q rfl rfl (q_mv (.inl rfl) (is_sc rfl)) ?_
  refine s_q rfl rfl (q_mv (.inl rfl) (is_sc rfl)) ?_
  refine s_q rfl rfl (q_mv (.inl rfl) (is_sc rfl)) ?_
  refine s_o rfl rfl (ao_callH rfl rfl rfl rfl (pf_ftoaZ _ k26 24 _ (by show (if k26 = k26 then _ else _) = _; rw [if_pos rfl]) (by simp) (by decide) (by decide) w neg hw hneg hz) fun v30 Hv30 hv30 => ?_)
  obtain ⟨k, cap, sp, rfl, hh⟩ := hv30
  refine s_q rfl rfl (q_csbHs (s := ((if neg = true then [45] else []) ++ [48])) rfl rfl hh (by rw [List.drop_zero, ← bc_len, List.take_left]) rfl) ?_
  refine s_q rfl rfl (q_mv (.inr rfl) (is_sc rfl)) ?_
  refine s_nil (n_n (w_ret (n_r ?_)))
  -- end 0
  refine r_r (ra_tmp (is_sc rfl) ra_nil) (by exact (is_sc rfl)) (by exact rfl) sub_no ?_
  rfl


-- internal/strconv.FormatFloat
theorem pf_FFN (w : Nat) (neg : Bool) (hw : w < 2 ^ 64) (hneg : decide (¬ ((w / 2 ^ 63 : Nat) : Int) = 0) = neg) (a L : Nat) (hL : L ≤ 40) (hL1 : 2 ^ L ≤ a) (hL3 : a < 2 ^ (L + 1)) (hE : w % 2 ^ 63 / 4503599627370496 = L + 1019) (hM : a * 2 ^ (52 - L) = 4503599627370496 + w % 4503599627370496) (T : Tabs G) : PF Tryz.prog G 236 [fl w, .sc (.int .u8 103), i64 (-1), i64 64] (st (numT neg a L)) := by
  refine PC.intro rfl Tryz.func236 rfl (Nat.le_of_ble_eq_true rfl) rfl ?_
  refine w_seq (w_reg (s_q rfl rfl (q_mv (.inr rfl) (is_sc rfl)) ?_))
  refine s_nil (n_n (w_seq (w_seq (w_reg (s_q rfl rfl (q_mv (.inl rfl) (is_sc rfl)) ?_)))))
  refine s_q rfl rfl (q_eql rfl rfl rfl) ?_
  refine s_nil (n_n (w_ifF rfl (w_skip (n_n (w_seq (w_seq (w_reg (s_q rfl rfl (q_mv (.inl rfl) (is_sc rfl)) ?_))))))))
  refine s_q rfl rfl (q_eql rfl rfl rfl) ?_
  refine s_nil (n_n (w_ifT rfl (w_seq (w_reg (s_q rfl rfl (q_mv (.inl rfl) (is_sc rfl)) ?_)))))
  refine s_q rfl rfl (q_add rfl rfl rfl) ?_
  refine s_q rfl rfl (q_as (i64_eq (by first | rfl | simp : _ = (24 : Int))) (q_max rfl rfl rfl)) ?_
  refine s_o rfl rfl (ao_makeH rfl rfl rfl (by decide) (by decide) (by decide) (by decide) fun k26 hk26 => ?_)
  refine s_q rfl rfl (q_mv (.inl rfl) (is_sc rfl)) ?_
  refine s_q rfl rfl (q_mv (.inl rfl) (is_sc rfl)) ?_
  refine s_q rfl rfl (q_mv (.inl rfl) (is_sc rfl)) ?_
  refine s_o rfl rfl (ao_callH rfl rfl rfl rfl (pf_ftoa _ k26 24 _ (by show (if k26 = k26 then _ else _) = _; rw [if_pos rfl]) (by simp) (by decide) (by decide) w neg hw hneg a L hL hL1 hL3 hE hM T) fun v30 Hv30 hv30 => ?_)
  obtain ⟨k, cap, sp, rfl, hh⟩ := hv30
  refine s_q rfl rfl (q_csbHs (s := (numT neg a L)) rfl rfl hh (by rw [List.drop_zero, ← bc_len, List.take_left]) rfl) ?_
  refine s_q rfl rfl (q_mv (.inr rfl) (is_sc rfl)) ?_
  refine s_nil (n_n (w_ret (n_r ?_)))
  -- end 0
  refine r_r (ra_tmp (is_sc rfl) ra_nil) (by exact (is_sc rfl)) (by exact rfl) sub_no ?_
  rfl


theorem pf_FF (w a : Nat) (v : Int) (hw : w < 2 ^ 64) (hv : Fx w v) (ha : v.natAbs * 16 = a * unit) (ha2 : a < 2 ^ 41) (T : Tabs G) : PF Tryz.prog G 236 [fl w, .sc (.int .u8 103), i64 (-1), i64 64] (st (txtN (decide (¬ ((w / 2 ^ 63 : Nat) : Int) = 0)) a)) := by
  unfold txtN
  by_cases h0 : a = 0
  · rw [if_pos h0]
    refine pf_FFZ w _ hw rfl ?_
    exact fx_none hw hv (by have := unit_pos; rw [h0, Nat.zero_mul] at ha; omega)
  · rw [if_neg h0]
    have hL : a.log2 ≤ 40 := by have := (Nat.log2_lt h0).2 ha2; omega
    have hL1 : 2 ^ a.log2 ≤ a := Nat.log2_self_le h0
    have hL3 : a < 2 ^ (a.log2 + 1) := Nat.lt_log2_self
    obtain ⟨hE, hM⟩ := fx_parts hw hv ha hL1 hL3 hL
    exact pf_FFN w _ hw rfl a a.log2 hL hL1 hL3 hE hM T


-- strconv.FormatFloat
theorem pf_FormatFloat (w a : Nat) (v : Int) (hw : w < 2 ^ 64) (hv : Fx w v) (ha : v.natAbs * 16 = a * unit) (ha2 : a < 2 ^ 41) (T : Tabs G) : PF Tryz.prog G 142 [fl w, .sc (.int .u8 103), i64 (-1), i64 64] (st (txtN (decide (¬ ((w / 2 ^ 63 : Nat) : Int) = 0)) a)) := by
  refine PC.intro rfl Tryz.func142 rfl (Nat.le_of_ble_eq_true rfl) rfl ?_
  refine w_seq (w_reg (s_q rfl rfl (q_mv (.inr rfl) (is_sc rfl)) ?_))
  refine s_nil (n_n (w_seq (w_reg (s_q rfl rfl (q_mv (.inl rfl) (is_sc rfl)) ?_))))
  refine s_q rfl rfl (q_mv (.inl rfl) (is_sc rfl)) ?_
  refine s_q rfl rfl (q_mv (.inl rfl) (is_sc rfl)) ?_
  refine s_q rfl rfl (q_mv (.inl rfl) (is_sc rfl)) ?_
  refine s_q rfl rfl (q_call rfl rfl rfl rfl (pf_FF w a v hw hv ha ha2 T)) ?_
  refine s_q rfl rfl (q_mv (.inr rfl) (is_sc rfl)) ?_
  refine s_nil (n_n (w_ret ?_))
  -- end 0
  refine r_r (ra_tmp (is_sc rfl) ra_nil) (by exact (is_sc rfl)) (by exact rfl) sub_no ?_
  rfl

end Go.Proofs.YtopgbalmdocboaaGreatDoor.Zz
