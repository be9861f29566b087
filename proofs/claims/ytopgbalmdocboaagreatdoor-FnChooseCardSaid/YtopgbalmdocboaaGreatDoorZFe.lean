/- Walks of the functions, printed by program, and the logic behind them: each theorem says what one function or one step answers. -/
import Derived.Test.YtopgbalmdocboaaGreatDoorZI
import Derived.Test.YtopgbalmdocboaaGreatDoorZFz
import Derived.Test.YtopgbalmdocboaaGreatDoorZTx
namespace Go.Proofs.YtopgbalmdocboaaGreatDoor.Zz
open Go.Abs
set_option maxRecDepth 100000
set_option linter.unusedVariables false
set_option linter.unusedSimpArgs false
set_option maxHeartbeats 4000000
variable {G : Nat → D}

-- internal/strconv.fmtEFG
theorem pf_fmtE (h : Heap) (b k0 c0 : Nat) (sp0 rest : List D) (ds : List UInt8) (neg : Bool) (h0 : h k0 = some sp0) (hs0 : sp0.length = c0) (hc0 : 0 < c0) (hcm : c0 ≤ maxLen) (hb : h b = some (bc ds ++ rest)) (hbk : k0 ≠ b) (hn : 0 < ds.length) (hn20 : ds.length ≤ 20) (hr : (bc ds ++ rest).length = 32) (E : Nat) (h6 : 6 ≤ E) (h100 : E < 100) : ACall Tryz.prog G 287 true [.hs k0 0 0 c0, bl neg, .hs b 0 32 32, i64 ((E : Int) + 1), i64 ds.length, i64 ds.length, .sc (.int .u8 103), bl true] h (fun v h' => RowB h' b (some (bc ds ++ rest)) v ((if neg = true then [45] else []) ++ fmtT ds ((E : Int) + 1))) := by
  have hR : RowB h b (some (bc ds ++ rest)) (.hs k0 0 0 c0) [] := ⟨k0, c0, sp0, rfl, h0, hs0, Nat.zero_le _, hcm, hc0, fun cs e => by cases e; exact ⟨hb, hbk⟩⟩
  clear h0 hs0 hc0 hcm hbk
  refine ACall.intro rfl Tryz.func287 rfl (Nat.le_of_ble_eq_true rfl) rfl ?_
  refine w_seq (w_reg (s_q rfl rfl (q_mv (.inr rfl) (by first | exact is_im rfl | exact is_gs rfl | exact is_lit rfl | exact is_ms rfl | exact is_sc rfl | exact rfl)) ?_))
  refine s_nil (n_n (w_seq (w_seq (w_reg (s_q rfl rfl (q_mv (.inl rfl) (is_sc rfl)) ?_)))))
  refine s_q rfl rfl (q_eql rfl rfl rfl) ?_
  refine s_q rfl rfl (q_mv (.inl rfl) (is_sc rfl)) ?_
  refine s_off rfl rfl ?_
  refine s_off rfl rfl ?_
  refine s_q rfl rfl (q_pickT rfl rfl (is_sc rfl)) ?_
  refine s_nil (n_n (w_ifT rfl (w_seq (w_reg (s_q rfl rfl (q_mv (.inl rfl) (is_sc rfl)) ?_)))))
  refine s_q rfl rfl (q_mv (.inr rfl) (is_sc rfl)) ?_
  refine s_nil (n_n (w_seq (w_seq (w_reg (s_q rfl rfl (q_mv (.inl rfl) (is_sc rfl)) ?_)))))
  refine s_q rfl rfl (q_mv (.inl rfl) (is_sc rfl)) ?_
  refine s_q rfl rfl (q_as (bl_no (show ¬ (ds.length : Int) < (ds.length : Int) by omega)) (q_gtr rfl rfl rfl)) ?_
  refine s_q rfl rfl (q_mv (.inl rfl) (is_sc rfl)) ?_
  refine s_off rfl rfl ?_
  refine s_off rfl rfl ?_
  refine s_off rfl rfl ?_
  refine s_q rfl rfl (q_pickF rfl rfl (is_sc rfl)) ?_
  refine s_nil (n_n (w_ifF rfl (w_skip (n_n (w_seq (w_seq (w_reg (s_q rfl rfl (q_mv (.inl rfl) (is_sc rfl)) ?_))))))))
  refine s_nil (n_n (w_ifT rfl (w_reg (s_q rfl rfl (q_mv (.inr rfl) (is_sc rfl)) ?_))))
  refine s_nil (n_n (w_seq (w_reg (s_q rfl rfl (q_mv (.inl rfl) (is_sc rfl)) ?_))))
  refine s_q rfl rfl (q_as (i64_eq ((wrap_id (by omega) (by omega)).trans (by omega) : _ = ((E : Nat) : Int))) (q_sub rfl rfl rfl)) ?_
  refine s_q rfl rfl (q_mv (.inr rfl) (is_sc rfl)) ?_
  refine s_nil (n_n (w_seq (w_reg (s_q rfl rfl (q_mv (.inl rfl) (is_sc rfl)) ?_))))
  refine s_q rfl rfl (q_as (bl_no (show ¬ (E : Int) < -4 by omega)) (q_lss rfl rfl rfl)) ?_
  refine s_q rfl rfl (q_mv (.inl rfl) (is_sc rfl)) ?_
  refine s_q rfl rfl (q_mv (.inl rfl) (is_sc rfl)) ?_
  refine s_q rfl rfl (q_mv (.inl rfl) (is_sc rfl)) ?_
  refine s_q rfl rfl (q_as (bl_yes (show (6 : Int) ≤ (E : Int) by omega)) (q_geq rfl rfl rfl)) ?_
  refine s_q rfl rfl (q_pickF rfl rfl (is_sc rfl)) ?_
  refine s_nil (n_n (w_ifT rfl (w_seq (w_seq (w_reg (s_q rfl rfl (q_mv (.inl rfl) (is_sc rfl)) ?_))))))
  refine s_q rfl rfl (q_mv (.inl rfl) (is_sc rfl)) ?_
  refine s_q rfl rfl (q_as (bl_no (show ¬ (ds.length : Int) < (ds.length : Int) by omega)) (q_gtr rfl rfl rfl)) ?_
  refine s_nil (n_n (w_ifF rfl (w_skip (n_n (w_seq (w_reg (s_q rfl rfl (q_mv (.inl rfl) (is_sc rfl)) ?_)))))))
  refine s_q rfl rfl (q_as (i64_eq ((wrap_id (by omega) (by omega)).trans (by omega) : _ = ((ds.length - 1 : Nat) : Int))) (q_sub rfl rfl rfl)) ?_
  refine s_q rfl rfl (q_mv (.inr rfl) (is_sc rfl)) ?_
  refine s_nil (n_n (w_reg (s_q rfl rfl (q_mv (.inl rfl) (is_sc rfl)) ?_)))
  refine s_q rfl rfl (q_as (u8_eq (by decide : _ = (204 : Int))) (q_add rfl rfl rfl)) ?_
  refine s_q rfl rfl (q_as (u8_eq (by decide : _ = (101 : Int))) (q_sub rfl rfl rfl)) ?_
  refine s_q rfl rfl (q_mv (.inr rfl) (is_sc rfl)) ?_
  refine s_nil (n_n (w_seq (w_seq (w_reg (s_q rfl rfl (q_mv (.inl rfl) (is_sc rfl)) ?_)))))
  refine s_nil (n_n (w_block (w_seq (w_seq (w_reg (s_q rfl rfl (q_eql rfl rfl rfl) ?_))))))
  refine s_q rfl rfl (q_mv (.inr rfl) (is_sc rfl)) ?_
  refine s_nil (n_n (w_ifT rfl ?_))
  refine w_skip (n_n (w_ifT rfl ?_))
  refine w_seq (w_seq (w_reg (s_q rfl rfl (q_mv (.inl rfl) (is_sc rfl)) ?_)))
  refine s_nil (n_n (w_if (is_scb rfl) (fun h78 => ?_) (fun h78 => ?_)))
  · obtain rfl : neg = true := h78
    refine w_env [(1, bl true), (0, .hs k0 0 0 c0), (2, .hs b 0 32 32), (3, i64 ((E : Int) + 1)), (4, i64 ds.length), (5, i64 ((ds.length - 1 : Nat) : Int)), (6, .sc (.int .u8 101))] ⟨rfl, rfl, rfl, rfl, rfl, rfl, rfl, trivial⟩ fun env hB => ?_
    rw [hB.eq]; clear hB
    refine w_reg (s_q rfl rfl (q_mv (.inl rfl) (by first | exact is_im rfl | exact is_gs rfl | exact is_lit rfl | exact is_ms rfl | exact is_sc rfl | exact rfl)) ?_)
    refine s_q rfl rfl (q_bs rfl (pt_cons (is_sc rfl) pt_nil) (by decide) (by decide) (by exact (rfl : _ = some [_])) (by exact (rfl : _ = [_])) (by exact rfl) (by exact rfl)) ?_
    refine s_o rfl rfl (ao_appRowC (ys := [45]) rfl rfl hR (by exact rfl) (.inl rfl) (by simp) (by simp only [List.length_append, List.length_cons, List.length_nil, List.length_take, List.length_replicate, List.length_drop]; omega) fun k81 n81 c81 H81 hR => ?_)
    refine s_q rfl rfl (q_mv (.inr rfl) (by first | exact is_im rfl | exact is_gs rfl | exact is_lit rfl | exact is_ms rfl | exact is_sc rfl | exact rfl)) ?_
    refine s_nil (n_n (w_seq (w_reg (s_q rfl rfl (q_mv (.inr rfl) (is_sc rfl)) ?_))))
    refine s_nil (n_n (w_seq (w_seq (w_reg (s_q rfl rfl (q_mv (.inl rfl) (is_sc rfl)) ?_)))))
    refine s_q rfl rfl (q_as (bl_yes (show ¬ ((ds.length : Nat) : Int) = 0 by omega)) (q_neq rfl rfl rfl)) ?_
    refine s_nil (n_n (w_ifT rfl (w_reg (s_q rfl rfl (q_mv (.inl rfl) (by first | exact is_im rfl | exact is_gs rfl | exact is_lit rfl | exact is_ms rfl | exact is_sc rfl | exact rfl)) ?_))))
    refine s_q rfl rfl (q_indexHs rfl rfl rfl (by decide) (by decide)) ?_
    refine s_q rfl rfl (q_loadH rfl rfl (d := u8d (ds[0])) (by exact get_bc hR.base hn)) ?_
    refine s_q rfl rfl (q_mv (.inr rfl) (is_sc rfl)) ?_
    refine s_nil (n_n (w_seq (w_reg (s_q rfl rfl (q_mv (.inl rfl) (by first | exact is_im rfl | exact is_gs rfl | exact is_lit rfl | exact is_ms rfl | exact is_sc rfl | exact rfl)) ?_))))
    refine s_q rfl rfl (q_mv (.inl rfl) (is_sc rfl)) ?_
    refine s_q rfl rfl (q_bs rfl (pt_cons (is_sc rfl) pt_nil) (by decide) (by decide) (by exact (rfl : _ = some [_])) (by exact (rfl : _ = [_])) (by exact rfl) (by exact rfl)) ?_
    refine s_o rfl rfl (ao_appRowC (ys := [ds[0]]) rfl rfl hR (by exact rfl) (.inl rfl) (by simp) (by simp only [List.length_append, List.length_cons, List.length_nil, List.length_take, List.length_replicate, List.length_drop]; omega) fun k90 n90 c90 H90 hR => ?_)
    refine s_q rfl rfl (q_mv (.inr rfl) (by first | exact is_im rfl | exact is_gs rfl | exact is_lit rfl | exact is_ms rfl | exact is_sc rfl | exact rfl)) ?_
    refine s_nil (n_n (w_seq (w_seq (w_reg (s_q rfl rfl (q_mv (.inl rfl) (is_sc rfl)) ?_)))))
    refine s_q rfl rfl (q_gtr rfl rfl rfl) ?_
    refine s_nil (n_n (w_if (is_scb rfl) (fun h92 => ?_) (fun h92 => ?_)))
    · have h1 : 1 < ds.length := by have h9 : (0 : Int) < ((ds.length - 1 : Nat) : Int) := of_decide_eq_true h92; omega
      have hT := fmtT_e1 h6 hn h1
      refine w_env [(0, .hs k90 0 n90 c90), (2, .hs b 0 32 32), (3, i64 ((E : Int) + 1)), (4, i64 ds.length), (5, i64 ((ds.length - 1 : Nat) : Int)), (6, .sc (.int .u8 101))] ⟨rfl, rfl, rfl, rfl, rfl, rfl, trivial⟩ fun env hB => ?_
      rw [hB.eq]; clear hB
      refine w_seq (w_reg (s_q rfl rfl (q_mv (.inl rfl) (by first | exact is_im rfl | exact is_gs rfl | exact is_lit rfl | exact is_ms rfl | exact is_sc rfl | exact rfl)) ?_))
      refine s_q rfl rfl (q_bs rfl (pt_cons (is_sc rfl) pt_nil) (by decide) (by decide) (by exact (rfl : _ = some [_])) (by exact (rfl : _ = [_])) (by exact rfl) (by exact rfl)) ?_
      refine s_o rfl rfl (ao_appRowC (ys := [46]) rfl rfl hR (by exact rfl) (.inl rfl) (by simp) (by simp only [List.length_append, List.length_cons, List.length_nil, List.length_take, List.length_replicate, List.length_drop]; omega) fun k95 n95 c95 H95 hR => ?_)
      refine s_q rfl rfl (q_mv (.inr rfl) (by first | exact is_im rfl | exact is_gs rfl | exact is_lit rfl | exact is_ms rfl | exact is_sc rfl | exact rfl)) ?_
      refine s_nil (n_n (w_seq (w_reg (s_q rfl rfl (q_mv (.inr rfl) (is_sc rfl)) ?_))))
      refine s_nil (n_n (w_seq (w_reg (s_q rfl rfl (q_mv (.inl rfl) (is_sc rfl)) ?_))))
      refine s_q rfl rfl (q_mv (.inl rfl) (is_sc rfl)) ?_
      refine s_q rfl rfl (q_as (i64_eq ((wrap_id (by omega) (by omega)).trans (by omega) : _ = ((ds.length : Nat) : Int))) (q_add rfl rfl rfl)) ?_
      refine s_q rfl rfl (q_as (i64_eq (by split <;> omega : _ = ((ds.length : Nat) : Int))) (q_min rfl rfl rfl)) ?_
      refine s_q rfl rfl (q_mv (.inr rfl) (is_sc rfl)) ?_
      refine s_nil (n_n (w_seq (w_seq (w_reg (s_q rfl rfl (q_mv (.inl rfl) (is_sc rfl)) ?_)))))
      refine s_q rfl rfl (q_mv (.inl rfl) (is_sc rfl)) ?_
      refine s_q rfl rfl (q_as (bl_yes (show (1 : Int) < (ds.length : Int) by omega)) (q_lss rfl rfl rfl)) ?_
      refine s_nil (n_n (w_ifT rfl (w_seq (w_reg (s_q rfl rfl (q_mv (.inl rfl) (by first | exact is_im rfl | exact is_gs rfl | exact is_lit rfl | exact is_ms rfl | exact is_sc rfl | exact rfl)) ?_)))))
      refine s_q rfl rfl (q_mv (.inl rfl) (by first | exact is_im rfl | exact is_gs rfl | exact is_lit rfl | exact is_ms rfl | exact is_sc rfl | exact rfl)) ?_
      refine s_q rfl rfl (q_mv (.inl rfl) (is_sc rfl)) ?_
      refine s_q rfl rfl (q_mv (.inl rfl) (is_sc rfl)) ?_
      refine s_q rfl rfl (q_cutHs (a := 1) (b := ds.length) (m := ds.length - 1) (c := 31) (o' := 1) rfl rfl ⟨_, _, rfl, by decide, rfl⟩ ⟨_, _, rfl, by omega, by omega⟩ (by omega) (by omega) (.inl (by omega)) rfl rfl rfl) ?_
      refine s_o rfl rfl (ao_appRowC (ys := ((ds.drop 1).take (ds.length - 1))) rfl rfl hR (by exact rfl) (src_bc hR.base (by omega) (Nat.le_refl _)) (by rw [List.length_take, List.length_drop]; omega) (by simp only [List.length_append, List.length_cons, List.length_nil, List.length_take, List.length_replicate, List.length_drop]; omega) fun k108 n108 c108 H108 hR => ?_)
      refine s_q rfl rfl (q_mv (.inr rfl) (by first | exact is_im rfl | exact is_gs rfl | exact is_lit rfl | exact is_ms rfl | exact is_sc rfl | exact rfl)) ?_
      refine s_nil (n_n (w_reg (s_q rfl rfl (q_mv (.inl rfl) (is_sc rfl)) ?_)))
      refine s_q rfl rfl (q_mv (.inr rfl) (is_sc rfl)) ?_
      refine s_nil (n_n (w_seq (w_reg (s_q rfl rfl (q_mv (.inl rfl) (is_sc rfl)) ?_))))
      refine s_q rfl rfl (q_as (i64_eq ((wrap_id (by omega) (by omega)).trans (by omega) : _ = ((ds.length : Nat) : Int))) (q_add rfl rfl rfl)) ?_
      refine s_q rfl rfl (q_mv (.inl rfl) (is_sc rfl)) ?_
      refine s_q rfl rfl (q_as (i64_eq ((wrap_id (by omega) (by omega)).trans (by omega) : _ = (0 : Int))) (q_sub rfl rfl rfl)) ?_
      refine s_q rfl rfl (q_mv (.inl rfl) (is_sc rfl)) ?_
      refine s_nil (n_n (w_block (w_unroll 0 (u_0 ?_))))
      refine w_seq (w_reg (s_q rfl rfl (q_as (bl_no (show ¬ (0 : Int) < 0 by omega)) (q_lss rfl rfl rfl)) ?_))
      refine s_nil (n_n (w_seq (w_ifF rfl (w_exit (n_e (n_e (b_hit (n_n (w_seq (w_reg (s_q rfl rfl (q_mv (.inl rfl) (by first | exact is_im rfl | exact is_gs rfl | exact is_lit rfl | exact is_ms rfl | exact is_sc rfl | exact rfl)) ?_)))))))))))
      refine s_q rfl rfl (q_mv (.inl rfl) (is_sc rfl)) ?_
      refine s_q rfl rfl (q_bs rfl (pt_cons (is_sc rfl) pt_nil) (by decide) (by decide) (by exact (rfl : _ = some [_])) (by exact (rfl : _ = [_])) (by exact rfl) (by exact rfl)) ?_
      refine s_o rfl rfl (ao_appRowC (ys := [101]) rfl rfl hR (by exact rfl) (.inl rfl) (by simp) (by simp only [List.length_append, List.length_cons, List.length_nil, List.length_take, List.length_replicate, List.length_drop]; omega) fun k123 n123 c123 H123 hR => ?_)
      refine s_q rfl rfl (q_mv (.inr rfl) (by first | exact is_im rfl | exact is_gs rfl | exact is_lit rfl | exact is_ms rfl | exact is_sc rfl | exact rfl)) ?_
      refine s_nil (n_n (w_seq (w_reg (s_q rfl rfl (q_mv (.inl rfl) (is_sc rfl)) ?_))))
      refine s_q rfl rfl (q_as (i64_eq ((wrap_id (by omega) (by omega)).trans (by omega) : _ = ((E : Nat) : Int))) (q_sub rfl rfl rfl)) ?_
      refine s_q rfl rfl (q_mv (.inr rfl) (is_sc rfl)) ?_
      refine s_nil (n_n (w_seq (w_seq (w_reg (s_q rfl rfl (q_mv (.inl rfl) (is_sc rfl)) ?_)))))
      refine s_q rfl rfl (q_as (bl_no (show ¬ ((ds.length : Nat) : Int) = 0 by omega)) (q_eql rfl rfl rfl)) ?_
      refine s_nil (n_n (w_ifF rfl (w_skip (n_n (w_seq (w_seq (w_reg (s_q rfl rfl (q_mv (.inl rfl) (is_sc rfl)) ?_))))))))
      refine s_q rfl rfl (q_as (bl_no (show ¬ (E : Int) < 0 by omega)) (q_lss rfl rfl rfl)) ?_
      refine s_nil (n_n (w_ifF rfl (w_reg (s_q rfl rfl (q_mv (.inr rfl) (is_sc rfl)) ?_))))
      refine s_nil (n_n (w_seq (w_reg (s_q rfl rfl (q_mv (.inl rfl) (by first | exact is_im rfl | exact is_gs rfl | exact is_lit rfl | exact is_ms rfl | exact is_sc rfl | exact rfl)) ?_))))
      refine s_q rfl rfl (q_mv (.inl rfl) (is_sc rfl)) ?_
      refine s_q rfl rfl (q_bs rfl (pt_cons (is_sc rfl) pt_nil) (by decide) (by decide) (by exact (rfl : _ = some [_])) (by exact (rfl : _ = [_])) (by exact rfl) (by exact rfl)) ?_
      refine s_o rfl rfl (ao_appRowC (ys := [43]) rfl rfl hR (by exact rfl) (.inl rfl) (by simp) (by simp only [List.length_append, List.length_cons, List.length_nil, List.length_take, List.length_replicate, List.length_drop]; omega) fun k135 n135 c135 H135 hR => ?_)
      refine s_q rfl rfl (q_mv (.inr rfl) (by first | exact is_im rfl | exact is_gs rfl | exact is_lit rfl | exact is_ms rfl | exact is_sc rfl | exact rfl)) ?_
      refine s_nil (n_n (w_seq (w_block (w_seq (w_reg (s_q rfl rfl (q_mv (.inl rfl) (is_sc rfl)) ?_))))))
      refine s_q rfl rfl (q_lss rfl rfl rfl) ?_
      refine s_q rfl rfl (q_mv (.inr rfl) (is_sc rfl)) ?_
      refine s_nil (n_n (w_if (is_scb rfl) (fun h154 => ?_) (fun h154 => ?_)))
      · have h10 : E < 10 := by have h9 : (E : Int) < 10 := of_decide_eq_true h154; omega
        have hX := exp_lt h10
        refine w_env [(0, .hs k135 0 n135 c135), (22, i64 (E : Int))] ⟨rfl, rfl, trivial⟩ fun env hB => ?_
        rw [hB.eq]; clear hB
        refine w_reg (s_q rfl rfl (q_mv (.inl rfl) (by first | exact is_im rfl | exact is_gs rfl | exact is_lit rfl | exact is_ms rfl | exact is_sc rfl | exact rfl)) ?_)
        refine s_q rfl rfl (q_mv (.inl rfl) (is_sc rfl)) ?_
        refine s_q rfl rfl (q_as (u8_eq (u8_wrap (by omega) (by omega) : _ = ((E : Nat) : Int))) (q_cii rfl rfl)) ?_
        refine s_q rfl rfl (q_as (u8_eq (exp_byte (e := E) (by omega))) (q_add rfl rfl rfl)) ?_
        refine s_q rfl rfl (q_bs rfl (pt_cons (is_sc rfl) (pt_cons (is_sc rfl) pt_nil)) (by decide) (by decide) (by exact (rfl : _ = some [_, _])) (by exact (rfl : _ = [_, _])) (by exact rfl) (by exact rfl)) ?_
        refine s_o rfl rfl (ao_appRowC (ys := [48, UInt8.ofNat (E + 48)]) rfl rfl hR (by exact rfl) (.inl rfl) (by simp) (by simp only [List.length_append, List.length_cons, List.length_nil, List.length_take, List.length_replicate, List.length_drop]; omega) fun k160 n160 c160 H160 hR => ?_)
        refine s_q rfl rfl (q_mv (.inr rfl) (by first | exact is_im rfl | exact is_gs rfl | exact is_lit rfl | exact is_ms rfl | exact is_sc rfl | exact rfl)) ?_
        refine s_nil (b_n (n_n (w_seq (w_reg (s_q rfl rfl (q_mv (.inl rfl) (by first | exact is_im rfl | exact is_gs rfl | exact is_lit rfl | exact is_ms rfl | exact is_sc rfl | exact rfl)) ?_)))))
        refine s_q rfl rfl (q_mv (.inr rfl) (by first | exact is_im rfl | exact is_gs rfl | exact is_lit rfl | exact is_ms rfl | exact is_sc rfl | exact rfl)) ?_
        refine s_nil (n_n (w_ret (b_r (n_r ?_))))
        -- end 0
        refine r_r (ra_tmp (by first | exact is_im rfl | exact is_gs rfl | exact is_lit rfl | exact is_ms rfl | exact is_sc rfl | exact rfl) ra_nil) (by first | exact is_im rfl | exact is_gs rfl | exact is_lit rfl | exact is_ms rfl | exact is_sc rfl | exact rfl) (by exact rfl) (Sub.refl _) ?_
        refine hR.cast ?_
        rw [hX]
        exact hT _
      · have h10 : ¬ E < 10 := by have h9 : ¬ (E : Int) < 10 := of_decide_eq_false h154; omega
        have hX := exp_ge h10
        refine w_env [(0, .hs k135 0 n135 c135), (22, i64 (E : Int))] ⟨rfl, rfl, trivial⟩ fun env hB => ?_
        rw [hB.eq]; clear hB
        refine w_seq (w_reg (s_q rfl rfl (q_mv (.inl rfl) (is_sc rfl)) ?_))
        refine s_q rfl rfl (q_as (bl_yes (show (E : Int) < 100 by omega)) (q_lss rfl rfl rfl)) ?_
        refine s_q rfl rfl (q_mv (.inr rfl) (is_sc rfl)) ?_
        refine s_nil (n_n (w_ifT rfl (w_reg (s_q rfl rfl (q_mv (.inl rfl) (by first | exact is_im rfl | exact is_gs rfl | exact is_lit rfl | exact is_ms rfl | exact is_sc rfl | exact rfl)) ?_))))
        refine s_q rfl rfl (q_mv (.inl rfl) (is_sc rfl)) ?_
        refine s_q rfl rfl (q_as (i64_eq (show IntKind.i64.wrap ((E : Int).tdiv 10) = ((E / 10 : Nat) : Int) by rw [nat_tdiv]; exact wrap_id (by omega) (by omega))) (q_quo rfl rfl rfl (by decide))) ?_
        refine s_q rfl rfl (q_as (u8_eq (u8_wrap (by omega) (by omega) : _ = ((E / 10 : Nat) : Int))) (q_cii rfl rfl)) ?_
        refine s_q rfl rfl (q_as (u8_eq (exp_byte (e := E / 10) (by omega))) (q_add rfl rfl rfl)) ?_
        refine s_q rfl rfl (q_mv (.inl rfl) (is_sc rfl)) ?_
        refine s_q rfl rfl (q_as (i64_eq (show (E : Int).tmod 10 = ((E % 10 : Nat) : Int) from nat_tmod)) (q_rem rfl rfl rfl (by decide))) ?_
        refine s_q rfl rfl (q_as (u8_eq (u8_wrap (by omega) (by omega) : _ = ((E % 10 : Nat) : Int))) (q_cii rfl rfl)) ?_
        refine s_q rfl rfl (q_as (u8_eq (exp_byte (e := E % 10) (by omega))) (q_add rfl rfl rfl)) ?_
        refine s_q rfl rfl (q_bs rfl (pt_cons (is_sc rfl) (pt_cons (is_sc rfl) pt_nil)) (by decide) (by decide) (by exact (rfl : _ = some [_, _])) (by exact (rfl : _ = [_, _])) (by exact rfl) (by exact rfl)) ?_
        refine s_o rfl rfl (ao_appRowC (ys := [UInt8.ofNat (E / 10 + 48), UInt8.ofNat (E % 10 + 48)]) rfl rfl hR (by exact rfl) (.inl rfl) (by simp) (by simp only [List.length_append, List.length_cons, List.length_nil, List.length_take, List.length_replicate, List.length_drop]; omega) fun k174 n174 c174 H174 hR => ?_)
        refine s_q rfl rfl (q_mv (.inr rfl) (by first | exact is_im rfl | exact is_gs rfl | exact is_lit rfl | exact is_ms rfl | exact is_sc rfl | exact rfl)) ?_
        refine s_nil (b_n (n_n (w_seq (w_reg (s_q rfl rfl (q_mv (.inl rfl) (by first | exact is_im rfl | exact is_gs rfl | exact is_lit rfl | exact is_ms rfl | exact is_sc rfl | exact rfl)) ?_)))))
        refine s_q rfl rfl (q_mv (.inr rfl) (by first | exact is_im rfl | exact is_gs rfl | exact is_lit rfl | exact is_ms rfl | exact is_sc rfl | exact rfl)) ?_
        refine s_nil (n_n (w_ret (b_r (n_r ?_))))
        -- end 1
        refine r_r (ra_tmp (by first | exact is_im rfl | exact is_gs rfl | exact is_lit rfl | exact is_ms rfl | exact is_sc rfl | exact rfl) ra_nil) (by first | exact is_im rfl | exact is_gs rfl | exact is_lit rfl | exact is_ms rfl | exact is_sc rfl | exact rfl) (by exact rfl) (Sub.refl _) ?_
        refine hR.cast ?_
        rw [hX]
        exact hT _
    · have h1 : ¬ 1 < ds.length := by have h9 : ¬ (0 : Int) < ((ds.length - 1 : Nat) : Int) := of_decide_eq_false h92; omega
      have hT := fmtT_e0 h6 hn h1
      refine w_env [(0, .hs k90 0 n90 c90), (2, .hs b 0 32 32), (3, i64 ((E : Int) + 1)), (4, i64 ds.length), (5, i64 ((ds.length - 1 : Nat) : Int)), (6, .sc (.int .u8 101))] ⟨rfl, rfl, rfl, rfl, rfl, rfl, trivial⟩ fun env hB => ?_
      rw [hB.eq]; clear hB
      refine w_skip (n_n (w_seq (w_reg (s_q rfl rfl (q_mv (.inl rfl) (by first | exact is_im rfl | exact is_gs rfl | exact is_lit rfl | exact is_ms rfl | exact is_sc rfl | exact rfl)) ?_))))
      refine s_q rfl rfl (q_mv (.inl rfl) (is_sc rfl)) ?_
      refine s_q rfl rfl (q_bs rfl (pt_cons (is_sc rfl) pt_nil) (by decide) (by decide) (by exact (rfl : _ = some [_])) (by exact (rfl : _ = [_])) (by exact rfl) (by exact rfl)) ?_
      refine s_o rfl rfl (ao_appRowC (ys := [101]) rfl rfl hR (by exact rfl) (.inl rfl) (by simp) (by simp only [List.length_append, List.length_cons, List.length_nil, List.length_take, List.length_replicate, List.length_drop]; omega) fun k123 n123 c123 H123 hR => ?_)
      refine s_q rfl rfl (q_mv (.inr rfl) (by first | exact is_im rfl | exact is_gs rfl | exact is_lit rfl | exact is_ms rfl | exact is_sc rfl | exact rfl)) ?_
      refine s_nil (n_n (w_seq (w_reg (s_q rfl rfl (q_mv (.inl rfl) (is_sc rfl)) ?_))))
      refine s_q rfl rfl (q_as (i64_eq ((wrap_id (by omega) (by omega)).trans (by omega) : _ = ((E : Nat) : Int))) (q_sub rfl rfl rfl)) ?_
      refine s_q rfl rfl (q_mv (.inr rfl) (is_sc rfl)) ?_
      refine s_nil (n_n (w_seq (w_seq (w_reg (s_q rfl rfl (q_mv (.inl rfl) (is_sc rfl)) ?_)))))
      refine s_q rfl rfl (q_as (bl_no (show ¬ ((ds.length : Nat) : Int) = 0 by omega)) (q_eql rfl rfl rfl)) ?_
      refine s_nil (n_n (w_ifF rfl (w_skip (n_n (w_seq (w_seq (w_reg (s_q rfl rfl (q_mv (.inl rfl) (is_sc rfl)) ?_))))))))
      refine s_q rfl rfl (q_as (bl_no (show ¬ (E : Int) < 0 by omega)) (q_lss rfl rfl rfl)) ?_
      refine s_nil (n_n (w_ifF rfl (w_reg (s_q rfl rfl (q_mv (.inr rfl) (is_sc rfl)) ?_))))
      refine s_nil (n_n (w_seq (w_reg (s_q rfl rfl (q_mv (.inl rfl) (by first | exact is_im rfl | exact is_gs rfl | exact is_lit rfl | exact is_ms rfl | exact is_sc rfl | exact rfl)) ?_))))
      refine s_q rfl rfl (q_mv (.inl rfl) (is_sc rfl)) ?_
      refine s_q rfl rfl (q_bs rfl (pt_cons (is_sc rfl) pt_nil) (by decide) (by decide) (by exact (rfl : _ = some [_])) (by exact (rfl : _ = [_])) (by exact rfl) (by exact rfl)) ?_
      refine s_o rfl rfl (ao_appRowC (ys := [43]) rfl rfl hR (by exact rfl) (.inl rfl) (by simp) (by simp only [List.length_append, List.length_cons, List.length_nil, List.length_take, List.length_replicate, List.length_drop]; omega) fun k135 n135 c135 H135 hR => ?_)
      refine s_q rfl rfl (q_mv (.inr rfl) (by first | exact is_im rfl | exact is_gs rfl | exact is_lit rfl | exact is_ms rfl | exact is_sc rfl | exact rfl)) ?_
      refine s_nil (n_n (w_seq (w_block (w_seq (w_reg (s_q rfl rfl (q_mv (.inl rfl) (is_sc rfl)) ?_))))))
      refine s_q rfl rfl (q_lss rfl rfl rfl) ?_
      refine s_q rfl rfl (q_mv (.inr rfl) (is_sc rfl)) ?_
      refine s_nil (n_n (w_if (is_scb rfl) (fun h154 => ?_) (fun h154 => ?_)))
      · have h10 : E < 10 := by have h9 : (E : Int) < 10 := of_decide_eq_true h154; omega
        have hX := exp_lt h10
        refine w_env [(0, .hs k135 0 n135 c135), (22, i64 (E : Int))] ⟨rfl, rfl, trivial⟩ fun env hB => ?_
        rw [hB.eq]; clear hB
        refine w_reg (s_q rfl rfl (q_mv (.inl rfl) (by first | exact is_im rfl | exact is_gs rfl | exact is_lit rfl | exact is_ms rfl | exact is_sc rfl | exact rfl)) ?_)
        refine s_q rfl rfl (q_mv (.inl rfl) (is_sc rfl)) ?_
        refine s_q rfl rfl (q_as (u8_eq (u8_wrap (by omega) (by omega) : _ = ((E : Nat) : Int))) (q_cii rfl rfl)) ?_
        refine s_q rfl rfl (q_as (u8_eq (exp_byte (e := E) (by omega))) (q_add rfl rfl rfl)) ?_
        refine s_q rfl rfl (q_bs rfl (pt_cons (is_sc rfl) (pt_cons (is_sc rfl) pt_nil)) (by decide) (by decide) (by exact (rfl : _ = some [_, _])) (by exact (rfl : _ = [_, _])) (by exact rfl) (by exact rfl)) ?_
        refine s_o rfl rfl (ao_appRowC (ys := [48, UInt8.ofNat (E + 48)]) rfl rfl hR (by exact rfl) (.inl rfl) (by simp) (by simp only [List.length_append, List.length_cons, List.length_nil, List.length_take, List.length_replicate, List.length_drop]; omega) fun k160 n160 c160 H160 hR => ?_)
        refine s_q rfl rfl (q_mv (.inr rfl) (by first | exact is_im rfl | exact is_gs rfl | exact is_lit rfl | exact is_ms rfl | exact is_sc rfl | exact rfl)) ?_
        refine s_nil (b_n (n_n (w_seq (w_reg (s_q rfl rfl (q_mv (.inl rfl) (by first | exact is_im rfl | exact is_gs rfl | exact is_lit rfl | exact is_ms rfl | exact is_sc rfl | exact rfl)) ?_)))))
        refine s_q rfl rfl (q_mv (.inr rfl) (by first | exact is_im rfl | exact is_gs rfl | exact is_lit rfl | exact is_ms rfl | exact is_sc rfl | exact rfl)) ?_
        refine s_nil (n_n (w_ret (b_r (n_r ?_))))
        -- end 2
        refine r_r (ra_tmp (by first | exact is_im rfl | exact is_gs rfl | exact is_lit rfl | exact is_ms rfl | exact is_sc rfl | exact rfl) ra_nil) (by first | exact is_im rfl | exact is_gs rfl | exact is_lit rfl | exact is_ms rfl | exact is_sc rfl | exact rfl) (by exact rfl) (Sub.refl _) ?_
        refine hR.cast ?_
        rw [hX]
        exact hT _
      · have h10 : ¬ E < 10 := by have h9 : ¬ (E : Int) < 10 := of_decide_eq_false h154; omega
        have hX := exp_ge h10
        refine w_env [(0, .hs k135 0 n135 c135), (22, i64 (E : Int))] ⟨rfl, rfl, trivial⟩ fun env hB => ?_
        rw [hB.eq]; clear hB
        refine w_seq (w_reg (s_q rfl rfl (q_mv (.inl rfl) (is_sc rfl)) ?_))
        refine s_q rfl rfl (q_as (bl_yes (show (E : Int) < 100 by omega)) (q_lss rfl rfl rfl)) ?_
        refine s_q rfl rfl (q_mv (.inr rfl) (is_sc rfl)) ?_
        refine s_nil (n_n (w_ifT rfl (w_reg (s_q rfl rfl (q_mv (.inl rfl) (by first | exact is_im rfl | exact is_gs rfl | exact is_lit rfl | exact is_ms rfl | exact is_sc rfl | exact rfl)) ?_))))
        refine s_q rfl rfl (q_mv (.inl rfl) (is_sc rfl)) ?_
        refine s_q rfl rfl (q_as (i64_eq (show IntKind.i64.wrap ((E : Int).tdiv 10) = ((E / 10 : Nat) : Int) by rw [nat_tdiv]; exact wrap_id (by omega) (by omega))) (q_quo rfl rfl rfl (by decide))) ?_
        refine s_q rfl rfl (q_as (u8_eq (u8_wrap (by omega) (by omega) : _ = ((E / 10 : Nat) : Int))) (q_cii rfl rfl)) ?_
        refine s_q rfl rfl (q_as (u8_eq (exp_byte (e := E / 10) (by omega))) (q_add rfl rfl rfl)) ?_
        refine s_q rfl rfl (q_mv (.inl rfl) (is_sc rfl)) ?_
        refine s_q rfl rfl (q_as (i64_eq (show (E : Int).tmod 10 = ((E % 10 : Nat) : Int) from nat_tmod)) (q_rem rfl rfl rfl (by decide))) ?_
        refine s_q rfl rfl (q_as (u8_eq (u8_wrap (by omega) (by omega) : _ = ((E % 10 : Nat) : Int))) (q_cii rfl rfl)) ?_
        refine s_q rfl rfl (q_as (u8_eq (exp_byte (e := E % 10) (by omega))) (q_add rfl rfl rfl)) ?_
        refine s_q rfl rfl (q_bs rfl (pt_cons (is_sc rfl) (pt_cons (is_sc rfl) pt_nil)) (by decide) (by decide) (by exact (rfl : _ = some [_, _])) (by exact (rfl : _ = [_, _])) (by exact rfl) (by exact rfl)) ?_
        refine s_o rfl rfl (ao_appRowC (ys := [UInt8.ofNat (E / 10 + 48), UInt8.ofNat (E % 10 + 48)]) rfl rfl hR (by exact rfl) (.inl rfl) (by simp) (by simp only [List.length_append, List.length_cons, List.length_nil, List.length_take, List.length_replicate, List.length_drop]; omega) fun k174 n174 c174 H174 hR => ?_)
        refine s_q rfl rfl (q_mv (.inr rfl) (by first | exact is_im rfl | exact is_gs rfl | exact is_lit rfl | exact is_ms rfl | exact is_sc rfl | exact rfl)) ?_
        refine s_nil (b_n (n_n (w_seq (w_reg (s_q rfl rfl (q_mv (.inl rfl) (by first | exact is_im rfl | exact is_gs rfl | exact is_lit rfl | exact is_ms rfl | exact is_sc rfl | exact rfl)) ?_)))))
        refine s_q rfl rfl (q_mv (.inr rfl) (by first | exact is_im rfl | exact is_gs rfl | exact is_lit rfl | exact is_ms rfl | exact is_sc rfl | exact rfl)) ?_
        refine s_nil (n_n (w_ret (b_r (n_r ?_))))
        -- end 3
        refine r_r (ra_tmp (by first | exact is_im rfl | exact is_gs rfl | exact is_lit rfl | exact is_ms rfl | exact is_sc rfl | exact rfl) ra_nil) (by first | exact is_im rfl | exact is_gs rfl | exact is_lit rfl | exact is_ms rfl | exact is_sc rfl | exact rfl) (by exact rfl) (Sub.refl _) ?_
        refine hR.cast ?_
        rw [hX]
        exact hT _
  · obtain rfl : neg = false := h78
    refine w_env [(0, .hs k0 0 0 c0), (2, .hs b 0 32 32), (3, i64 ((E : Int) + 1)), (4, i64 ds.length), (5, i64 ((ds.length - 1 : Nat) : Int)), (6, .sc (.int .u8 101))] ⟨rfl, rfl, rfl, rfl, rfl, rfl, trivial⟩ fun env hB => ?_
    rw [hB.eq]; clear hB
    refine w_skip (n_n (w_seq (w_reg (s_q rfl rfl (q_mv (.inr rfl) (is_sc rfl)) ?_))))
    refine s_nil (n_n (w_seq (w_seq (w_reg (s_q rfl rfl (q_mv (.inl rfl) (is_sc rfl)) ?_)))))
    refine s_q rfl rfl (q_as (bl_yes (show ¬ ((ds.length : Nat) : Int) = 0 by omega)) (q_neq rfl rfl rfl)) ?_
    refine s_nil (n_n (w_ifT rfl (w_reg (s_q rfl rfl (q_mv (.inl rfl) (by first | exact is_im rfl | exact is_gs rfl | exact is_lit rfl | exact is_ms rfl | exact is_sc rfl | exact rfl)) ?_))))
    refine s_q rfl rfl (q_indexHs rfl rfl rfl (by decide) (by decide)) ?_
    refine s_q rfl rfl (q_loadH rfl rfl (d := u8d (ds[0])) (by exact get_bc hR.base hn)) ?_
    refine s_q rfl rfl (q_mv (.inr rfl) (is_sc rfl)) ?_
    refine s_nil (n_n (w_seq (w_reg (s_q rfl rfl (q_mv (.inl rfl) (by first | exact is_im rfl | exact is_gs rfl | exact is_lit rfl | exact is_ms rfl | exact is_sc rfl | exact rfl)) ?_))))
    refine s_q rfl rfl (q_mv (.inl rfl) (is_sc rfl)) ?_
    refine s_q rfl rfl (q_bs rfl (pt_cons (is_sc rfl) pt_nil) (by decide) (by decide) (by exact (rfl : _ = some [_])) (by exact (rfl : _ = [_])) (by exact rfl) (by exact rfl)) ?_
    refine s_o rfl rfl (ao_appRowC (ys := [ds[0]]) rfl rfl hR (by exact rfl) (.inl rfl) (by simp) (by simp only [List.length_append, List.length_cons, List.length_nil, List.length_take, List.length_replicate, List.length_drop]; omega) fun k90 n90 c90 H90 hR => ?_)
    refine s_q rfl rfl (q_mv (.inr rfl) (by first | exact is_im rfl | exact is_gs rfl | exact is_lit rfl | exact is_ms rfl | exact is_sc rfl | exact rfl)) ?_
    refine s_nil (n_n (w_seq (w_seq (w_reg (s_q rfl rfl (q_mv (.inl rfl) (is_sc rfl)) ?_)))))
    refine s_q rfl rfl (q_gtr rfl rfl rfl) ?_
    refine s_nil (n_n (w_if (is_scb rfl) (fun h92 => ?_) (fun h92 => ?_)))
    · have h1 : 1 < ds.length := by have h9 : (0 : Int) < ((ds.length - 1 : Nat) : Int) := of_decide_eq_true h92; omega
      have hT := fmtT_e1 h6 hn h1
      refine w_env [(0, .hs k90 0 n90 c90), (2, .hs b 0 32 32), (3, i64 ((E : Int) + 1)), (4, i64 ds.length), (5, i64 ((ds.length - 1 : Nat) : Int)), (6, .sc (.int .u8 101))] ⟨rfl, rfl, rfl, rfl, rfl, rfl, trivial⟩ fun env hB => ?_
      rw [hB.eq]; clear hB
      refine w_seq (w_reg (s_q rfl rfl (q_mv (.inl rfl) (by first | exact is_im rfl | exact is_gs rfl | exact is_lit rfl | exact is_ms rfl | exact is_sc rfl | exact rfl)) ?_))
      refine s_q rfl rfl (q_bs rfl (pt_cons (is_sc rfl) pt_nil) (by decide) (by decide) (by exact (rfl : _ = some [_])) (by exact (rfl : _ = [_])) (by exact rfl) (by exact rfl)) ?_
      refine s_o rfl rfl (ao_appRowC (ys := [46]) rfl rfl hR (by exact rfl) (.inl rfl) (by simp) (by simp only [List.length_append, List.length_cons, List.length_nil, List.length_take, List.length_replicate, List.length_drop]; omega) fun k95 n95 c95 H95 hR => ?_)
      refine s_q rfl rfl (q_mv (.inr rfl) (by first | exact is_im rfl | exact is_gs rfl | exact is_lit rfl | exact is_ms rfl | exact is_sc rfl | exact rfl)) ?_
      refine s_nil (n_n (w_seq (w_reg (s_q rfl rfl (q_mv (.inr rfl) (is_sc rfl)) ?_))))
      refine s_nil (n_n (w_seq (w_reg (s_q rfl rfl (q_mv (.inl rfl) (is_sc rfl)) ?_))))
      refine s_q rfl rfl (q_mv (.inl rfl) (is_sc rfl)) ?_
      refine s_q rfl rfl (q_as (i64_eq ((wrap_id (by omega) (by omega)).trans (by omega) : _ = ((ds.length : Nat) : Int))) (q_add rfl rfl rfl)) ?_
      refine s_q rfl rfl (q_as (i64_eq (by split <;> omega : _ = ((ds.length : Nat) : Int))) (q_min rfl rfl rfl)) ?_
      refine s_q rfl rfl (q_mv (.inr rfl) (is_sc rfl)) ?_
      refine s_nil (n_n (w_seq (w_seq (w_reg (s_q rfl rfl (q_mv (.inl rfl) (is_sc rfl)) ?_)))))
      refine s_q rfl rfl (q_mv (.inl rfl) (is_sc rfl)) ?_
      refine s_q rfl rfl (q_as (bl_yes (show (1 : Int) < (ds.length : Int) by omega)) (q_lss rfl rfl rfl)) ?_
      refine s_nil (n_n (w_ifT rfl (w_seq (w_reg (s_q rfl rfl (q_mv (.inl rfl) (by first | exact is_im rfl | exact is_gs rfl | exact is_lit rfl | exact is_ms rfl | exact is_sc rfl | exact rfl)) ?_)))))
      refine s_q rfl rfl (q_mv (.inl rfl) (by first | exact is_im rfl | exact is_gs rfl | exact is_lit rfl | exact is_ms rfl | exact is_sc rfl | exact rfl)) ?_
      refine s_q rfl rfl (q_mv (.inl rfl) (is_sc rfl)) ?_
      refine s_q rfl rfl (q_mv (.inl rfl) (is_sc rfl)) ?_
      refine s_q rfl rfl (q_cutHs (a := 1) (b := ds.length) (m := ds.length - 1) (c := 31) (o' := 1) rfl rfl ⟨_, _, rfl, by decide, rfl⟩ ⟨_, _, rfl, by omega, by omega⟩ (by omega) (by omega) (.inl (by omega)) rfl rfl rfl) ?_
      refine s_o rfl rfl (ao_appRowC (ys := ((ds.drop 1).take (ds.length - 1))) rfl rfl hR (by exact rfl) (src_bc hR.base (by omega) (Nat.le_refl _)) (by rw [List.length_take, List.length_drop]; omega) (by simp only [List.length_append, List.length_cons, List.length_nil, List.length_take, List.length_replicate, List.length_drop]; omega) fun k108 n108 c108 H108 hR => ?_)
      refine s_q rfl rfl (q_mv (.inr rfl) (by first | exact is_im rfl | exact is_gs rfl | exact is_lit rfl | exact is_ms rfl | exact is_sc rfl | exact rfl)) ?_
      refine s_nil (n_n (w_reg (s_q rfl rfl (q_mv (.inl rfl) (is_sc rfl)) ?_)))
      refine s_q rfl rfl (q_mv (.inr rfl) (is_sc rfl)) ?_
      refine s_nil (n_n (w_seq (w_reg (s_q rfl rfl (q_mv (.inl rfl) (is_sc rfl)) ?_))))
      refine s_q rfl rfl (q_as (i64_eq ((wrap_id (by omega) (by omega)).trans (by omega) : _ = ((ds.length : Nat) : Int))) (q_add rfl rfl rfl)) ?_
      refine s_q rfl rfl (q_mv (.inl rfl) (is_sc rfl)) ?_
      refine s_q rfl rfl (q_as (i64_eq ((wrap_id (by omega) (by omega)).trans (by omega) : _ = (0 : Int))) (q_sub rfl rfl rfl)) ?_
      refine s_q rfl rfl (q_mv (.inl rfl) (is_sc rfl)) ?_
      refine s_nil (n_n (w_block (w_unroll 0 (u_0 ?_))))
      refine w_seq (w_reg (s_q rfl rfl (q_as (bl_no (show ¬ (0 : Int) < 0 by omega)) (q_lss rfl rfl rfl)) ?_))
      refine s_nil (n_n (w_seq (w_ifF rfl (w_exit (n_e (n_e (b_hit (n_n (w_seq (w_reg (s_q rfl rfl (q_mv (.inl rfl) (by first | exact is_im rfl | exact is_gs rfl | exact is_lit rfl | exact is_ms rfl | exact is_sc rfl | exact rfl)) ?_)))))))))))
      refine s_q rfl rfl (q_mv (.inl rfl) (is_sc rfl)) ?_
      refine s_q rfl rfl (q_bs rfl (pt_cons (is_sc rfl) pt_nil) (by decide) (by decide) (by exact (rfl : _ = some [_])) (by exact (rfl : _ = [_])) (by exact rfl) (by exact rfl)) ?_
      refine s_o rfl rfl (ao_appRowC (ys := [101]) rfl rfl hR (by exact rfl) (.inl rfl) (by simp) (by simp only [List.length_append, List.length_cons, List.length_nil, List.length_take, List.length_replicate, List.length_drop]; omega) fun k123 n123 c123 H123 hR => ?_)
      refine s_q rfl rfl (q_mv (.inr rfl) (by first | exact is_im rfl | exact is_gs rfl | exact is_lit rfl | exact is_ms rfl | exact is_sc rfl | exact rfl)) ?_
      refine s_nil (n_n (w_seq (w_reg (s_q rfl rfl (q_mv (.inl rfl) (is_sc rfl)) ?_))))
      refine s_q rfl rfl (q_as (i64_eq ((wrap_id (by omega) (by omega)).trans (by omega) : _ = ((E : Nat) : Int))) (q_sub rfl rfl rfl)) ?_
      refine s_q rfl rfl (q_mv (.inr rfl) (is_sc rfl)) ?_
      refine s_nil (n_n (w_seq (w_seq (w_reg (s_q rfl rfl (q_mv (.inl rfl) (is_sc rfl)) ?_)))))
      refine s_q rfl rfl (q_as (bl_no (show ¬ ((ds.length : Nat) : Int) = 0 by omega)) (q_eql rfl rfl rfl)) ?_
      refine s_nil (n_n (w_ifF rfl (w_skip (n_n (w_seq (w_seq (w_reg (s_q rfl rfl (q_mv (.inl rfl) (is_sc rfl)) ?_))))))))
      refine s_q rfl rfl (q_as (bl_no (show ¬ (E : Int) < 0 by omega)) (q_lss rfl rfl rfl)) ?_
      refine s_nil (n_n (w_ifF rfl (w_reg (s_q rfl rfl (q_mv (.inr rfl) (is_sc rfl)) ?_))))
      refine s_nil (n_n (w_seq (w_reg (s_q rfl rfl (q_mv (.inl rfl) (by first | exact is_im rfl | exact is_gs rfl | exact is_lit rfl | exact is_ms rfl | exact is_sc rfl | exact rfl)) ?_))))
      refine s_q rfl rfl (q_mv (.inl rfl) (is_sc rfl)) ?_
      refine s_q rfl rfl (q_bs rfl (pt_cons (is_sc rfl) pt_nil) (by decide) (by decide) (by exact (rfl : _ = some [_])) (by exact (rfl : _ = [_])) (by exact rfl) (by exact rfl)) ?_
      refine s_o rfl rfl (ao_appRowC (ys := [43]) rfl rfl hR (by exact rfl) (.inl rfl) (by simp) (by simp only [List.length_append, List.length_cons, List.length_nil, List.length_take, List.length_replicate, List.length_drop]; omega) fun k135 n135 c135 H135 hR => ?_)
      refine s_q rfl rfl (q_mv (.inr rfl) (by first | exact is_im rfl | exact is_gs rfl | exact is_lit rfl | exact is_ms rfl | exact is_sc rfl | exact rfl)) ?_
      refine s_nil (n_n (w_seq (w_block (w_seq (w_reg (s_q rfl rfl (q_mv (.inl rfl) (is_sc rfl)) ?_))))))
      refine s_q rfl rfl (q_lss rfl rfl rfl) ?_
      refine s_q rfl rfl (q_mv (.inr rfl) (is_sc rfl)) ?_
      refine s_nil (n_n (w_if (is_scb rfl) (fun h154 => ?_) (fun h154 => ?_)))
      · have h10 : E < 10 := by have h9 : (E : Int) < 10 := of_decide_eq_true h154; omega
        have hX := exp_lt h10
        refine w_env [(0, .hs k135 0 n135 c135), (22, i64 (E : Int))] ⟨rfl, rfl, trivial⟩ fun env hB => ?_
        rw [hB.eq]; clear hB
        refine w_reg (s_q rfl rfl (q_mv (.inl rfl) (by first | exact is_im rfl | exact is_gs rfl | exact is_lit rfl | exact is_ms rfl | exact is_sc rfl | exact rfl)) ?_)
        refine s_q rfl rfl (q_mv (.inl rfl) (is_sc rfl)) ?_
        refine s_q rfl rfl (q_as (u8_eq (u8_wrap (by omega) (by omega) : _ = ((E : Nat) : Int))) (q_cii rfl rfl)) ?_
        refine s_q rfl rfl (q_as (u8_eq (exp_byte (e := E) (by omega))) (q_add rfl rfl rfl)) ?_
        refine s_q rfl rfl (q_bs rfl (pt_cons (is_sc rfl) (pt_cons (is_sc rfl) pt_nil)) (by decide) (by decide) (by exact (rfl : _ = some [_, _])) (by exact (rfl : _ = [_, _])) (by exact rfl) (by exact rfl)) ?_
        refine s_o rfl rfl (ao_appRowC (ys := [48, UInt8.ofNat (E + 48)]) rfl rfl hR (by exact rfl) (.inl rfl) (by simp) (by simp only [List.length_append, List.length_cons, List.length_nil, List.length_take, List.length_replicate, List.length_drop]; omega) fun k160 n160 c160 H160 hR => ?_)
        refine s_q rfl rfl (q_mv (.inr rfl) (by first | exact is_im rfl | exact is_gs rfl | exact is_lit rfl | exact is_ms rfl | exact is_sc rfl | exact rfl)) ?_
        refine s_nil (b_n (n_n (w_seq (w_reg (s_q rfl rfl (q_mv (.inl rfl) (by first | exact is_im rfl | exact is_gs rfl | exact is_lit rfl | exact is_ms rfl | exact is_sc rfl | exact rfl)) ?_)))))
        refine s_q rfl rfl (q_mv (.inr rfl) (by first | exact is_im rfl | exact is_gs rfl | exact is_lit rfl | exact is_ms rfl | exact is_sc rfl | exact rfl)) ?_
        refine s_nil (n_n (w_ret (b_r (n_r ?_))))
        -- end 4
        refine r_r (ra_tmp (by first | exact is_im rfl | exact is_gs rfl | exact is_lit rfl | exact is_ms rfl | exact is_sc rfl | exact rfl) ra_nil) (by first | exact is_im rfl | exact is_gs rfl | exact is_lit rfl | exact is_ms rfl | exact is_sc rfl | exact rfl) (by exact rfl) (Sub.refl _) ?_
        refine hR.cast ?_
        rw [hX]
        exact hT _
      · have h10 : ¬ E < 10 := by have h9 : ¬ (E : Int) < 10 := of_decide_eq_false h154; omega
        have hX := exp_ge h10
        refine w_env [(0, .hs k135 0 n135 c135), (22, i64 (E : Int))] ⟨rfl, rfl, trivial⟩ fun env hB => ?_
        rw [hB.eq]; clear hB
        refine w_seq (w_reg (s_q rfl rfl (q_mv (.inl rfl) (is_sc rfl)) ?_))
        refine s_q rfl rfl (q_as (bl_yes (show (E : Int) < 100 by omega)) (q_lss rfl rfl rfl)) ?_
        refine s_q rfl rfl (q_mv (.inr rfl) (is_sc rfl)) ?_
        refine s_nil (n_n (w_ifT rfl (w_reg (s_q rfl rfl (q_mv (.inl rfl) (by first | exact is_im rfl | exact is_gs rfl | exact is_lit rfl | exact is_ms rfl | exact is_sc rfl | exact rfl)) ?_))))
        refine s_q rfl rfl (q_mv (.inl rfl) (is_sc rfl)) ?_
        refine s_q rfl rfl (q_as (i64_eq (show IntKind.i64.wrap ((E : Int).tdiv 10) = ((E / 10 : Nat) : Int) by rw [nat_tdiv]; exact wrap_id (by omega) (by omega))) (q_quo rfl rfl rfl (by decide))) ?_
        refine s_q rfl rfl (q_as (u8_eq (u8_wrap (by omega) (by omega) : _ = ((E / 10 : Nat) : Int))) (q_cii rfl rfl)) ?_
        refine s_q rfl rfl (q_as (u8_eq (exp_byte (e := E / 10) (by omega))) (q_add rfl rfl rfl)) ?_
        refine s_q rfl rfl (q_mv (.inl rfl) (is_sc rfl)) ?_
        refine s_q rfl rfl (q_as (i64_eq (show (E : Int).tmod 10 = ((E % 10 : Nat) : Int) from nat_tmod)) (q_rem rfl rfl rfl (by decide))) ?_
        refine s_q rfl rfl (q_as (u8_eq (u8_wrap (by omega) (by omega) : _ = ((E % 10 : Nat) : Int))) (q_cii rfl rfl)) ?_
        refine s_q rfl rfl (q_as (u8_eq (exp_byte (e := E % 10) (by omega))) (q_add rfl rfl rfl)) ?_
        refine s_q rfl rfl (q_bs rfl (pt_cons (is_sc rfl) (pt_cons (is_sc rfl) pt_nil)) (by decide) (by decide) (by exact (rfl : _ = some [_, _])) (by exact (rfl : _ = [_, _])) (by exact rfl) (by exact rfl)) ?_
        refine s_o rfl rfl (ao_appRowC (ys := [UInt8.ofNat (E / 10 + 48), UInt8.ofNat (E % 10 + 48)]) rfl rfl hR (by exact rfl) (.inl rfl) (by simp) (by simp only [List.length_append, List.length_cons, List.length_nil, List.length_take, List.length_replicate, List.length_drop]; omega) fun k174 n174 c174 H174 hR => ?_)
        refine s_q rfl rfl (q_mv (.inr rfl) (by first | exact is_im rfl | exact is_gs rfl | exact is_lit rfl | exact is_ms rfl | exact is_sc rfl | exact rfl)) ?_
        refine s_nil (b_n (n_n (w_seq (w_reg (s_q rfl rfl (q_mv (.inl rfl) (by first | exact is_im rfl | exact is_gs rfl | exact is_lit rfl | exact is_ms rfl | exact is_sc rfl | exact rfl)) ?_)))))
        refine s_q rfl rfl (q_mv (.inr rfl) (by first | exact is_im rfl | exact is_gs rfl | exact is_lit rfl | exact is_ms rfl | exact is_sc rfl | exact rfl)) ?_
        refine s_nil (n_n (w_ret (b_r (n_r ?_))))
        -- end 5
        refine r_r (ra_tmp (by first | exact is_im rfl | exact is_gs rfl | exact is_lit rfl | exact is_ms rfl | exact is_sc rfl | exact rfl) ra_nil) (by first | exact is_im rfl | exact is_gs rfl | exact is_lit rfl | exact is_ms rfl | exact is_sc rfl | exact rfl) (by exact rfl) (Sub.refl _) ?_
        refine hR.cast ?_
        rw [hX]
        exact hT _
    · have h1 : ¬ 1 < ds.length := by have h9 : ¬ (0 : Int) < ((ds.length - 1 : Nat) : Int) := of_decide_eq_false h92; omega
      have hT := fmtT_e0 h6 hn h1
      refine w_env [(0, .hs k90 0 n90 c90), (2, .hs b 0 32 32), (3, i64 ((E : Int) + 1)), (4, i64 ds.length), (5, i64 ((ds.length - 1 : Nat) : Int)), (6, .sc (.int .u8 101))] ⟨rfl, rfl, rfl, rfl, rfl, rfl, trivial⟩ fun env hB => ?_
      rw [hB.eq]; clear hB
      refine w_skip (n_n (w_seq (w_reg (s_q rfl rfl (q_mv (.inl rfl) (by first | exact is_im rfl | exact is_gs rfl | exact is_lit rfl | exact is_ms rfl | exact is_sc rfl | exact rfl)) ?_))))
      refine s_q rfl rfl (q_mv (.inl rfl) (is_sc rfl)) ?_
      refine s_q rfl rfl (q_bs rfl (pt_cons (is_sc rfl) pt_nil) (by decide) (by decide) (by exact (rfl : _ = some [_])) (by exact (rfl : _ = [_])) (by exact rfl) (by exact rfl)) ?_
      refine s_o rfl rfl (ao_appRowC (ys := [101]) rfl rfl hR (by exact rfl) (.inl rfl) (by simp) (by simp only [List.length_append, List.length_cons, List.length_nil, List.length_take, List.length_replicate, List.length_drop]; omega) fun k123 n123 c123 H123 hR => ?_)
      refine s_q rfl rfl (q_mv (.inr rfl) (by first | exact is_im rfl | exact is_gs rfl | exact is_lit rfl | exact is_ms rfl | exact is_sc rfl | exact rfl)) ?_
      refine s_nil (n_n (w_seq (w_reg (s_q rfl rfl (q_mv (.inl rfl) (is_sc rfl)) ?_))))
      refine s_q rfl rfl (q_as (i64_eq ((wrap_id (by omega) (by omega)).trans (by omega) : _ = ((E : Nat) : Int))) (q_sub rfl rfl rfl)) ?_
      refine s_q rfl rfl (q_mv (.inr rfl) (is_sc rfl)) ?_
      refine s_nil (n_n (w_seq (w_seq (w_reg (s_q rfl rfl (q_mv (.inl rfl) (is_sc rfl)) ?_)))))
      refine s_q rfl rfl (q_as (bl_no (show ¬ ((ds.length : Nat) : Int) = 0 by omega)) (q_eql rfl rfl rfl)) ?_
      refine s_nil (n_n (w_ifF rfl (w_skip (n_n (w_seq (w_seq (w_reg (s_q rfl rfl (q_mv (.inl rfl) (is_sc rfl)) ?_))))))))
      refine s_q rfl rfl (q_as (bl_no (show ¬ (E : Int) < 0 by omega)) (q_lss rfl rfl rfl)) ?_
      refine s_nil (n_n (w_ifF rfl (w_reg (s_q rfl rfl (q_mv (.inr rfl) (is_sc rfl)) ?_))))
      refine s_nil (n_n (w_seq (w_reg (s_q rfl rfl (q_mv (.inl rfl) (by first | exact is_im rfl | exact is_gs rfl | exact is_lit rfl | exact is_ms rfl | exact is_sc rfl | exact rfl)) ?_))))
      refine s_q rfl rfl (q_mv (.inl rfl) (is_sc rfl)) ?_
      refine s_q rfl rfl (q_bs rfl (pt_cons (is_sc rfl) pt_nil) (by decide) (by decide) (by exact (rfl : _ = some [_])) (by exact (rfl : _ = [_])) (by exact rfl) (by exact rfl)) ?_
      refine s_o rfl rfl (ao_appRowC (ys := [43]) rfl rfl hR (by exact rfl) (.inl rfl) (by simp) (by simp only [List.length_append, List.length_cons, List.length_nil, List.length_take, List.length_replicate, List.length_drop]; omega) fun k135 n135 c135 H135 hR => ?_)
      refine s_q rfl rfl (q_mv (.inr rfl) (by first | exact is_im rfl | exact is_gs rfl | exact is_lit rfl | exact is_ms rfl | exact is_sc rfl | exact rfl)) ?_
      refine s_nil (n_n (w_seq (w_block (w_seq (w_reg (s_q rfl rfl (q_mv (.inl rfl) (is_sc rfl)) ?_))))))
      refine s_q rfl rfl (q_lss rfl rfl rfl) ?_
      refine s_q rfl rfl (q_mv (.inr rfl) (is_sc rfl)) ?_
      refine s_nil (n_n (w_if (is_scb rfl) (fun h154 => ?_) (fun h154 => ?_)))
      · have h10 : E < 10 := by have h9 : (E : Int) < 10 := of_decide_eq_true h154; omega
        have hX := exp_lt h10
        refine w_env [(0, .hs k135 0 n135 c135), (22, i64 (E : Int))] ⟨rfl, rfl, trivial⟩ fun env hB => ?_
        rw [hB.eq]; clear hB
        refine w_reg (s_q rfl rfl (q_mv (.inl rfl) (by first | exact is_im rfl | exact is_gs rfl | exact is_lit rfl | exact is_ms rfl | exact is_sc rfl | exact rfl)) ?_)
        refine s_q rfl rfl (q_mv (.inl rfl) (is_sc rfl)) ?_
        refine s_q rfl rfl (q_as (u8_eq (u8_wrap (by omega) (by omega) : _ = ((E : Nat) : Int))) (q_cii rfl rfl)) ?_
        refine s_q rfl rfl (q_as (u8_eq (exp_byte (e := E) (by omega))) (q_add rfl rfl rfl)) ?_
        refine s_q rfl rfl (q_bs rfl (pt_cons (is_sc rfl) (pt_cons (is_sc rfl) pt_nil)) (by decide) (by decide) (by exact (rfl : _ = some [_, _])) (by exact (rfl : _ = [_, _])) (by exact rfl) (by exact rfl)) ?_
        refine s_o rfl rfl (ao_appRowC (ys := [48, UInt8.ofNat (E + 48)]) rfl rfl hR (by exact rfl) (.inl rfl) (by simp) (by simp only [List.length_append, List.length_cons, List.length_nil, List.length_take, List.length_replicate, List.length_drop]; omega) fun k160 n160 c160 H160 hR => ?_)
        refine s_q rfl rfl (q_mv (.inr rfl) (by first | exact is_im rfl | exact is_gs rfl | exact is_lit rfl | exact is_ms rfl | exact is_sc rfl | exact rfl)) ?_
        refine s_nil (b_n (n_n (w_seq (w_reg (s_q rfl rfl (q_mv (.inl rfl) (by first | exact is_im rfl | exact is_gs rfl | exact is_lit rfl | exact is_ms rfl | exact is_sc rfl | exact rfl)) ?_)))))
        refine s_q rfl rfl (q_mv (.inr rfl) (by first | exact is_im rfl | exact is_gs rfl | exact is_lit rfl | exact is_ms rfl | exact is_sc rfl | exact rfl)) ?_
        refine s_nil (n_n (w_ret (b_r (n_r ?_))))
        -- end 6
        refine r_r (ra_tmp (by first | exact is_im rfl | exact is_gs rfl | exact is_lit rfl | exact is_ms rfl | exact is_sc rfl | exact rfl) ra_nil) (by first | exact is_im rfl | exact is_gs rfl | exact is_lit rfl | exact is_ms rfl | exact is_sc rfl | exact rfl) (by exact rfl) (Sub.refl _) ?_
        refine hR.cast ?_
        rw [hX]
        exact hT _
      · have h10 : ¬ E < 10 := by have h9 : ¬ (E : Int) < 10 := of_decide_eq_false h154; omega
        have hX := exp_ge h10
        refine w_env [(0, .hs k135 0 n135 c135), (22, i64 (E : Int))] ⟨rfl, rfl, trivial⟩ fun env hB => ?_
        rw [hB.eq]; clear hB
        refine w_seq (w_reg (s_q rfl rfl (q_mv (.inl rfl) (is_sc rfl)) ?_))
        refine s_q rfl rfl (q_as (bl_yes (show (E : Int) < 100 by omega)) (q_lss rfl rfl rfl)) ?_
        refine s_q rfl rfl (q_mv (.inr rfl) (is_sc rfl)) ?_
        refine s_nil (n_n (w_ifT rfl (w_reg (s_q rfl rfl (q_mv (.inl rfl) (by first | exact is_im rfl | exact is_gs rfl | exact is_lit rfl | exact is_ms rfl | exact is_sc rfl | exact rfl)) ?_))))
        refine s_q rfl rfl (q_mv (.inl rfl) (is_sc rfl)) ?_
        refine s_q rfl rfl (q_as (i64_eq (show IntKind.i64.wrap ((E : Int).tdiv 10) = ((E / 10 : Nat) : Int) by rw [nat_tdiv]; exact wrap_id (by omega) (by omega))) (q_quo rfl rfl rfl (by decide))) ?_
        refine s_q rfl rfl (q_as (u8_eq (u8_wrap (by omega) (by omega) : _ = ((E / 10 : Nat) : Int))) (q_cii rfl rfl)) ?_
        refine s_q rfl rfl (q_as (u8_eq (exp_byte (e := E / 10) (by omega))) (q_add rfl rfl rfl)) ?_
        refine s_q rfl rfl (q_mv (.inl rfl) (is_sc rfl)) ?_
        refine s_q rfl rfl (q_as (i64_eq (show (E : Int).tmod 10 = ((E % 10 : Nat) : Int) from nat_tmod)) (q_rem rfl rfl rfl (by decide))) ?_
        refine s_q rfl rfl (q_as (u8_eq (u8_wrap (by omega) (by omega) : _ = ((E % 10 : Nat) : Int))) (q_cii rfl rfl)) ?_
        refine s_q rfl rfl (q_as (u8_eq (exp_byte (e := E % 10) (by omega))) (q_add rfl rfl rfl)) ?_
        refine s_q rfl rfl (q_bs rfl (pt_cons (is_sc rfl) (pt_cons (is_sc rfl) pt_nil)) (by decide) (by decide) (by exact (rfl : _ = some [_, _])) (by exact (rfl : _ = [_, _])) (by exact rfl) (by exact rfl)) ?_
        refine s_o rfl rfl (ao_appRowC (ys := [UInt8.ofNat (E / 10 + 48), UInt8.ofNat (E % 10 + 48)]) rfl rfl hR (by exact rfl) (.inl rfl) (by simp) (by simp only [List.length_append, List.length_cons, List.length_nil, List.length_take, List.length_replicate, List.length_drop]; omega) fun k174 n174 c174 H174 hR => ?_)
        refine s_q rfl rfl (q_mv (.inr rfl) (by first | exact is_im rfl | exact is_gs rfl | exact is_lit rfl | exact is_ms rfl | exact is_sc rfl | exact rfl)) ?_
        refine s_nil (b_n (n_n (w_seq (w_reg (s_q rfl rfl (q_mv (.inl rfl) (by first | exact is_im rfl | exact is_gs rfl | exact is_lit rfl | exact is_ms rfl | exact is_sc rfl | exact rfl)) ?_)))))
        refine s_q rfl rfl (q_mv (.inr rfl) (by first | exact is_im rfl | exact is_gs rfl | exact is_lit rfl | exact is_ms rfl | exact is_sc rfl | exact rfl)) ?_
        refine s_nil (n_n (w_ret (b_r (n_r ?_))))
        -- end 7
        refine r_r (ra_tmp (by first | exact is_im rfl | exact is_gs rfl | exact is_lit rfl | exact is_ms rfl | exact is_sc rfl | exact rfl) ra_nil) (by first | exact is_im rfl | exact is_gs rfl | exact is_lit rfl | exact is_ms rfl | exact is_sc rfl | exact rfl) (by exact rfl) (Sub.refl _) ?_
        refine hR.cast ?_
        rw [hX]
        exact hT _


-- internal/strconv.fmtEFG
theorem pf_fmtP (h : Heap) (b k0 c0 : Nat) (sp0 rest : List D) (ds : List UInt8) (neg : Bool) (h0 : h k0 = some sp0) (hs0 : sp0.length = c0) (hc0 : 0 < c0) (hcm : c0 ≤ maxLen) (hb : h b = some (bc ds ++ rest)) (hbk : k0 ≠ b) (hn : 0 < ds.length) (hn20 : ds.length ≤ 20) (hr : (bc ds ++ rest).length = 32) (q : Nat) (h1 : 1 ≤ q) (h6 : q ≤ 6) (hq : q < ds.length) : ACall Tryz.prog G 287 true [.hs k0 0 0 c0, bl neg, .hs b 0 32 32, i64 ((q : Nat) : Int), i64 ds.length, i64 ds.length, .sc (.int .u8 103), bl true] h (fun v h' => RowB h' b (some (bc ds ++ rest)) v ((if neg = true then [45] else []) ++ fmtT ds ((q : Nat) : Int))) := by
  have hR : RowB h b (some (bc ds ++ rest)) (.hs k0 0 0 c0) [] := ⟨k0, c0, sp0, rfl, h0, hs0, Nat.zero_le _, hcm, hc0, fun cs e => by cases e; exact ⟨hb, hbk⟩⟩
  clear h0 hs0 hc0 hcm hbk
  obtain ⟨S, hS⟩ : ∃ S : List UInt8, S = (if neg = true then [45] else []) := ⟨_, rfl⟩
  have hSl : S.length ≤ 1 := by rw [hS]; split <;> simp
  refine ACall.intro rfl Tryz.func287 rfl (Nat.le_of_ble_eq_true rfl) rfl ?_
  refine w_seq (w_reg (s_q rfl rfl (q_mv (.inr rfl) (by first | exact is_im rfl | exact is_gs rfl | exact is_lit rfl | exact is_ms rfl | exact is_sc rfl | exact rfl)) ?_))
  refine s_nil (n_n (w_seq (w_seq (w_reg (s_q rfl rfl (q_mv (.inl rfl) (is_sc rfl)) ?_)))))
  refine s_q rfl rfl (q_eql rfl rfl rfl) ?_
  refine s_q rfl rfl (q_mv (.inl rfl) (is_sc rfl)) ?_
  refine s_off rfl rfl ?_
  refine s_off rfl rfl ?_
  refine s_q rfl rfl (q_pickT rfl rfl (is_sc rfl)) ?_
  refine s_nil (n_n (w_ifT rfl (w_seq (w_reg (s_q rfl rfl (q_mv (.inl rfl) (is_sc rfl)) ?_)))))
  refine s_q rfl rfl (q_mv (.inr rfl) (is_sc rfl)) ?_
  refine s_nil (n_n (w_seq (w_seq (w_reg (s_q rfl rfl (q_mv (.inl rfl) (is_sc rfl)) ?_)))))
  refine s_q rfl rfl (q_mv (.inl rfl) (is_sc rfl)) ?_
  refine s_q rfl rfl (q_as (bl_no (show ¬ (ds.length : Int) < (ds.length : Int) by omega)) (q_gtr rfl rfl rfl)) ?_
  refine s_q rfl rfl (q_mv (.inl rfl) (is_sc rfl)) ?_
  refine s_off rfl rfl ?_
  refine s_off rfl rfl ?_
  refine s_off rfl rfl ?_
  refine s_q rfl rfl (q_pickF rfl rfl (is_sc rfl)) ?_
  refine s_nil (n_n (w_ifF rfl (w_skip (n_n (w_seq (w_seq (w_reg (s_q rfl rfl (q_mv (.inl rfl) (is_sc rfl)) ?_))))))))
  refine s_nil (n_n (w_ifT rfl (w_reg (s_q rfl rfl (q_mv (.inr rfl) (is_sc rfl)) ?_))))
  refine s_nil (n_n (w_seq (w_reg (s_q rfl rfl (q_mv (.inl rfl) (is_sc rfl)) ?_))))
  refine s_q rfl rfl (q_as (i64_eq ((wrap_id (by omega) (by omega)).trans (by omega) : _ = ((q - 1 : Nat) : Int))) (q_sub rfl rfl rfl)) ?_
  refine s_q rfl rfl (q_mv (.inr rfl) (is_sc rfl)) ?_
  refine s_nil (n_n (w_seq (w_reg (s_q rfl rfl (q_mv (.inl rfl) (is_sc rfl)) ?_))))
  refine s_q rfl rfl (q_as (bl_no (show ¬ ((q - 1 : Nat) : Int) < -4 by omega)) (q_lss rfl rfl rfl)) ?_
  refine s_q rfl rfl (q_mv (.inl rfl) (is_sc rfl)) ?_
  refine s_q rfl rfl (q_mv (.inl rfl) (is_sc rfl)) ?_
  refine s_q rfl rfl (q_mv (.inl rfl) (is_sc rfl)) ?_
  refine s_q rfl rfl (q_as (bl_no (show ¬ (6 : Int) ≤ ((q - 1 : Nat) : Int) by omega)) (q_geq rfl rfl rfl)) ?_
  refine s_q rfl rfl (q_pickF rfl rfl (is_sc rfl)) ?_
  refine s_nil (n_n (w_ifF rfl (w_seq (w_seq (w_reg (s_q rfl rfl (q_mv (.inl rfl) (is_sc rfl)) ?_))))))
  refine s_q rfl rfl (q_mv (.inl rfl) (is_sc rfl)) ?_
  refine s_q rfl rfl (q_as (bl_yes (show (q : Int) < (ds.length : Int) by omega)) (q_gtr rfl rfl rfl)) ?_
  refine s_nil (n_n (w_ifT rfl (w_reg (s_q rfl rfl (q_mv (.inl rfl) (is_sc rfl)) ?_))))
  refine s_q rfl rfl (q_mv (.inr rfl) (is_sc rfl)) ?_
  refine s_nil (n_n (w_seq (w_reg (s_q rfl rfl (q_mv (.inl rfl) (is_sc rfl)) ?_))))
  refine s_q rfl rfl (q_mv (.inl rfl) (is_sc rfl)) ?_
  refine s_q rfl rfl (q_as (i64_eq ((wrap_id (by omega) (by omega)).trans (by omega) : _ = ((ds.length : Nat) : Int) - ((q : Nat) : Int))) (q_sub rfl rfl rfl)) ?_
  refine s_q rfl rfl (q_as (i64_eq (by split <;> omega : _ = ((ds.length - q : Nat) : Int))) (q_max rfl rfl rfl)) ?_
  refine s_q rfl rfl (q_mv (.inr rfl) (is_sc rfl)) ?_
  refine s_nil (n_n (w_reg (s_q rfl rfl (q_mv (.inr rfl) (is_sc rfl)) ?_)))
  refine s_nil (n_n (w_seq (w_seq (w_reg (s_q rfl rfl (q_mv (.inl rfl) (is_sc rfl)) ?_)))))
  refine s_nil (n_n (w_block (w_seq (w_seq (w_reg (s_q rfl rfl (q_eql rfl rfl rfl) ?_))))))
  refine s_q rfl rfl (q_mv (.inr rfl) (is_sc rfl)) ?_
  refine s_nil (n_n (w_ifF rfl (w_reg (s_q rfl rfl (q_eql rfl rfl rfl) ?_))))
  refine s_q rfl rfl (q_mv (.inr rfl) (is_sc rfl)) ?_
  refine s_nil (n_n (w_ifF rfl (w_seq (w_reg (s_q rfl rfl (q_eql rfl rfl rfl) ?_)))))
  refine s_q rfl rfl (q_mv (.inr rfl) (is_sc rfl)) ?_
  refine s_nil (n_n (w_ifT rfl (w_seq (w_seq (w_reg (s_q rfl rfl (q_mv (.inl rfl) (is_sc rfl)) ?_))))))
  refine s_nil (n_n (w_if (is_scb rfl) (fun h178 => ?_) (fun h178 => ?_)))
  · refine w_reg (s_q rfl rfl (q_mv (.inl rfl) (by first | exact is_im rfl | exact is_gs rfl | exact is_lit rfl | exact is_ms rfl | exact is_sc rfl | exact rfl)) ?_)
    refine s_q rfl rfl (q_bs rfl (pt_cons (is_sc rfl) pt_nil) (by decide) (by decide) (by exact (rfl : _ = some [_])) (by exact (rfl : _ = [_])) (by exact rfl) (by exact rfl)) ?_
    refine s_o rfl rfl (ao_appRowC (ys := [45]) rfl rfl hR (by exact rfl) (.inl rfl) (by simp) (by simp only [List.length_append, List.length_cons, List.length_nil, List.length_take, List.length_replicate, List.length_drop]; omega) fun k181 n181 c181 H181 hR => ?_)
    refine s_q rfl rfl (q_mv (.inr rfl) (by first | exact is_im rfl | exact is_gs rfl | exact is_lit rfl | exact is_ms rfl | exact is_sc rfl | exact rfl)) ?_
    refine s_nil (n_n (w_seq (w_seq (w_reg (s_q rfl rfl (q_mv (.inl rfl) (is_sc rfl)) ?_)))))
    refine s_q rfl rfl (q_as (bl_yes (show (0 : Int) < (q : Int) by omega)) (q_gtr rfl rfl rfl)) ?_
    refine s_nil (n_n (w_ifT rfl (w_seq (w_reg (s_q rfl rfl (q_mv (.inl rfl) (is_sc rfl)) ?_)))))
    refine s_q rfl rfl (q_mv (.inl rfl) (is_sc rfl)) ?_
    refine s_q rfl rfl (q_as (i64_eq (by split <;> omega : _ = ((q : Nat) : Int))) (q_min rfl rfl rfl)) ?_
    refine s_q rfl rfl (q_mv (.inr rfl) (is_sc rfl)) ?_
    refine s_nil (n_n (w_seq (w_seq (w_reg (s_q rfl rfl (q_mv (.inl rfl) (by first | exact is_im rfl | exact is_gs rfl | exact is_lit rfl | exact is_ms rfl | exact is_sc rfl | exact rfl)) ?_)))))
    refine s_q rfl rfl (q_mv (.inl rfl) (is_sc rfl)) ?_
    refine s_q rfl rfl (q_cutHs (a := 0) (b := q) (m := q) (c := 32) (o' := 0) rfl rfl rfl ⟨_, _, rfl, by omega, by omega⟩ (by omega) (by omega) (.inr rfl) rfl (by omega) rfl) ?_
    refine s_q rfl rfl (q_lenHs rfl rfl) ?_
    refine s_q rfl rfl (q_mv (.inl rfl) (is_sc rfl)) ?_
    refine s_nil (n_n (w_block ?_))
    replace hR := hR.cast (show _ = S by rw [hS]; simp [h178])
    refine w_loop (fun env A => ∃ (i n k c : Nat) (H : Heap), i ≤ q ∧ RowB H b (some (bc ds ++ rest)) (.hs k 0 n c) (S ++ ds.take i) ∧ Binds env [(0, .hs k 0 n c), (191, i64 i), (2, .hs b 0 32 32), (3, i64 ((q : Nat) : Int)), (4, i64 ((ds.length : Nat) : Int)), (5, i64 ((ds.length - q : Nat) : Int)), (23, i64 ((q : Nat) : Int)), (189, .hs b 0 q 32), (190, i64 ((q : Nat) : Int))] ∧ A = AH.start H) (fun env _ => q - ctr (env 191)) ?_ ?_
    · exact ⟨0, _, _, _, _, Nat.zero_le _, hR.cast (by simp), ⟨rfl, rfl, rfl, rfl, rfl, rfl, rfl, rfl, rfl, trivial⟩, rfl⟩
    · clear hR
      rintro env A ⟨i, n, k, c, H, hi, hR, hB, rfl⟩
      rw [hB.eq]; clear hB
      refine w_seq (w_reg (s_q rfl rfl (q_lss rfl rfl rfl) ?_))
      refine s_nil (n_n (w_seq (w_if (is_scb rfl) (fun h192 => ?_) (fun h192 => ?_))))
      · have hlt : i < q := by have h' : (i : Int) < ((q : Nat) : Int) := of_decide_eq_true h192; omega
        refine w_skip (n_n (w_seq (w_block (w_seq (w_reg (s_q rfl rfl (q_indexHs rfl rfl rfl (by omega) (by omega)) ?_))))))
        refine s_q rfl rfl (q_loadH rfl rfl (d := u8d (ds[i])) (by show Heap.get H b _ = _; rw [show 0 + ((i : Nat) : Int).toNat * 1 = i by omega]; exact get_bc hR.base (by omega))) ?_
        refine s_q rfl rfl (q_mv (.inr rfl) (is_sc rfl)) ?_
        refine s_nil (n_n (w_reg (s_q rfl rfl (q_mv (.inl rfl) (by first | exact is_im rfl | exact is_gs rfl | exact is_lit rfl | exact is_ms rfl | exact is_sc rfl | exact rfl)) ?_)))
        refine s_q rfl rfl (q_mv (.inl rfl) (is_sc rfl)) ?_
        refine s_q rfl rfl (q_bs rfl (pt_cons (is_sc rfl) pt_nil) (by decide) (by decide) (by exact (rfl : _ = some [_])) (by exact (rfl : _ = [_])) (by exact rfl) (by exact rfl)) ?_
        refine s_o rfl rfl (ao_appRowC (ys := [ds[i]]) rfl rfl hR (by exact rfl) (.inl rfl) (by simp) (by simp only [List.length_append, List.length_cons, List.length_nil, List.length_take, List.length_replicate, List.length_drop]; omega) fun k198 n198 c198 H198 hR => ?_)
        refine s_q rfl rfl (q_mv (.inr rfl) (by first | exact is_im rfl | exact is_gs rfl | exact is_lit rfl | exact is_ms rfl | exact is_sc rfl | exact rfl)) ?_
        refine s_nil (b_n (n_n (w_reg (s_q rfl rfl (q_add rfl rfl rfl) ?_))))
        refine s_q rfl rfl (q_mv (.inl rfl) (is_sc rfl)) ?_
        refine s_nil (n_n ?_)
        have hw : IntKind.i64.wrap ((i : Int) + 1) = ((i + 1 : Nat) : Int) := wrap_nat (by omega)
        refine ⟨⟨i + 1, _, _, _, _, hlt, hR.cast (take_snoc (by omega) _), ⟨rfl, i64_eq hw, rfl, rfl, rfl, rfl, rfl, rfl, rfl, trivial⟩, rfl⟩, ?_⟩
        show q - (IntKind.i64.wrap ((i : Int) + 1)).toNat < q - (i : Int).toNat
        rw [hw]; omega
      · have hge : i = q := by have h' : ¬ (i : Int) < ((q : Nat) : Int) := of_decide_eq_false h192; omega
        rw [hge] at hR
        refine w_exit (n_e (n_e (b_hit (n_n (w_seq (w_reg (s_q rfl rfl (q_mv (.inl rfl) (is_sc rfl)) ?_)))))))
        refine s_q rfl rfl (q_mv (.inl rfl) (is_sc rfl)) ?_
        refine s_q rfl rfl (q_as (i64_eq ((wrap_id (by omega) (by omega)).trans (by omega) : _ = (0 : Int))) (q_sub rfl rfl rfl)) ?_
        refine s_q rfl rfl (q_mv (.inl rfl) (is_sc rfl)) ?_
        refine s_nil (n_n (w_block (w_unroll 0 (u_0 ?_))))
        refine w_seq (w_reg (s_q rfl rfl (q_as (bl_no (show ¬ (0 : Int) < 0 by omega)) (q_lss rfl rfl rfl)) ?_))
        refine s_nil (n_n (w_seq (w_ifF rfl (w_exit (n_e (n_e (b_hit (n_n (w_seq (w_seq (w_reg (s_q rfl rfl (q_mv (.inl rfl) (is_sc rfl)) ?_))))))))))))
        refine s_q rfl rfl (q_as (bl_yes (show (0 : Int) < ((ds.length - q : Nat) : Int) by omega)) (q_gtr rfl rfl rfl)) ?_
        refine s_nil (n_n (w_ifT rfl (w_seq (w_reg (s_q rfl rfl (q_mv (.inl rfl) (by first | exact is_im rfl | exact is_gs rfl | exact is_lit rfl | exact is_ms rfl | exact is_sc rfl | exact rfl)) ?_)))))
        refine s_q rfl rfl (q_bs rfl (pt_cons (is_sc rfl) pt_nil) (by decide) (by decide) (by exact (rfl : _ = some [_])) (by exact (rfl : _ = [_])) (by exact rfl) (by exact rfl)) ?_
        refine s_o rfl rfl (ao_appRowC (ys := [46]) rfl rfl hR (by exact rfl) (.inl rfl) (by simp) (by simp only [List.length_append, List.length_cons, List.length_nil, List.length_take, List.length_replicate, List.length_drop]; omega) fun k216 n216 c216 H216 hR => ?_)
        refine s_q rfl rfl (q_mv (.inr rfl) (by first | exact is_im rfl | exact is_gs rfl | exact is_lit rfl | exact is_ms rfl | exact is_sc rfl | exact rfl)) ?_
        refine s_nil (n_n (w_seq (w_reg (s_q rfl rfl (q_mv (.inl rfl) (is_sc rfl)) ?_))))
        refine s_q rfl rfl (q_mv (.inl rfl) (is_sc rfl)) ?_
        refine s_q rfl rfl (q_as (i64_eq ((wrap_id (by omega) (by omega)).trans (by omega) : _ = -((q : Nat) : Int))) (q_neg rfl rfl)) ?_
        refine s_q rfl rfl (q_as (i64_eq (by split <;> omega : _ = (0 : Int))) (q_max rfl rfl rfl)) ?_
        refine s_q rfl rfl (q_as (i64_eq (by split <;> omega : _ = (0 : Int))) (q_min rfl rfl rfl)) ?_
        refine s_q rfl rfl (q_mv (.inr rfl) (is_sc rfl)) ?_
        refine s_nil (n_n (w_seq (w_reg (s_q rfl rfl (q_mv (.inl rfl) (is_sc rfl)) ?_))))
        refine s_q rfl rfl (q_mv (.inl rfl) (is_sc rfl)) ?_
        refine s_q rfl rfl (q_as (i64_eq ((wrap_id (by omega) (by omega)).trans (by omega) : _ = ((q : Nat) : Int))) (q_add rfl rfl rfl)) ?_
        refine s_q rfl rfl (q_mv (.inr rfl) (is_sc rfl)) ?_
        refine s_nil (n_n (w_seq (w_reg (s_q rfl rfl (q_mv (.inl rfl) (is_sc rfl)) ?_))))
        refine s_q rfl rfl (q_mv (.inl rfl) (is_sc rfl)) ?_
        refine s_q rfl rfl (q_as (i64_eq ((wrap_id (by omega) (by omega)).trans (by omega) : _ = ((ds.length - q : Nat) : Int))) (q_sub rfl rfl rfl)) ?_
        refine s_q rfl rfl (q_mv (.inl rfl) (is_sc rfl)) ?_
        refine s_q rfl rfl (q_mv (.inl rfl) (is_sc rfl)) ?_
        refine s_q rfl rfl (q_as (i64_eq ((wrap_id (by omega) (by omega)).trans (by omega) : _ = ((ds.length - q : Nat) : Int))) (q_sub rfl rfl rfl)) ?_
        refine s_q rfl rfl (q_as (i64_eq (by split <;> omega : _ = ((ds.length - q : Nat) : Int))) (q_max rfl rfl rfl)) ?_
        refine s_q rfl rfl (q_as (i64_eq (by split <;> omega : _ = ((ds.length - q : Nat) : Int))) (q_min rfl rfl rfl)) ?_
        refine s_q rfl rfl (q_mv (.inr rfl) (is_sc rfl)) ?_
        refine s_nil (n_n (w_seq (w_reg (s_q rfl rfl (q_mv (.inl rfl) (is_sc rfl)) ?_))))
        refine s_q rfl rfl (q_mv (.inl rfl) (is_sc rfl)) ?_
        refine s_q rfl rfl (q_as (i64_eq ((wrap_id (by omega) (by omega)).trans (by omega) : _ = ((ds.length - q : Nat) : Int))) (q_sub rfl rfl rfl)) ?_
        refine s_q rfl rfl (q_mv (.inl rfl) (is_sc rfl)) ?_
        refine s_q rfl rfl (q_as (i64_eq ((wrap_id (by omega) (by omega)).trans (by omega) : _ = (0 : Int))) (q_sub rfl rfl rfl)) ?_
        refine s_q rfl rfl (q_as (i64_eq (by split <;> omega : _ = (0 : Int))) (q_max rfl rfl rfl)) ?_
        refine s_q rfl rfl (q_mv (.inr rfl) (is_sc rfl)) ?_
        refine s_nil (n_n (w_seq (w_seq (w_reg (s_q rfl rfl (q_mv (.inl rfl) (is_sc rfl)) ?_)))))
        refine s_q rfl rfl (q_mv (.inl rfl) (is_sc rfl)) ?_
        refine s_nil (n_n (w_block (w_unroll 0 (u_0 ?_))))
        refine w_seq (w_reg (s_q rfl rfl (q_as (bl_no (show ¬ (0 : Int) < 0 by omega)) (q_lss rfl rfl rfl)) ?_))
        refine s_nil (n_n (w_seq (w_ifF rfl (w_exit (n_e (n_e (b_hit (n_n (w_seq (w_seq (w_reg (s_q rfl rfl (q_mv (.inl rfl) (is_sc rfl)) ?_))))))))))))
        refine s_q rfl rfl (q_mv (.inl rfl) (is_sc rfl)) ?_
        refine s_nil (n_n (w_block ?_))
        refine w_loop (fun env A => ∃ (i n k c : Nat) (H : Heap), i ≤ (ds.length - q) ∧ RowB H b (some (bc ds ++ rest)) (.hs k 0 n c) ((S ++ ds.take q ++ [46]) ++ (ds.drop q).take i) ∧ Binds env [(0, .hs k 0 n c), (247, i64 i), (2, .hs b 0 32 32), (27, i64 ((q : Nat) : Int)), (28, i64 ((ds.length - q : Nat) : Int)), (29, i64 0), (246, i64 ((ds.length - q : Nat) : Int))] ∧ A = AH.start H) (fun env _ => (ds.length - q) - ctr (env 247)) ?_ ?_
        · exact ⟨0, _, _, _, _, Nat.zero_le _, hR.cast (by simp), ⟨rfl, rfl, rfl, rfl, rfl, rfl, rfl, trivial⟩, rfl⟩
        · clear hR
          rintro env A ⟨i, n, k, c, H, hi, hR, hB, rfl⟩
          rw [hB.eq]; clear hB
          refine w_seq (w_reg (s_q rfl rfl (q_lss rfl rfl rfl) ?_))
          refine s_nil (n_n (w_seq (w_if (is_scb rfl) (fun h248 => ?_) (fun h248 => ?_))))
          · have hlt : i < (ds.length - q) := by have h' : (i : Int) < (((ds.length - q) : Nat) : Int) := of_decide_eq_true h248; omega
            refine w_skip (n_n (w_seq (w_block (w_seq (w_reg (s_q rfl rfl (q_mv (.inl rfl) (is_sc rfl)) ?_))))))
            refine s_q rfl rfl (q_mv (.inr rfl) (is_sc rfl)) ?_
            refine s_nil (n_n (w_reg (s_q rfl rfl (q_mv (.inl rfl) (by first | exact is_im rfl | exact is_gs rfl | exact is_lit rfl | exact is_ms rfl | exact is_sc rfl | exact rfl)) ?_)))
            refine s_q rfl rfl (q_mv (.inl rfl) (by first | exact is_im rfl | exact is_gs rfl | exact is_lit rfl | exact is_ms rfl | exact is_sc rfl | exact rfl)) ?_
            refine s_q rfl rfl (q_mv (.inl rfl) (is_sc rfl)) ?_
            refine s_q rfl rfl (q_mv (.inl rfl) (is_sc rfl)) ?_
            refine s_q rfl rfl (q_as (i64_eq ((wrap_id (by omega) (by omega)).trans (by omega) : _ = ((q + i : Nat) : Int))) (q_add rfl rfl rfl)) ?_
            refine s_q rfl rfl (q_indexHs rfl rfl rfl (by omega) (by omega)) ?_
            refine s_q rfl rfl (q_loadH rfl rfl (d := u8d (ds[q + i])) (by show Heap.get H b _ = _; rw [show 0 + ((q + i : Nat) : Int).toNat * 1 = q + i by omega]; exact get_bc hR.base (by omega))) ?_
            refine s_q rfl rfl (q_bs rfl (pt_cons (is_sc rfl) pt_nil) (by decide) (by decide) (by exact (rfl : _ = some [_])) (by exact (rfl : _ = [_])) (by exact rfl) (by exact rfl)) ?_
            refine s_o rfl rfl (ao_appRowC (ys := [ds[q + i]]) rfl rfl hR (by exact rfl) (.inl rfl) (by simp) (by simp only [List.length_append, List.length_cons, List.length_nil, List.length_take, List.length_replicate, List.length_drop]; omega) fun k258 n258 c258 H258 hR => ?_)
            refine s_q rfl rfl (q_mv (.inr rfl) (by first | exact is_im rfl | exact is_gs rfl | exact is_lit rfl | exact is_ms rfl | exact is_sc rfl | exact rfl)) ?_
            refine s_nil (b_n (n_n (w_reg (s_q rfl rfl (q_add rfl rfl rfl) ?_))))
            refine s_q rfl rfl (q_mv (.inl rfl) (is_sc rfl)) ?_
            refine s_nil (n_n ?_)
            have hw : IntKind.i64.wrap ((i : Int) + 1) = ((i + 1 : Nat) : Int) := wrap_nat (by omega)
            refine ⟨⟨i + 1, _, _, _, _, hlt, hR.cast (drop_snoc (by omega) _), ⟨rfl, i64_eq hw, rfl, rfl, rfl, rfl, rfl, trivial⟩, rfl⟩, ?_⟩
            show (ds.length - q) - (IntKind.i64.wrap ((i : Int) + 1)).toNat < (ds.length - q) - (i : Int).toNat
            rw [hw]; omega
          · have hge : i = (ds.length - q) := by have h' : ¬ (i : Int) < (((ds.length - q) : Nat) : Int) := of_decide_eq_false h248; omega
            rw [hge] at hR
            refine w_exit (n_e (n_e (b_hit (n_n (w_seq (w_reg (s_q rfl rfl (q_mv (.inl rfl) (is_sc rfl)) ?_)))))))
            refine s_q rfl rfl (q_mv (.inl rfl) (is_sc rfl)) ?_
            refine s_nil (n_n (w_block (w_unroll 0 (u_0 ?_))))
            refine w_seq (w_reg (s_q rfl rfl (q_as (bl_no (show ¬ (0 : Int) < 0 by omega)) (q_lss rfl rfl rfl)) ?_))
            refine s_nil (n_n (w_seq (w_ifF rfl (w_exit (n_e (n_e (b_hit (n_n (w_seq (w_reg (s_q rfl rfl (q_mv (.inl rfl) (by first | exact is_im rfl | exact is_gs rfl | exact is_lit rfl | exact is_ms rfl | exact is_sc rfl | exact rfl)) ?_)))))))))))
            refine s_q rfl rfl (q_mv (.inr rfl) (by first | exact is_im rfl | exact is_gs rfl | exact is_lit rfl | exact is_ms rfl | exact is_sc rfl | exact rfl)) ?_
            refine s_nil (n_n (w_ret (b_r (n_r ?_))))
            -- end 0
            refine r_r (ra_tmp (by first | exact is_im rfl | exact is_gs rfl | exact is_lit rfl | exact is_ms rfl | exact is_sc rfl | exact rfl) ra_nil) (by first | exact is_im rfl | exact is_gs rfl | exact is_lit rfl | exact is_ms rfl | exact is_sc rfl | exact rfl) (by exact rfl) (Sub.refl _) ?_
            refine hR.cast ?_
            rw [← hS, fmtT_p h1 h6 hq, List.take_of_length_le (l := ds.drop q) (by rw [List.length_drop]; omega)]
            simp
  · refine w_skip (n_n (w_seq (w_seq (w_reg (s_q rfl rfl (q_mv (.inl rfl) (is_sc rfl)) ?_)))))
    refine s_q rfl rfl (q_as (bl_yes (show (0 : Int) < (q : Int) by omega)) (q_gtr rfl rfl rfl)) ?_
    refine s_nil (n_n (w_ifT rfl (w_seq (w_reg (s_q rfl rfl (q_mv (.inl rfl) (is_sc rfl)) ?_)))))
    refine s_q rfl rfl (q_mv (.inl rfl) (is_sc rfl)) ?_
    refine s_q rfl rfl (q_as (i64_eq (by split <;> omega : _ = ((q : Nat) : Int))) (q_min rfl rfl rfl)) ?_
    refine s_q rfl rfl (q_mv (.inr rfl) (is_sc rfl)) ?_
    refine s_nil (n_n (w_seq (w_seq (w_reg (s_q rfl rfl (q_mv (.inl rfl) (by first | exact is_im rfl | exact is_gs rfl | exact is_lit rfl | exact is_ms rfl | exact is_sc rfl | exact rfl)) ?_)))))
    refine s_q rfl rfl (q_mv (.inl rfl) (is_sc rfl)) ?_
    refine s_q rfl rfl (q_cutHs (a := 0) (b := q) (m := q) (c := 32) (o' := 0) rfl rfl rfl ⟨_, _, rfl, by omega, by omega⟩ (by omega) (by omega) (.inr rfl) rfl (by omega) rfl) ?_
    refine s_q rfl rfl (q_lenHs rfl rfl) ?_
    refine s_q rfl rfl (q_mv (.inl rfl) (is_sc rfl)) ?_
    refine s_nil (n_n (w_block ?_))
    replace hR := hR.cast (show _ = S by rw [hS]; simp [h178])
    refine w_loop (fun env A => ∃ (i n k c : Nat) (H : Heap), i ≤ q ∧ RowB H b (some (bc ds ++ rest)) (.hs k 0 n c) (S ++ ds.take i) ∧ Binds env [(0, .hs k 0 n c), (191, i64 i), (2, .hs b 0 32 32), (3, i64 ((q : Nat) : Int)), (4, i64 ((ds.length : Nat) : Int)), (5, i64 ((ds.length - q : Nat) : Int)), (23, i64 ((q : Nat) : Int)), (189, .hs b 0 q 32), (190, i64 ((q : Nat) : Int))] ∧ A = AH.start H) (fun env _ => q - ctr (env 191)) ?_ ?_
    · exact ⟨0, _, _, _, _, Nat.zero_le _, hR.cast (by simp), ⟨rfl, rfl, rfl, rfl, rfl, rfl, rfl, rfl, rfl, trivial⟩, rfl⟩
    · clear hR
      rintro env A ⟨i, n, k, c, H, hi, hR, hB, rfl⟩
      rw [hB.eq]; clear hB
      refine w_seq (w_reg (s_q rfl rfl (q_lss rfl rfl rfl) ?_))
      refine s_nil (n_n (w_seq (w_if (is_scb rfl) (fun h192 => ?_) (fun h192 => ?_))))
      · have hlt : i < q := by have h' : (i : Int) < ((q : Nat) : Int) := of_decide_eq_true h192; omega
        refine w_skip (n_n (w_seq (w_block (w_seq (w_reg (s_q rfl rfl (q_indexHs rfl rfl rfl (by omega) (by omega)) ?_))))))
        refine s_q rfl rfl (q_loadH rfl rfl (d := u8d (ds[i])) (by show Heap.get H b _ = _; rw [show 0 + ((i : Nat) : Int).toNat * 1 = i by omega]; exact get_bc hR.base (by omega))) ?_
        refine s_q rfl rfl (q_mv (.inr rfl) (is_sc rfl)) ?_
        refine s_nil (n_n (w_reg (s_q rfl rfl (q_mv (.inl rfl) (by first | exact is_im rfl | exact is_gs rfl | exact is_lit rfl | exact is_ms rfl | exact is_sc rfl | exact rfl)) ?_)))
        refine s_q rfl rfl (q_mv (.inl rfl) (is_sc rfl)) ?_
        refine s_q rfl rfl (q_bs rfl (pt_cons (is_sc rfl) pt_nil) (by decide) (by decide) (by exact (rfl : _ = some [_])) (by exact (rfl : _ = [_])) (by exact rfl) (by exact rfl)) ?_
        refine s_o rfl rfl (ao_appRowC (ys := [ds[i]]) rfl rfl hR (by exact rfl) (.inl rfl) (by simp) (by simp only [List.length_append, List.length_cons, List.length_nil, List.length_take, List.length_replicate, List.length_drop]; omega) fun k198 n198 c198 H198 hR => ?_)
        refine s_q rfl rfl (q_mv (.inr rfl) (by first | exact is_im rfl | exact is_gs rfl | exact is_lit rfl | exact is_ms rfl | exact is_sc rfl | exact rfl)) ?_
        refine s_nil (b_n (n_n (w_reg (s_q rfl rfl (q_add rfl rfl rfl) ?_))))
        refine s_q rfl rfl (q_mv (.inl rfl) (is_sc rfl)) ?_
        refine s_nil (n_n ?_)
        have hw : IntKind.i64.wrap ((i : Int) + 1) = ((i + 1 : Nat) : Int) := wrap_nat (by omega)
        refine ⟨⟨i + 1, _, _, _, _, hlt, hR.cast (take_snoc (by omega) _), ⟨rfl, i64_eq hw, rfl, rfl, rfl, rfl, rfl, rfl, rfl, trivial⟩, rfl⟩, ?_⟩
        show q - (IntKind.i64.wrap ((i : Int) + 1)).toNat < q - (i : Int).toNat
        rw [hw]; omega
      · have hge : i = q := by have h' : ¬ (i : Int) < ((q : Nat) : Int) := of_decide_eq_false h192; omega
        rw [hge] at hR
        refine w_exit (n_e (n_e (b_hit (n_n (w_seq (w_reg (s_q rfl rfl (q_mv (.inl rfl) (is_sc rfl)) ?_)))))))
        refine s_q rfl rfl (q_mv (.inl rfl) (is_sc rfl)) ?_
        refine s_q rfl rfl (q_as (i64_eq ((wrap_id (by omega) (by omega)).trans (by omega) : _ = (0 : Int))) (q_sub rfl rfl rfl)) ?_
        refine s_q rfl rfl (q_mv (.inl rfl) (is_sc rfl)) ?_
        refine s_nil (n_n (w_block (w_unroll 0 (u_0 ?_))))
        refine w_seq (w_reg (s_q rfl rfl (q_as (bl_no (show ¬ (0 : Int) < 0 by omega)) (q_lss rfl rfl rfl)) ?_))
        refine s_nil (n_n (w_seq (w_ifF rfl (w_exit (n_e (n_e (b_hit (n_n (w_seq (w_seq (w_reg (s_q rfl rfl (q_mv (.inl rfl) (is_sc rfl)) ?_))))))))))))
        refine s_q rfl rfl (q_as (bl_yes (show (0 : Int) < ((ds.length - q : Nat) : Int) by omega)) (q_gtr rfl rfl rfl)) ?_
        refine s_nil (n_n (w_ifT rfl (w_seq (w_reg (s_q rfl rfl (q_mv (.inl rfl) (by first | exact is_im rfl | exact is_gs rfl | exact is_lit rfl | exact is_ms rfl | exact is_sc rfl | exact rfl)) ?_)))))
        refine s_q rfl rfl (q_bs rfl (pt_cons (is_sc rfl) pt_nil) (by decide) (by decide) (by exact (rfl : _ = some [_])) (by exact (rfl : _ = [_])) (by exact rfl) (by exact rfl)) ?_
        refine s_o rfl rfl (ao_appRowC (ys := [46]) rfl rfl hR (by exact rfl) (.inl rfl) (by simp) (by simp only [List.length_append, List.length_cons, List.length_nil, List.length_take, List.length_replicate, List.length_drop]; omega) fun k216 n216 c216 H216 hR => ?_)
        refine s_q rfl rfl (q_mv (.inr rfl) (by first | exact is_im rfl | exact is_gs rfl | exact is_lit rfl | exact is_ms rfl | exact is_sc rfl | exact rfl)) ?_
        refine s_nil (n_n (w_seq (w_reg (s_q rfl rfl (q_mv (.inl rfl) (is_sc rfl)) ?_))))
        refine s_q rfl rfl (q_mv (.inl rfl) (is_sc rfl)) ?_
        refine s_q rfl rfl (q_as (i64_eq ((wrap_id (by omega) (by omega)).trans (by omega) : _ = -((q : Nat) : Int))) (q_neg rfl rfl)) ?_
        refine s_q rfl rfl (q_as (i64_eq (by split <;> omega : _ = (0 : Int))) (q_max rfl rfl rfl)) ?_
        refine s_q rfl rfl (q_as (i64_eq (by split <;> omega : _ = (0 : Int))) (q_min rfl rfl rfl)) ?_
        refine s_q rfl rfl (q_mv (.inr rfl) (is_sc rfl)) ?_
        refine s_nil (n_n (w_seq (w_reg (s_q rfl rfl (q_mv (.inl rfl) (is_sc rfl)) ?_))))
        refine s_q rfl rfl (q_mv (.inl rfl) (is_sc rfl)) ?_
        refine s_q rfl rfl (q_as (i64_eq ((wrap_id (by omega) (by omega)).trans (by omega) : _ = ((q : Nat) : Int))) (q_add rfl rfl rfl)) ?_
        refine s_q rfl rfl (q_mv (.inr rfl) (is_sc rfl)) ?_
        refine s_nil (n_n (w_seq (w_reg (s_q rfl rfl (q_mv (.inl rfl) (is_sc rfl)) ?_))))
        refine s_q rfl rfl (q_mv (.inl rfl) (is_sc rfl)) ?_
        refine s_q rfl rfl (q_as (i64_eq ((wrap_id (by omega) (by omega)).trans (by omega) : _ = ((ds.length - q : Nat) : Int))) (q_sub rfl rfl rfl)) ?_
        refine s_q rfl rfl (q_mv (.inl rfl) (is_sc rfl)) ?_
        refine s_q rfl rfl (q_mv (.inl rfl) (is_sc rfl)) ?_
        refine s_q rfl rfl (q_as (i64_eq ((wrap_id (by omega) (by omega)).trans (by omega) : _ = ((ds.length - q : Nat) : Int))) (q_sub rfl rfl rfl)) ?_
        refine s_q rfl rfl (q_as (i64_eq (by split <;> omega : _ = ((ds.length - q : Nat) : Int))) (q_max rfl rfl rfl)) ?_
        refine s_q rfl rfl (q_as (i64_eq (by split <;> omega : _ = ((ds.length - q : Nat) : Int))) (q_min rfl rfl rfl)) ?_
        refine s_q rfl rfl (q_mv (.inr rfl) (is_sc rfl)) ?_
        refine s_nil (n_n (w_seq (w_reg (s_q rfl rfl (q_mv (.inl rfl) (is_sc rfl)) ?_))))
        refine s_q rfl rfl (q_mv (.inl rfl) (is_sc rfl)) ?_
        refine s_q rfl rfl (q_as (i64_eq ((wrap_id (by omega) (by omega)).trans (by omega) : _ = ((ds.length - q : Nat) : Int))) (q_sub rfl rfl rfl)) ?_
        refine s_q rfl rfl (q_mv (.inl rfl) (is_sc rfl)) ?_
        refine s_q rfl rfl (q_as (i64_eq ((wrap_id (by omega) (by omega)).trans (by omega) : _ = (0 : Int))) (q_sub rfl rfl rfl)) ?_
        refine s_q rfl rfl (q_as (i64_eq (by split <;> omega : _ = (0 : Int))) (q_max rfl rfl rfl)) ?_
        refine s_q rfl rfl (q_mv (.inr rfl) (is_sc rfl)) ?_
        refine s_nil (n_n (w_seq (w_seq (w_reg (s_q rfl rfl (q_mv (.inl rfl) (is_sc rfl)) ?_)))))
        refine s_q rfl rfl (q_mv (.inl rfl) (is_sc rfl)) ?_
        refine s_nil (n_n (w_block (w_unroll 0 (u_0 ?_))))
        refine w_seq (w_reg (s_q rfl rfl (q_as (bl_no (show ¬ (0 : Int) < 0 by omega)) (q_lss rfl rfl rfl)) ?_))
        refine s_nil (n_n (w_seq (w_ifF rfl (w_exit (n_e (n_e (b_hit (n_n (w_seq (w_seq (w_reg (s_q rfl rfl (q_mv (.inl rfl) (is_sc rfl)) ?_))))))))))))
        refine s_q rfl rfl (q_mv (.inl rfl) (is_sc rfl)) ?_
        refine s_nil (n_n (w_block ?_))
        refine w_loop (fun env A => ∃ (i n k c : Nat) (H : Heap), i ≤ (ds.length - q) ∧ RowB H b (some (bc ds ++ rest)) (.hs k 0 n c) ((S ++ ds.take q ++ [46]) ++ (ds.drop q).take i) ∧ Binds env [(0, .hs k 0 n c), (247, i64 i), (2, .hs b 0 32 32), (27, i64 ((q : Nat) : Int)), (28, i64 ((ds.length - q : Nat) : Int)), (29, i64 0), (246, i64 ((ds.length - q : Nat) : Int))] ∧ A = AH.start H) (fun env _ => (ds.length - q) - ctr (env 247)) ?_ ?_
        · exact ⟨0, _, _, _, _, Nat.zero_le _, hR.cast (by simp), ⟨rfl, rfl, rfl, rfl, rfl, rfl, rfl, trivial⟩, rfl⟩
        · clear hR
          rintro env A ⟨i, n, k, c, H, hi, hR, hB, rfl⟩
          rw [hB.eq]; clear hB
          refine w_seq (w_reg (s_q rfl rfl (q_lss rfl rfl rfl) ?_))
          refine s_nil (n_n (w_seq (w_if (is_scb rfl) (fun h248 => ?_) (fun h248 => ?_))))
          · have hlt : i < (ds.length - q) := by have h' : (i : Int) < (((ds.length - q) : Nat) : Int) := of_decide_eq_true h248; omega
            refine w_skip (n_n (w_seq (w_block (w_seq (w_reg (s_q rfl rfl (q_mv (.inl rfl) (is_sc rfl)) ?_))))))
            refine s_q rfl rfl (q_mv (.inr rfl) (is_sc rfl)) ?_
            refine s_nil (n_n (w_reg (s_q rfl rfl (q_mv (.inl rfl) (by first | exact is_im rfl | exact is_gs rfl | exact is_lit rfl | exact is_ms rfl | exact is_sc rfl | exact rfl)) ?_)))
            refine s_q rfl rfl (q_mv (.inl rfl) (by first | exact is_im rfl | exact is_gs rfl | exact is_lit rfl | exact is_ms rfl | exact is_sc rfl | exact rfl)) ?_
            refine s_q rfl rfl (q_mv (.inl rfl) (is_sc rfl)) ?_
            refine s_q rfl rfl (q_mv (.inl rfl) (is_sc rfl)) ?_
            refine s_q rfl rfl (q_as (i64_eq ((wrap_id (by omega) (by omega)).trans (by omega) : _ = ((q + i : Nat) : Int))) (q_add rfl rfl rfl)) ?_
            refine s_q rfl rfl (q_indexHs rfl rfl rfl (by omega) (by omega)) ?_
            refine s_q rfl rfl (q_loadH rfl rfl (d := u8d (ds[q + i])) (by show Heap.get H b _ = _; rw [show 0 + ((q + i : Nat) : Int).toNat * 1 = q + i by omega]; exact get_bc hR.base (by omega))) ?_
            refine s_q rfl rfl (q_bs rfl (pt_cons (is_sc rfl) pt_nil) (by decide) (by decide) (by exact (rfl : _ = some [_])) (by exact (rfl : _ = [_])) (by exact rfl) (by exact rfl)) ?_
            refine s_o rfl rfl (ao_appRowC (ys := [ds[q + i]]) rfl rfl hR (by exact rfl) (.inl rfl) (by simp) (by simp only [List.length_append, List.length_cons, List.length_nil, List.length_take, List.length_replicate, List.length_drop]; omega) fun k258 n258 c258 H258 hR => ?_)
            refine s_q rfl rfl (q_mv (.inr rfl) (by first | exact is_im rfl | exact is_gs rfl | exact is_lit rfl | exact is_ms rfl | exact is_sc rfl | exact rfl)) ?_
            refine s_nil (b_n (n_n (w_reg (s_q rfl rfl (q_add rfl rfl rfl) ?_))))
            refine s_q rfl rfl (q_mv (.inl rfl) (is_sc rfl)) ?_
            refine s_nil (n_n ?_)
            have hw : IntKind.i64.wrap ((i : Int) + 1) = ((i + 1 : Nat) : Int) := wrap_nat (by omega)
            refine ⟨⟨i + 1, _, _, _, _, hlt, hR.cast (drop_snoc (by omega) _), ⟨rfl, i64_eq hw, rfl, rfl, rfl, rfl, rfl, trivial⟩, rfl⟩, ?_⟩
            show (ds.length - q) - (IntKind.i64.wrap ((i : Int) + 1)).toNat < (ds.length - q) - (i : Int).toNat
            rw [hw]; omega
          · have hge : i = (ds.length - q) := by have h' : ¬ (i : Int) < (((ds.length - q) : Nat) : Int) := of_decide_eq_false h248; omega
            rw [hge] at hR
            refine w_exit (n_e (n_e (b_hit (n_n (w_seq (w_reg (s_q rfl rfl (q_mv (.inl rfl) (is_sc rfl)) ?_)))))))
            refine s_q rfl rfl (q_mv (.inl rfl) (is_sc rfl)) ?_
            refine s_nil (n_n (w_block (w_unroll 0 (u_0 ?_))))
            refine w_seq (w_reg (s_q rfl rfl (q_as (bl_no (show ¬ (0 : Int) < 0 by omega)) (q_lss rfl rfl rfl)) ?_))
            refine s_nil (n_n (w_seq (w_ifF rfl (w_exit (n_e (n_e (b_hit (n_n (w_seq (w_reg (s_q rfl rfl (q_mv (.inl rfl) (by first | exact is_im rfl | exact is_gs rfl | exact is_lit rfl | exact is_ms rfl | exact is_sc rfl | exact rfl)) ?_)))))))))))
            refine s_q rfl rfl (q_mv (.inr rfl) (by first | exact is_im rfl | exact is_gs rfl | exact is_lit rfl | exact is_ms rfl | exact is_sc rfl | exact rfl)) ?_
            refine s_nil (n_n (w_ret (b_r (n_r ?_))))
            -- end 1
            refine r_r (ra_tmp (by first | exact is_im rfl | exact is_gs rfl | exact is_lit rfl | exact is_ms rfl | exact is_sc rfl | exact rfl) ra_nil) (by first | exact is_im rfl | exact is_gs rfl | exact is_lit rfl | exact is_ms rfl | exact is_sc rfl | exact rfl) (by exact rfl) (Sub.refl _) ?_
            refine hR.cast ?_
            rw [← hS, fmtT_p h1 h6 hq, List.take_of_length_le (l := ds.drop q) (by rw [List.length_drop]; omega)]
            simp


-- internal/strconv.fmtEFG
theorem pf_fmtW (h : Heap) (b k0 c0 : Nat) (sp0 rest : List D) (ds : List UInt8) (neg : Bool) (h0 : h k0 = some sp0) (hs0 : sp0.length = c0) (hc0 : 0 < c0) (hcm : c0 ≤ maxLen) (hb : h b = some (bc ds ++ rest)) (hbk : k0 ≠ b) (hn : 0 < ds.length) (hn20 : ds.length ≤ 20) (hr : (bc ds ++ rest).length = 32) (q : Nat) (h1 : 1 ≤ q) (h6 : q ≤ 6) (hq : ds.length ≤ q) : ACall Tryz.prog G 287 true [.hs k0 0 0 c0, bl neg, .hs b 0 32 32, i64 ((q : Nat) : Int), i64 ds.length, i64 ds.length, .sc (.int .u8 103), bl true] h (fun v h' => RowB h' b (some (bc ds ++ rest)) v ((if neg = true then [45] else []) ++ fmtT ds ((q : Nat) : Int))) := by
  have hR : RowB h b (some (bc ds ++ rest)) (.hs k0 0 0 c0) [] := ⟨k0, c0, sp0, rfl, h0, hs0, Nat.zero_le _, hcm, hc0, fun cs e => by cases e; exact ⟨hb, hbk⟩⟩
  clear h0 hs0 hc0 hcm hbk
  obtain ⟨S, hS⟩ : ∃ S : List UInt8, S = (if neg = true then [45] else []) := ⟨_, rfl⟩
  have hSl : S.length ≤ 1 := by rw [hS]; split <;> simp
  refine ACall.intro rfl Tryz.func287 rfl (Nat.le_of_ble_eq_true rfl) rfl ?_
  refine w_seq (w_reg (s_q rfl rfl (q_mv (.inr rfl) (by first | exact is_im rfl | exact is_gs rfl | exact is_lit rfl | exact is_ms rfl | exact is_sc rfl | exact rfl)) ?_))
  refine s_nil (n_n (w_seq (w_seq (w_reg (s_q rfl rfl (q_mv (.inl rfl) (is_sc rfl)) ?_)))))
  refine s_q rfl rfl (q_eql rfl rfl rfl) ?_
  refine s_q rfl rfl (q_mv (.inl rfl) (is_sc rfl)) ?_
  refine s_off rfl rfl ?_
  refine s_off rfl rfl ?_
  refine s_q rfl rfl (q_pickT rfl rfl (is_sc rfl)) ?_
  refine s_nil (n_n (w_ifT rfl (w_seq (w_reg (s_q rfl rfl (q_mv (.inl rfl) (is_sc rfl)) ?_)))))
  refine s_q rfl rfl (q_mv (.inr rfl) (is_sc rfl)) ?_
  refine s_nil (n_n (w_seq (w_seq (w_reg (s_q rfl rfl (q_mv (.inl rfl) (is_sc rfl)) ?_)))))
  refine s_q rfl rfl (q_mv (.inl rfl) (is_sc rfl)) ?_
  refine s_q rfl rfl (q_as (bl_no (show ¬ (ds.length : Int) < (ds.length : Int) by omega)) (q_gtr rfl rfl rfl)) ?_
  refine s_q rfl rfl (q_mv (.inl rfl) (is_sc rfl)) ?_
  refine s_off rfl rfl ?_
  refine s_off rfl rfl ?_
  refine s_off rfl rfl ?_
  refine s_q rfl rfl (q_pickF rfl rfl (is_sc rfl)) ?_
  refine s_nil (n_n (w_ifF rfl (w_skip (n_n (w_seq (w_seq (w_reg (s_q rfl rfl (q_mv (.inl rfl) (is_sc rfl)) ?_))))))))
  refine s_nil (n_n (w_ifT rfl (w_reg (s_q rfl rfl (q_mv (.inr rfl) (is_sc rfl)) ?_))))
  refine s_nil (n_n (w_seq (w_reg (s_q rfl rfl (q_mv (.inl rfl) (is_sc rfl)) ?_))))
  refine s_q rfl rfl (q_as (i64_eq ((wrap_id (by omega) (by omega)).trans (by omega) : _ = ((q - 1 : Nat) : Int))) (q_sub rfl rfl rfl)) ?_
  refine s_q rfl rfl (q_mv (.inr rfl) (is_sc rfl)) ?_
  refine s_nil (n_n (w_seq (w_reg (s_q rfl rfl (q_mv (.inl rfl) (is_sc rfl)) ?_))))
  refine s_q rfl rfl (q_as (bl_no (show ¬ ((q - 1 : Nat) : Int) < -4 by omega)) (q_lss rfl rfl rfl)) ?_
  refine s_q rfl rfl (q_mv (.inl rfl) (is_sc rfl)) ?_
  refine s_q rfl rfl (q_mv (.inl rfl) (is_sc rfl)) ?_
  refine s_q rfl rfl (q_mv (.inl rfl) (is_sc rfl)) ?_
  refine s_q rfl rfl (q_as (bl_no (show ¬ (6 : Int) ≤ ((q - 1 : Nat) : Int) by omega)) (q_geq rfl rfl rfl)) ?_
  refine s_q rfl rfl (q_pickF rfl rfl (is_sc rfl)) ?_
  refine s_nil (n_n (w_ifF rfl (w_seq (w_seq (w_reg (s_q rfl rfl (q_mv (.inl rfl) (is_sc rfl)) ?_))))))
  refine s_q rfl rfl (q_mv (.inl rfl) (is_sc rfl)) ?_
  refine s_q rfl rfl (q_as (bl_no (show ¬ (q : Int) < (ds.length : Int) by omega)) (q_gtr rfl rfl rfl)) ?_
  refine s_nil (n_n (w_ifF rfl (w_skip (n_n (w_seq (w_reg (s_q rfl rfl (q_mv (.inl rfl) (is_sc rfl)) ?_)))))))
  refine s_q rfl rfl (q_mv (.inl rfl) (is_sc rfl)) ?_
  refine s_q rfl rfl (q_as (i64_eq ((wrap_id (by omega) (by omega)).trans (by omega) : _ = ((ds.length : Nat) : Int) - ((q : Nat) : Int))) (q_sub rfl rfl rfl)) ?_
  refine s_q rfl rfl (q_as (i64_eq (by split <;> omega : _ = ((ds.length - q : Nat) : Int))) (q_max rfl rfl rfl)) ?_
  refine s_q rfl rfl (q_mv (.inr rfl) (is_sc rfl)) ?_
  refine s_nil (n_n (w_reg (s_q rfl rfl (q_mv (.inr rfl) (is_sc rfl)) ?_)))
  refine s_nil (n_n (w_seq (w_seq (w_reg (s_q rfl rfl (q_mv (.inl rfl) (is_sc rfl)) ?_)))))
  refine s_nil (n_n (w_block (w_seq (w_seq (w_reg (s_q rfl rfl (q_eql rfl rfl rfl) ?_))))))
  refine s_q rfl rfl (q_mv (.inr rfl) (is_sc rfl)) ?_
  refine s_nil (n_n (w_ifF rfl (w_reg (s_q rfl rfl (q_eql rfl rfl rfl) ?_))))
  refine s_q rfl rfl (q_mv (.inr rfl) (is_sc rfl)) ?_
  refine s_nil (n_n (w_ifF rfl (w_seq (w_reg (s_q rfl rfl (q_eql rfl rfl rfl) ?_)))))
  refine s_q rfl rfl (q_mv (.inr rfl) (is_sc rfl)) ?_
  refine s_nil (n_n (w_ifT rfl (w_seq (w_seq (w_reg (s_q rfl rfl (q_mv (.inl rfl) (is_sc rfl)) ?_))))))
  refine s_nil (n_n (w_if (is_scb rfl) (fun h178 => ?_) (fun h178 => ?_)))
  · refine w_reg (s_q rfl rfl (q_mv (.inl rfl) (by first | exact is_im rfl | exact is_gs rfl | exact is_lit rfl | exact is_ms rfl | exact is_sc rfl | exact rfl)) ?_)
    refine s_q rfl rfl (q_bs rfl (pt_cons (is_sc rfl) pt_nil) (by decide) (by decide) (by exact (rfl : _ = some [_])) (by exact (rfl : _ = [_])) (by exact rfl) (by exact rfl)) ?_
    refine s_o rfl rfl (ao_appRowC (ys := [45]) rfl rfl hR (by exact rfl) (.inl rfl) (by simp) (by simp only [List.length_append, List.length_cons, List.length_nil, List.length_take, List.length_replicate, List.length_drop]; omega) fun k181 n181 c181 H181 hR => ?_)
    refine s_q rfl rfl (q_mv (.inr rfl) (by first | exact is_im rfl | exact is_gs rfl | exact is_lit rfl | exact is_ms rfl | exact is_sc rfl | exact rfl)) ?_
    refine s_nil (n_n (w_seq (w_seq (w_reg (s_q rfl rfl (q_mv (.inl rfl) (is_sc rfl)) ?_)))))
    refine s_q rfl rfl (q_as (bl_yes (show (0 : Int) < (q : Int) by omega)) (q_gtr rfl rfl rfl)) ?_
    refine s_nil (n_n (w_ifT rfl (w_seq (w_reg (s_q rfl rfl (q_mv (.inl rfl) (is_sc rfl)) ?_)))))
    refine s_q rfl rfl (q_mv (.inl rfl) (is_sc rfl)) ?_
    refine s_q rfl rfl (q_as (i64_eq (by split <;> omega : _ = ((ds.length : Nat) : Int))) (q_min rfl rfl rfl)) ?_
    refine s_q rfl rfl (q_mv (.inr rfl) (is_sc rfl)) ?_
    refine s_nil (n_n (w_seq (w_seq (w_reg (s_q rfl rfl (q_mv (.inl rfl) (by first | exact is_im rfl | exact is_gs rfl | exact is_lit rfl | exact is_ms rfl | exact is_sc rfl | exact rfl)) ?_)))))
    refine s_q rfl rfl (q_mv (.inl rfl) (is_sc rfl)) ?_
    refine s_q rfl rfl (q_cutHs (a := 0) (b := ds.length) (m := ds.length) (c := 32) (o' := 0) rfl rfl rfl ⟨_, _, rfl, by omega, by omega⟩ (by omega) (by omega) (.inr rfl) rfl (by omega) rfl) ?_
    refine s_q rfl rfl (q_lenHs rfl rfl) ?_
    refine s_q rfl rfl (q_mv (.inl rfl) (is_sc rfl)) ?_
    refine s_nil (n_n (w_block ?_))
    replace hR := hR.cast (show _ = S by rw [hS]; simp [h178])
    refine w_loop (fun env A => ∃ (i n k c : Nat) (H : Heap), i ≤ ds.length ∧ RowB H b (some (bc ds ++ rest)) (.hs k 0 n c) (S ++ ds.take i) ∧ Binds env [(0, .hs k 0 n c), (191, i64 i), (2, .hs b 0 32 32), (3, i64 ((q : Nat) : Int)), (4, i64 ((ds.length : Nat) : Int)), (5, i64 ((ds.length - q : Nat) : Int)), (23, i64 ((ds.length : Nat) : Int)), (189, .hs b 0 ds.length 32), (190, i64 ((ds.length : Nat) : Int))] ∧ A = AH.start H) (fun env _ => ds.length - ctr (env 191)) ?_ ?_
    · exact ⟨0, _, _, _, _, Nat.zero_le _, hR.cast (by simp), ⟨rfl, rfl, rfl, rfl, rfl, rfl, rfl, rfl, rfl, trivial⟩, rfl⟩
    · clear hR
      rintro env A ⟨i, n, k, c, H, hi, hR, hB, rfl⟩
      rw [hB.eq]; clear hB
      refine w_seq (w_reg (s_q rfl rfl (q_lss rfl rfl rfl) ?_))
      refine s_nil (n_n (w_seq (w_if (is_scb rfl) (fun h192 => ?_) (fun h192 => ?_))))
      · have hlt : i < ds.length := by have h' : (i : Int) < ((ds.length : Nat) : Int) := of_decide_eq_true h192; omega
        refine w_skip (n_n (w_seq (w_block (w_seq (w_reg (s_q rfl rfl (q_indexHs rfl rfl rfl (by omega) (by omega)) ?_))))))
        refine s_q rfl rfl (q_loadH rfl rfl (d := u8d (ds[i])) (by show Heap.get H b _ = _; rw [show 0 + ((i : Nat) : Int).toNat * 1 = i by omega]; exact get_bc hR.base (by omega))) ?_
        refine s_q rfl rfl (q_mv (.inr rfl) (is_sc rfl)) ?_
        refine s_nil (n_n (w_reg (s_q rfl rfl (q_mv (.inl rfl) (by first | exact is_im rfl | exact is_gs rfl | exact is_lit rfl | exact is_ms rfl | exact is_sc rfl | exact rfl)) ?_)))
        refine s_q rfl rfl (q_mv (.inl rfl) (is_sc rfl)) ?_
        refine s_q rfl rfl (q_bs rfl (pt_cons (is_sc rfl) pt_nil) (by decide) (by decide) (by exact (rfl : _ = some [_])) (by exact (rfl : _ = [_])) (by exact rfl) (by exact rfl)) ?_
        refine s_o rfl rfl (ao_appRowC (ys := [ds[i]]) rfl rfl hR (by exact rfl) (.inl rfl) (by simp) (by simp only [List.length_append, List.length_cons, List.length_nil, List.length_take, List.length_replicate, List.length_drop]; omega) fun k198 n198 c198 H198 hR => ?_)
        refine s_q rfl rfl (q_mv (.inr rfl) (by first | exact is_im rfl | exact is_gs rfl | exact is_lit rfl | exact is_ms rfl | exact is_sc rfl | exact rfl)) ?_
        refine s_nil (b_n (n_n (w_reg (s_q rfl rfl (q_add rfl rfl rfl) ?_))))
        refine s_q rfl rfl (q_mv (.inl rfl) (is_sc rfl)) ?_
        refine s_nil (n_n ?_)
        have hw : IntKind.i64.wrap ((i : Int) + 1) = ((i + 1 : Nat) : Int) := wrap_nat (by omega)
        refine ⟨⟨i + 1, _, _, _, _, hlt, hR.cast (take_snoc (by omega) _), ⟨rfl, i64_eq hw, rfl, rfl, rfl, rfl, rfl, rfl, rfl, trivial⟩, rfl⟩, ?_⟩
        show ds.length - (IntKind.i64.wrap ((i : Int) + 1)).toNat < ds.length - (i : Int).toNat
        rw [hw]; omega
      · have hge : i = ds.length := by have h' : ¬ (i : Int) < ((ds.length : Nat) : Int) := of_decide_eq_false h192; omega
        rw [hge] at hR
        replace hR := hR.cast (show _ = S ++ ds by rw [List.take_length])
        refine w_exit (n_e (n_e (b_hit (n_n (w_seq (w_reg (s_q rfl rfl (q_mv (.inl rfl) (is_sc rfl)) ?_)))))))
        refine s_q rfl rfl (q_mv (.inl rfl) (is_sc rfl)) ?_
        refine s_q rfl rfl (q_as (i64_eq ((wrap_id (by omega) (by omega)).trans (by omega) : _ = ((q - ds.length : Nat) : Int))) (q_sub rfl rfl rfl)) ?_
        refine s_q rfl rfl (q_mv (.inl rfl) (is_sc rfl)) ?_
        refine s_nil (n_n (w_block ?_))
        refine w_loop (fun env A => ∃ (i n k c : Nat) (H : Heap), i ≤ (q - ds.length) ∧ RowB H b (some (bc ds ++ rest)) (.hs k 0 n c) ((S ++ ds) ++ List.replicate i 48) ∧ Binds env [(0, .hs k 0 n c), (203, i64 i), (5, i64 ((ds.length - q : Nat) : Int)), (202, i64 ((q - ds.length : Nat) : Int))] ∧ A = AH.start H) (fun env _ => (q - ds.length) - ctr (env 203)) ?_ ?_
        · exact ⟨0, _, _, _, _, Nat.zero_le _, hR.cast (by simp), ⟨rfl, rfl, rfl, rfl, trivial⟩, rfl⟩
        · clear hR
          rintro env A ⟨i, n, k, c, H, hi, hR, hB, rfl⟩
          rw [hB.eq]; clear hB
          refine w_seq (w_reg (s_q rfl rfl (q_lss rfl rfl rfl) ?_))
          refine s_nil (n_n (w_seq (w_if (is_scb rfl) (fun h204 => ?_) (fun h204 => ?_))))
          · have hlt : i < (q - ds.length) := by have h' : (i : Int) < (((q - ds.length) : Nat) : Int) := of_decide_eq_true h204; omega
            refine w_skip (n_n (w_seq (w_block (w_reg (s_q rfl rfl (q_mv (.inl rfl) (by first | exact is_im rfl | exact is_gs rfl | exact is_lit rfl | exact is_ms rfl | exact is_sc rfl | exact rfl)) ?_)))))
            refine s_q rfl rfl (q_bs rfl (pt_cons (is_sc rfl) pt_nil) (by decide) (by decide) (by exact (rfl : _ = some [_])) (by exact (rfl : _ = [_])) (by exact rfl) (by exact rfl)) ?_
            refine s_o rfl rfl (ao_appRowC (ys := [48]) rfl rfl hR (by exact rfl) (.inl rfl) (by simp) (by simp only [List.length_append, List.length_cons, List.length_nil, List.length_take, List.length_replicate, List.length_drop]; omega) fun k207 n207 c207 H207 hR => ?_)
            refine s_q rfl rfl (q_mv (.inr rfl) (by first | exact is_im rfl | exact is_gs rfl | exact is_lit rfl | exact is_ms rfl | exact is_sc rfl | exact rfl)) ?_
            refine s_nil (b_n (n_n (w_reg (s_q rfl rfl (q_add rfl rfl rfl) ?_))))
            refine s_q rfl rfl (q_mv (.inl rfl) (is_sc rfl)) ?_
            refine s_nil (n_n ?_)
            have hw : IntKind.i64.wrap ((i : Int) + 1) = ((i + 1 : Nat) : Int) := wrap_nat (by omega)
            refine ⟨⟨i + 1, _, _, _, _, hlt, hR.cast (rep_snoc _ _), ⟨rfl, i64_eq hw, rfl, rfl, trivial⟩, rfl⟩, ?_⟩
            show (q - ds.length) - (IntKind.i64.wrap ((i : Int) + 1)).toNat < (q - ds.length) - (i : Int).toNat
            rw [hw]; omega
          · have hge : i = (q - ds.length) := by have h' : ¬ (i : Int) < (((q - ds.length) : Nat) : Int) := of_decide_eq_false h204; omega
            rw [hge] at hR
            refine w_exit (n_e (n_e (b_hit (n_n (w_seq (w_seq (w_reg (s_q rfl rfl (q_mv (.inl rfl) (is_sc rfl)) ?_))))))))
            refine s_q rfl rfl (q_as (bl_no (show ¬ (0 : Int) < ((ds.length - q : Nat) : Int) by omega)) (q_gtr rfl rfl rfl)) ?_
            refine s_nil (n_n (w_ifF rfl (w_skip (n_n (w_seq (w_reg (s_q rfl rfl (q_mv (.inl rfl) (by first | exact is_im rfl | exact is_gs rfl | exact is_lit rfl | exact is_ms rfl | exact is_sc rfl | exact rfl)) ?_)))))))
            refine s_q rfl rfl (q_mv (.inr rfl) (by first | exact is_im rfl | exact is_gs rfl | exact is_lit rfl | exact is_ms rfl | exact is_sc rfl | exact rfl)) ?_
            refine s_nil (n_n (w_ret (b_r (n_r ?_))))
            -- end 0
            refine r_r (ra_tmp (by first | exact is_im rfl | exact is_gs rfl | exact is_lit rfl | exact is_ms rfl | exact is_sc rfl | exact rfl) ra_nil) (by first | exact is_im rfl | exact is_gs rfl | exact is_lit rfl | exact is_ms rfl | exact is_sc rfl | exact rfl) (by exact rfl) (Sub.refl _) ?_
            refine hR.cast ?_
            rw [← hS, fmtT_w h1 h6 hq]
            simp
  · refine w_skip (n_n (w_seq (w_seq (w_reg (s_q rfl rfl (q_mv (.inl rfl) (is_sc rfl)) ?_)))))
    refine s_q rfl rfl (q_as (bl_yes (show (0 : Int) < (q : Int) by omega)) (q_gtr rfl rfl rfl)) ?_
    refine s_nil (n_n (w_ifT rfl (w_seq (w_reg (s_q rfl rfl (q_mv (.inl rfl) (is_sc rfl)) ?_)))))
    refine s_q rfl rfl (q_mv (.inl rfl) (is_sc rfl)) ?_
    refine s_q rfl rfl (q_as (i64_eq (by split <;> omega : _ = ((ds.length : Nat) : Int))) (q_min rfl rfl rfl)) ?_
    refine s_q rfl rfl (q_mv (.inr rfl) (is_sc rfl)) ?_
    refine s_nil (n_n (w_seq (w_seq (w_reg (s_q rfl rfl (q_mv (.inl rfl) (by first | exact is_im rfl | exact is_gs rfl | exact is_lit rfl | exact is_ms rfl | exact is_sc rfl | exact rfl)) ?_)))))
    refine s_q rfl rfl (q_mv (.inl rfl) (is_sc rfl)) ?_
    refine s_q rfl rfl (q_cutHs (a := 0) (b := ds.length) (m := ds.length) (c := 32) (o' := 0) rfl rfl rfl ⟨_, _, rfl, by omega, by omega⟩ (by omega) (by omega) (.inr rfl) rfl (by omega) rfl) ?_
    refine s_q rfl rfl (q_lenHs rfl rfl) ?_
    refine s_q rfl rfl (q_mv (.inl rfl) (is_sc rfl)) ?_
    refine s_nil (n_n (w_block ?_))
    replace hR := hR.cast (show _ = S by rw [hS]; simp [h178])
    refine w_loop (fun env A => ∃ (i n k c : Nat) (H : Heap), i ≤ ds.length ∧ RowB H b (some (bc ds ++ rest)) (.hs k 0 n c) (S ++ ds.take i) ∧ Binds env [(0, .hs k 0 n c), (191, i64 i), (2, .hs b 0 32 32), (3, i64 ((q : Nat) : Int)), (4, i64 ((ds.length : Nat) : Int)), (5, i64 ((ds.length - q : Nat) : Int)), (23, i64 ((ds.length : Nat) : Int)), (189, .hs b 0 ds.length 32), (190, i64 ((ds.length : Nat) : Int))] ∧ A = AH.start H) (fun env _ => ds.length - ctr (env 191)) ?_ ?_
    · exact ⟨0, _, _, _, _, Nat.zero_le _, hR.cast (by simp), ⟨rfl, rfl, rfl, rfl, rfl, rfl, rfl, rfl, rfl, trivial⟩, rfl⟩
    · clear hR
      rintro env A ⟨i, n, k, c, H, hi, hR, hB, rfl⟩
      rw [hB.eq]; clear hB
      refine w_seq (w_reg (s_q rfl rfl (q_lss rfl rfl rfl) ?_))
      refine s_nil (n_n (w_seq (w_if (is_scb rfl) (fun h192 => ?_) (fun h192 => ?_))))
      · have hlt : i < ds.length := by have h' : (i : Int) < ((ds.length : Nat) : Int) := of_decide_eq_true h192; omega
        refine w_skip (n_n (w_seq (w_block (w_seq (w_reg (s_q rfl rfl (q_indexHs rfl rfl rfl (by omega) (by omega)) ?_))))))
        refine s_q rfl rfl (q_loadH rfl rfl (d := u8d (ds[i])) (by show Heap.get H b _ = _; rw [show 0 + ((i : Nat) : Int).toNat * 1 = i by omega]; exact get_bc hR.base (by omega))) ?_
        refine s_q rfl rfl (q_mv (.inr rfl) (is_sc rfl)) ?_
        refine s_nil (n_n (w_reg (s_q rfl rfl (q_mv (.inl rfl) (by first | exact is_im rfl | exact is_gs rfl | exact is_lit rfl | exact is_ms rfl | exact is_sc rfl | exact rfl)) ?_)))
        refine s_q rfl rfl (q_mv (.inl rfl) (is_sc rfl)) ?_
        refine s_q rfl rfl (q_bs rfl (pt_cons (is_sc rfl) pt_nil) (by decide) (by decide) (by exact (rfl : _ = some [_])) (by exact (rfl : _ = [_])) (by exact rfl) (by exact rfl)) ?_
        refine s_o rfl rfl (ao_appRowC (ys := [ds[i]]) rfl rfl hR (by exact rfl) (.inl rfl) (by simp) (by simp only [List.length_append, List.length_cons, List.length_nil, List.length_take, List.length_replicate, List.length_drop]; omega) fun k198 n198 c198 H198 hR => ?_)
        refine s_q rfl rfl (q_mv (.inr rfl) (by first | exact is_im rfl | exact is_gs rfl | exact is_lit rfl | exact is_ms rfl | exact is_sc rfl | exact rfl)) ?_
        refine s_nil (b_n (n_n (w_reg (s_q rfl rfl (q_add rfl rfl rfl) ?_))))
        refine s_q rfl rfl (q_mv (.inl rfl) (is_sc rfl)) ?_
        refine s_nil (n_n ?_)
        have hw : IntKind.i64.wrap ((i : Int) + 1) = ((i + 1 : Nat) : Int) := wrap_nat (by omega)
        refine ⟨⟨i + 1, _, _, _, _, hlt, hR.cast (take_snoc (by omega) _), ⟨rfl, i64_eq hw, rfl, rfl, rfl, rfl, rfl, rfl, rfl, trivial⟩, rfl⟩, ?_⟩
        show ds.length - (IntKind.i64.wrap ((i : Int) + 1)).toNat < ds.length - (i : Int).toNat
        rw [hw]; omega
      · have hge : i = ds.length := by have h' : ¬ (i : Int) < ((ds.length : Nat) : Int) := of_decide_eq_false h192; omega
        rw [hge] at hR
        replace hR := hR.cast (show _ = S ++ ds by rw [List.take_length])
        refine w_exit (n_e (n_e (b_hit (n_n (w_seq (w_reg (s_q rfl rfl (q_mv (.inl rfl) (is_sc rfl)) ?_)))))))
        refine s_q rfl rfl (q_mv (.inl rfl) (is_sc rfl)) ?_
        refine s_q rfl rfl (q_as (i64_eq ((wrap_id (by omega) (by omega)).trans (by omega) : _ = ((q - ds.length : Nat) : Int))) (q_sub rfl rfl rfl)) ?_
        refine s_q rfl rfl (q_mv (.inl rfl) (is_sc rfl)) ?_
        refine s_nil (n_n (w_block ?_))
        refine w_loop (fun env A => ∃ (i n k c : Nat) (H : Heap), i ≤ (q - ds.length) ∧ RowB H b (some (bc ds ++ rest)) (.hs k 0 n c) ((S ++ ds) ++ List.replicate i 48) ∧ Binds env [(0, .hs k 0 n c), (203, i64 i), (5, i64 ((ds.length - q : Nat) : Int)), (202, i64 ((q - ds.length : Nat) : Int))] ∧ A = AH.start H) (fun env _ => (q - ds.length) - ctr (env 203)) ?_ ?_
        · exact ⟨0, _, _, _, _, Nat.zero_le _, hR.cast (by simp), ⟨rfl, rfl, rfl, rfl, trivial⟩, rfl⟩
        · clear hR
          rintro env A ⟨i, n, k, c, H, hi, hR, hB, rfl⟩
          rw [hB.eq]; clear hB
          refine w_seq (w_reg (s_q rfl rfl (q_lss rfl rfl rfl) ?_))
          refine s_nil (n_n (w_seq (w_if (is_scb rfl) (fun h204 => ?_) (fun h204 => ?_))))
          · have hlt : i < (q - ds.length) := by have h' : (i : Int) < (((q - ds.length) : Nat) : Int) := of_decide_eq_true h204; omega
            refine w_skip (n_n (w_seq (w_block (w_reg (s_q rfl rfl (q_mv (.inl rfl) (by first | exact is_im rfl | exact is_gs rfl | exact is_lit rfl | exact is_ms rfl | exact is_sc rfl | exact rfl)) ?_)))))
            refine s_q rfl rfl (q_bs rfl (pt_cons (is_sc rfl) pt_nil) (by decide) (by decide) (by exact (rfl : _ = some [_])) (by exact (rfl : _ = [_])) (by exact rfl) (by exact rfl)) ?_
            refine s_o rfl rfl (ao_appRowC (ys := [48]) rfl rfl hR (by exact rfl) (.inl rfl) (by simp) (by simp only [List.length_append, List.length_cons, List.length_nil, List.length_take, List.length_replicate, List.length_drop]; omega) fun k207 n207 c207 H207 hR => ?_)
            refine s_q rfl rfl (q_mv (.inr rfl) (by first | exact is_im rfl | exact is_gs rfl | exact is_lit rfl | exact is_ms rfl | exact is_sc rfl | exact rfl)) ?_
            refine s_nil (b_n (n_n (w_reg (s_q rfl rfl (q_add rfl rfl rfl) ?_))))
            refine s_q rfl rfl (q_mv (.inl rfl) (is_sc rfl)) ?_
            refine s_nil (n_n ?_)
            have hw : IntKind.i64.wrap ((i : Int) + 1) = ((i + 1 : Nat) : Int) := wrap_nat (by omega)
            refine ⟨⟨i + 1, _, _, _, _, hlt, hR.cast (rep_snoc _ _), ⟨rfl, i64_eq hw, rfl, rfl, trivial⟩, rfl⟩, ?_⟩
            show (q - ds.length) - (IntKind.i64.wrap ((i : Int) + 1)).toNat < (q - ds.length) - (i : Int).toNat
            rw [hw]; omega
          · have hge : i = (q - ds.length) := by have h' : ¬ (i : Int) < (((q - ds.length) : Nat) : Int) := of_decide_eq_false h204; omega
            rw [hge] at hR
            refine w_exit (n_e (n_e (b_hit (n_n (w_seq (w_seq (w_reg (s_q rfl rfl (q_mv (.inl rfl) (is_sc rfl)) ?_))))))))
            refine s_q rfl rfl (q_as (bl_no (show ¬ (0 : Int) < ((ds.length - q : Nat) : Int) by omega)) (q_gtr rfl rfl rfl)) ?_
            refine s_nil (n_n (w_ifF rfl (w_skip (n_n (w_seq (w_reg (s_q rfl rfl (q_mv (.inl rfl) (by first | exact is_im rfl | exact is_gs rfl | exact is_lit rfl | exact is_ms rfl | exact is_sc rfl | exact rfl)) ?_)))))))
            refine s_q rfl rfl (q_mv (.inr rfl) (by first | exact is_im rfl | exact is_gs rfl | exact is_lit rfl | exact is_ms rfl | exact is_sc rfl | exact rfl)) ?_
            refine s_nil (n_n (w_ret (b_r (n_r ?_))))
            -- end 1
            refine r_r (ra_tmp (by first | exact is_im rfl | exact is_gs rfl | exact is_lit rfl | exact is_ms rfl | exact is_sc rfl | exact rfl) ra_nil) (by first | exact is_im rfl | exact is_gs rfl | exact is_lit rfl | exact is_ms rfl | exact is_sc rfl | exact rfl) (by exact rfl) (Sub.refl _) ?_
            refine hR.cast ?_
            rw [← hS, fmtT_w h1 h6 hq]
            simp


-- internal/strconv.fmtEFG
theorem pf_fmtQ (h : Heap) (b k0 c0 : Nat) (sp0 rest : List D) (ds : List UInt8) (neg : Bool) (h0 : h k0 = some sp0) (hs0 : sp0.length = c0) (hc0 : 0 < c0) (hcm : c0 ≤ maxLen) (hb : h b = some (bc ds ++ rest)) (hbk : k0 ≠ b) (hn : 0 < ds.length) (hn20 : ds.length ≤ 20) (hr : (bc ds ++ rest).length = 32) (q : Nat) (hq : q ≤ 3) : ACall Tryz.prog G 287 true [.hs k0 0 0 c0, bl neg, .hs b 0 32 32, i64 (-((q : Nat) : Int)), i64 ds.length, i64 ds.length, .sc (.int .u8 103), bl true] h (fun v h' => RowB h' b (some (bc ds ++ rest)) v ((if neg = true then [45] else []) ++ fmtT ds (-((q : Nat) : Int)))) := by
  have hR : RowB h b (some (bc ds ++ rest)) (.hs k0 0 0 c0) [] := ⟨k0, c0, sp0, rfl, h0, hs0, Nat.zero_le _, hcm, hc0, fun cs e => by cases e; exact ⟨hb, hbk⟩⟩
  clear h0 hs0 hc0 hcm hbk
  obtain ⟨S, hS⟩ : ∃ S : List UInt8, S = (if neg = true then [45] else []) := ⟨_, rfl⟩
  have hSl : S.length ≤ 1 := by rw [hS]; split <;> simp
  refine ACall.intro rfl Tryz.func287 rfl (Nat.le_of_ble_eq_true rfl) rfl ?_
  refine w_seq (w_reg (s_q rfl rfl (q_mv (.inr rfl) (by first | exact is_im rfl | exact is_gs rfl | exact is_lit rfl | exact is_ms rfl | exact is_sc rfl | exact rfl)) ?_))
  refine s_nil (n_n (w_seq (w_seq (w_reg (s_q rfl rfl (q_mv (.inl rfl) (is_sc rfl)) ?_)))))
  refine s_q rfl rfl (q_eql rfl rfl rfl) ?_
  refine s_q rfl rfl (q_mv (.inl rfl) (is_sc rfl)) ?_
  refine s_off rfl rfl ?_
  refine s_off rfl rfl ?_
  refine s_q rfl rfl (q_pickT rfl rfl (is_sc rfl)) ?_
  refine s_nil (n_n (w_ifT rfl (w_seq (w_reg (s_q rfl rfl (q_mv (.inl rfl) (is_sc rfl)) ?_)))))
  refine s_q rfl rfl (q_mv (.inr rfl) (is_sc rfl)) ?_
  refine s_nil (n_n (w_seq (w_seq (w_reg (s_q rfl rfl (q_mv (.inl rfl) (is_sc rfl)) ?_)))))
  refine s_q rfl rfl (q_mv (.inl rfl) (is_sc rfl)) ?_
  refine s_q rfl rfl (q_as (bl_no (show ¬ (ds.length : Int) < (ds.length : Int) by omega)) (q_gtr rfl rfl rfl)) ?_
  refine s_q rfl rfl (q_mv (.inl rfl) (is_sc rfl)) ?_
  refine s_off rfl rfl ?_
  refine s_off rfl rfl ?_
  refine s_off rfl rfl ?_
  refine s_q rfl rfl (q_pickF rfl rfl (is_sc rfl)) ?_
  refine s_nil (n_n (w_ifF rfl (w_skip (n_n (w_seq (w_seq (w_reg (s_q rfl rfl (q_mv (.inl rfl) (is_sc rfl)) ?_))))))))
  refine s_nil (n_n (w_ifT rfl (w_reg (s_q rfl rfl (q_mv (.inr rfl) (is_sc rfl)) ?_))))
  refine s_nil (n_n (w_seq (w_reg (s_q rfl rfl (q_mv (.inl rfl) (is_sc rfl)) ?_))))
  refine s_q rfl rfl (q_as (i64_eq ((wrap_id (by omega) (by omega)).trans (by omega) : _ = (-(q : Int) - 1))) (q_sub rfl rfl rfl)) ?_
  refine s_q rfl rfl (q_mv (.inr rfl) (is_sc rfl)) ?_
  refine s_nil (n_n (w_seq (w_reg (s_q rfl rfl (q_mv (.inl rfl) (is_sc rfl)) ?_))))
  refine s_q rfl rfl (q_as (bl_no (show ¬ (-(q : Int) - 1) < -4 by omega)) (q_lss rfl rfl rfl)) ?_
  refine s_q rfl rfl (q_mv (.inl rfl) (is_sc rfl)) ?_
  refine s_q rfl rfl (q_mv (.inl rfl) (is_sc rfl)) ?_
  refine s_q rfl rfl (q_mv (.inl rfl) (is_sc rfl)) ?_
  refine s_q rfl rfl (q_as (bl_no (show ¬ (6 : Int) ≤ (-(q : Int) - 1) by omega)) (q_geq rfl rfl rfl)) ?_
  refine s_q rfl rfl (q_pickF rfl rfl (is_sc rfl)) ?_
  refine s_nil (n_n (w_ifF rfl (w_seq (w_seq (w_reg (s_q rfl rfl (q_mv (.inl rfl) (is_sc rfl)) ?_))))))
  refine s_q rfl rfl (q_mv (.inl rfl) (is_sc rfl)) ?_
  refine s_q rfl rfl (q_as (bl_yes (show (-(q : Int)) < (ds.length : Int) by omega)) (q_gtr rfl rfl rfl)) ?_
  refine s_nil (n_n (w_ifT rfl (w_reg (s_q rfl rfl (q_mv (.inl rfl) (is_sc rfl)) ?_))))
  refine s_q rfl rfl (q_mv (.inr rfl) (is_sc rfl)) ?_
  refine s_nil (n_n (w_seq (w_reg (s_q rfl rfl (q_mv (.inl rfl) (is_sc rfl)) ?_))))
  refine s_q rfl rfl (q_mv (.inl rfl) (is_sc rfl)) ?_
  refine s_q rfl rfl (q_as (i64_eq ((wrap_id (by omega) (by omega)).trans (by omega) : _ = ((ds.length + q : Nat) : Int))) (q_sub rfl rfl rfl)) ?_
  refine s_q rfl rfl (q_as (i64_eq (by split <;> omega : _ = ((ds.length + q : Nat) : Int))) (q_max rfl rfl rfl)) ?_
  refine s_q rfl rfl (q_mv (.inr rfl) (is_sc rfl)) ?_
  refine s_nil (n_n (w_reg (s_q rfl rfl (q_mv (.inr rfl) (is_sc rfl)) ?_)))
  refine s_nil (n_n (w_seq (w_seq (w_reg (s_q rfl rfl (q_mv (.inl rfl) (is_sc rfl)) ?_)))))
  refine s_nil (n_n (w_block (w_seq (w_seq (w_reg (s_q rfl rfl (q_eql rfl rfl rfl) ?_))))))
  refine s_q rfl rfl (q_mv (.inr rfl) (is_sc rfl)) ?_
  refine s_nil (n_n (w_ifF rfl (w_reg (s_q rfl rfl (q_eql rfl rfl rfl) ?_))))
  refine s_q rfl rfl (q_mv (.inr rfl) (is_sc rfl)) ?_
  refine s_nil (n_n (w_ifF rfl (w_seq (w_reg (s_q rfl rfl (q_eql rfl rfl rfl) ?_)))))
  refine s_q rfl rfl (q_mv (.inr rfl) (is_sc rfl)) ?_
  refine s_nil (n_n (w_ifT rfl (w_seq (w_seq (w_reg (s_q rfl rfl (q_mv (.inl rfl) (is_sc rfl)) ?_))))))
  refine s_nil (n_n (w_if (is_scb rfl) (fun h178 => ?_) (fun h178 => ?_)))
  · refine w_reg (s_q rfl rfl (q_mv (.inl rfl) (by first | exact is_im rfl | exact is_gs rfl | exact is_lit rfl | exact is_ms rfl | exact is_sc rfl | exact rfl)) ?_)
    refine s_q rfl rfl (q_bs rfl (pt_cons (is_sc rfl) pt_nil) (by decide) (by decide) (by exact (rfl : _ = some [_])) (by exact (rfl : _ = [_])) (by exact rfl) (by exact rfl)) ?_
    refine s_o rfl rfl (ao_appRowC (ys := [45]) rfl rfl hR (by exact rfl) (.inl rfl) (by simp) (by simp only [List.length_append, List.length_cons, List.length_nil, List.length_take, List.length_replicate, List.length_drop]; omega) fun k181 n181 c181 H181 hR => ?_)
    refine s_q rfl rfl (q_mv (.inr rfl) (by first | exact is_im rfl | exact is_gs rfl | exact is_lit rfl | exact is_ms rfl | exact is_sc rfl | exact rfl)) ?_
    refine s_nil (n_n (w_seq (w_seq (w_reg (s_q rfl rfl (q_mv (.inl rfl) (is_sc rfl)) ?_)))))
    refine s_q rfl rfl (q_as (bl_no (show ¬ (0 : Int) < -(q : Int) by omega)) (q_gtr rfl rfl rfl)) ?_
    refine s_nil (n_n (w_ifF rfl (w_reg (s_q rfl rfl (q_mv (.inl rfl) (by first | exact is_im rfl | exact is_gs rfl | exact is_lit rfl | exact is_ms rfl | exact is_sc rfl | exact rfl)) ?_))))
    refine s_q rfl rfl (q_bs rfl (pt_cons (is_sc rfl) pt_nil) (by decide) (by decide) (by exact (rfl : _ = some [_])) (by exact (rfl : _ = [_])) (by exact rfl) (by exact rfl)) ?_
    replace hR := hR.cast (show _ = S by rw [hS]; simp [h178])
    refine s_o rfl rfl (ao_appRowC (ys := [48]) rfl rfl hR (by exact rfl) (.inl rfl) (by simp) (by simp only [List.length_append, List.length_cons, List.length_nil, List.length_take, List.length_replicate, List.length_drop]; omega) fun k211 n211 c211 H211 hR => ?_)
    refine s_q rfl rfl (q_mv (.inr rfl) (by first | exact is_im rfl | exact is_gs rfl | exact is_lit rfl | exact is_ms rfl | exact is_sc rfl | exact rfl)) ?_
    refine s_nil (n_n (w_seq (w_seq (w_reg (s_q rfl rfl (q_mv (.inl rfl) (is_sc rfl)) ?_)))))
    refine s_q rfl rfl (q_as (bl_yes (show (0 : Int) < ((ds.length + q : Nat) : Int) by omega)) (q_gtr rfl rfl rfl)) ?_
    refine s_nil (n_n (w_ifT rfl (w_seq (w_reg (s_q rfl rfl (q_mv (.inl rfl) (by first | exact is_im rfl | exact is_gs rfl | exact is_lit rfl | exact is_ms rfl | exact is_sc rfl | exact rfl)) ?_)))))
    refine s_q rfl rfl (q_bs rfl (pt_cons (is_sc rfl) pt_nil) (by decide) (by decide) (by exact (rfl : _ = some [_])) (by exact (rfl : _ = [_])) (by exact rfl) (by exact rfl)) ?_
    refine s_o rfl rfl (ao_appRowC (ys := [46]) rfl rfl hR (by exact rfl) (.inl rfl) (by simp) (by simp only [List.length_append, List.length_cons, List.length_nil, List.length_take, List.length_replicate, List.length_drop]; omega) fun k216 n216 c216 H216 hR => ?_)
    refine s_q rfl rfl (q_mv (.inr rfl) (by first | exact is_im rfl | exact is_gs rfl | exact is_lit rfl | exact is_ms rfl | exact is_sc rfl | exact rfl)) ?_
    refine s_nil (n_n (w_seq (w_reg (s_q rfl rfl (q_mv (.inl rfl) (is_sc rfl)) ?_))))
    refine s_q rfl rfl (q_mv (.inl rfl) (is_sc rfl)) ?_
    refine s_q rfl rfl (q_as (i64_eq ((wrap_id (by omega) (by omega)).trans (by omega) : _ = ((q : Nat) : Int))) (q_neg rfl rfl)) ?_
    refine s_q rfl rfl (q_as (i64_eq (by split <;> omega : _ = ((q : Nat) : Int))) (q_max rfl rfl rfl)) ?_
    refine s_q rfl rfl (q_as (i64_eq (by split <;> omega : _ = ((q : Nat) : Int))) (q_min rfl rfl rfl)) ?_
    refine s_q rfl rfl (q_mv (.inr rfl) (is_sc rfl)) ?_
    refine s_nil (n_n (w_seq (w_reg (s_q rfl rfl (q_mv (.inl rfl) (is_sc rfl)) ?_))))
    refine s_q rfl rfl (q_mv (.inl rfl) (is_sc rfl)) ?_
    refine s_q rfl rfl (q_as (i64_eq ((wrap_id (by omega) (by omega)).trans (by omega) : _ = (0 : Int))) (q_add rfl rfl rfl)) ?_
    refine s_q rfl rfl (q_mv (.inr rfl) (is_sc rfl)) ?_
    refine s_nil (n_n (w_seq (w_reg (s_q rfl rfl (q_mv (.inl rfl) (is_sc rfl)) ?_))))
    refine s_q rfl rfl (q_mv (.inl rfl) (is_sc rfl)) ?_
    refine s_q rfl rfl (q_as (i64_eq ((wrap_id (by omega) (by omega)).trans (by omega) : _ = ((ds.length : Nat) : Int))) (q_sub rfl rfl rfl)) ?_
    refine s_q rfl rfl (q_mv (.inl rfl) (is_sc rfl)) ?_
    refine s_q rfl rfl (q_mv (.inl rfl) (is_sc rfl)) ?_
    refine s_q rfl rfl (q_as (i64_eq ((wrap_id (by omega) (by omega)).trans (by omega) : _ = ((ds.length : Nat) : Int))) (q_sub rfl rfl rfl)) ?_
    refine s_q rfl rfl (q_as (i64_eq (by split <;> omega : _ = ((ds.length : Nat) : Int))) (q_max rfl rfl rfl)) ?_
    refine s_q rfl rfl (q_as (i64_eq (by split <;> omega : _ = ((ds.length : Nat) : Int))) (q_min rfl rfl rfl)) ?_
    refine s_q rfl rfl (q_mv (.inr rfl) (is_sc rfl)) ?_
    refine s_nil (n_n (w_seq (w_reg (s_q rfl rfl (q_mv (.inl rfl) (is_sc rfl)) ?_))))
    refine s_q rfl rfl (q_mv (.inl rfl) (is_sc rfl)) ?_
    refine s_q rfl rfl (q_as (i64_eq ((wrap_id (by omega) (by omega)).trans (by omega) : _ = ((ds.length : Nat) : Int))) (q_sub rfl rfl rfl)) ?_
    refine s_q rfl rfl (q_mv (.inl rfl) (is_sc rfl)) ?_
    refine s_q rfl rfl (q_as (i64_eq ((wrap_id (by omega) (by omega)).trans (by omega) : _ = (0 : Int))) (q_sub rfl rfl rfl)) ?_
    refine s_q rfl rfl (q_as (i64_eq (by split <;> omega : _ = (0 : Int))) (q_max rfl rfl rfl)) ?_
    refine s_q rfl rfl (q_mv (.inr rfl) (is_sc rfl)) ?_
    refine s_nil (n_n (w_seq (w_seq (w_reg (s_q rfl rfl (q_mv (.inl rfl) (is_sc rfl)) ?_)))))
    refine s_q rfl rfl (q_mv (.inl rfl) (is_sc rfl)) ?_
    refine s_nil (n_n (w_block ?_))
    refine w_loop (fun env A => ∃ (i n k c : Nat) (H : Heap), i ≤ q ∧ RowB H b (some (bc ds ++ rest)) (.hs k 0 n c) ((S ++ [48] ++ [46]) ++ List.replicate i 48) ∧ Binds env [(0, .hs k 0 n c), (240, i64 i), (2, .hs b 0 32 32), (27, i64 0), (28, i64 ((ds.length : Nat) : Int)), (29, i64 0), (239, i64 ((q : Nat) : Int))] ∧ A = AH.start H) (fun env _ => q - ctr (env 240)) ?_ ?_
    · exact ⟨0, _, _, _, _, Nat.zero_le _, hR.cast (by simp), ⟨rfl, rfl, rfl, rfl, rfl, rfl, rfl, trivial⟩, rfl⟩
    · clear hR
      rintro env A ⟨i, n, k, c, H, hi, hR, hB, rfl⟩
      rw [hB.eq]; clear hB
      refine w_seq (w_reg (s_q rfl rfl (q_lss rfl rfl rfl) ?_))
      refine s_nil (n_n (w_seq (w_if (is_scb rfl) (fun h241 => ?_) (fun h241 => ?_))))
      · have hlt : i < q := by have h' : (i : Int) < ((q : Nat) : Int) := of_decide_eq_true h241; omega
        refine w_skip (n_n (w_seq (w_block (w_reg (s_q rfl rfl (q_mv (.inl rfl) (by first | exact is_im rfl | exact is_gs rfl | exact is_lit rfl | exact is_ms rfl | exact is_sc rfl | exact rfl)) ?_)))))
        refine s_q rfl rfl (q_bs rfl (pt_cons (is_sc rfl) pt_nil) (by decide) (by decide) (by exact (rfl : _ = some [_])) (by exact (rfl : _ = [_])) (by exact rfl) (by exact rfl)) ?_
        refine s_o rfl rfl (ao_appRowC (ys := [48]) rfl rfl hR (by exact rfl) (.inl rfl) (by simp) (by simp only [List.length_append, List.length_cons, List.length_nil, List.length_take, List.length_replicate, List.length_drop]; omega) fun k244 n244 c244 H244 hR => ?_)
        refine s_q rfl rfl (q_mv (.inr rfl) (by first | exact is_im rfl | exact is_gs rfl | exact is_lit rfl | exact is_ms rfl | exact is_sc rfl | exact rfl)) ?_
        refine s_nil (b_n (n_n (w_reg (s_q rfl rfl (q_add rfl rfl rfl) ?_))))
        refine s_q rfl rfl (q_mv (.inl rfl) (is_sc rfl)) ?_
        refine s_nil (n_n ?_)
        have hw : IntKind.i64.wrap ((i : Int) + 1) = ((i + 1 : Nat) : Int) := wrap_nat (by omega)
        refine ⟨⟨i + 1, _, _, _, _, hlt, hR.cast (rep_snoc _ _), ⟨rfl, i64_eq hw, rfl, rfl, rfl, rfl, rfl, trivial⟩, rfl⟩, ?_⟩
        show q - (IntKind.i64.wrap ((i : Int) + 1)).toNat < q - (i : Int).toNat
        rw [hw]; omega
      · have hge : i = q := by have h' : ¬ (i : Int) < ((q : Nat) : Int) := of_decide_eq_false h241; omega
        rw [hge] at hR
        refine w_exit (n_e (n_e (b_hit (n_n (w_seq (w_seq (w_reg (s_q rfl rfl (q_mv (.inl rfl) (is_sc rfl)) ?_))))))))
        refine s_q rfl rfl (q_mv (.inl rfl) (is_sc rfl)) ?_
        refine s_nil (n_n (w_block ?_))
        refine w_loop (fun env A => ∃ (i n k c : Nat) (H : Heap), i ≤ ds.length ∧ RowB H b (some (bc ds ++ rest)) (.hs k 0 n c) ((S ++ [48] ++ [46] ++ List.replicate q 48) ++ ds.take i) ∧ Binds env [(0, .hs k 0 n c), (247, i64 i), (2, .hs b 0 32 32), (27, i64 0), (29, i64 0), (246, i64 ((ds.length : Nat) : Int))] ∧ A = AH.start H) (fun env _ => ds.length - ctr (env 247)) ?_ ?_
        · exact ⟨0, _, _, _, _, Nat.zero_le _, hR.cast (by simp), ⟨rfl, rfl, rfl, rfl, rfl, rfl, trivial⟩, rfl⟩
        · clear hR
          rintro env A ⟨i, n, k, c, H, hi, hR, hB, rfl⟩
          rw [hB.eq]; clear hB
          refine w_seq (w_reg (s_q rfl rfl (q_lss rfl rfl rfl) ?_))
          refine s_nil (n_n (w_seq (w_if (is_scb rfl) (fun h248 => ?_) (fun h248 => ?_))))
          · have hlt : i < ds.length := by have h' : (i : Int) < ((ds.length : Nat) : Int) := of_decide_eq_true h248; omega
            refine w_skip (n_n (w_seq (w_block (w_seq (w_reg (s_q rfl rfl (q_mv (.inl rfl) (is_sc rfl)) ?_))))))
            refine s_q rfl rfl (q_mv (.inr rfl) (is_sc rfl)) ?_
            refine s_nil (n_n (w_reg (s_q rfl rfl (q_mv (.inl rfl) (by first | exact is_im rfl | exact is_gs rfl | exact is_lit rfl | exact is_ms rfl | exact is_sc rfl | exact rfl)) ?_)))
            refine s_q rfl rfl (q_mv (.inl rfl) (by first | exact is_im rfl | exact is_gs rfl | exact is_lit rfl | exact is_ms rfl | exact is_sc rfl | exact rfl)) ?_
            refine s_q rfl rfl (q_mv (.inl rfl) (is_sc rfl)) ?_
            refine s_q rfl rfl (q_mv (.inl rfl) (is_sc rfl)) ?_
            refine s_q rfl rfl (q_as (i64_eq ((wrap_id (by omega) (by omega)).trans (by omega) : _ = ((i : Nat) : Int))) (q_add rfl rfl rfl)) ?_
            refine s_q rfl rfl (q_indexHs rfl rfl rfl (by omega) (by omega)) ?_
            refine s_q rfl rfl (q_loadH rfl rfl (d := u8d (ds[i])) (by show Heap.get H b _ = _; rw [show 0 + ((i : Nat) : Int).toNat * 1 = i by omega]; exact get_bc hR.base (by omega))) ?_
            refine s_q rfl rfl (q_bs rfl (pt_cons (is_sc rfl) pt_nil) (by decide) (by decide) (by exact (rfl : _ = some [_])) (by exact (rfl : _ = [_])) (by exact rfl) (by exact rfl)) ?_
            refine s_o rfl rfl (ao_appRowC (ys := [ds[i]]) rfl rfl hR (by exact rfl) (.inl rfl) (by simp) (by simp only [List.length_append, List.length_cons, List.length_nil, List.length_take, List.length_replicate, List.length_drop]; omega) fun k258 n258 c258 H258 hR => ?_)
            refine s_q rfl rfl (q_mv (.inr rfl) (by first | exact is_im rfl | exact is_gs rfl | exact is_lit rfl | exact is_ms rfl | exact is_sc rfl | exact rfl)) ?_
            refine s_nil (b_n (n_n (w_reg (s_q rfl rfl (q_add rfl rfl rfl) ?_))))
            refine s_q rfl rfl (q_mv (.inl rfl) (is_sc rfl)) ?_
            refine s_nil (n_n ?_)
            have hw : IntKind.i64.wrap ((i : Int) + 1) = ((i + 1 : Nat) : Int) := wrap_nat (by omega)
            refine ⟨⟨i + 1, _, _, _, _, hlt, hR.cast (take_snoc (by omega) _), ⟨rfl, i64_eq hw, rfl, rfl, rfl, rfl, trivial⟩, rfl⟩, ?_⟩
            show ds.length - (IntKind.i64.wrap ((i : Int) + 1)).toNat < ds.length - (i : Int).toNat
            rw [hw]; omega
          · have hge : i = ds.length := by have h' : ¬ (i : Int) < ((ds.length : Nat) : Int) := of_decide_eq_false h248; omega
            rw [hge] at hR
            replace hR := hR.cast (show _ = S ++ [48] ++ [46] ++ List.replicate q 48 ++ ds by rw [List.take_length])
            refine w_exit (n_e (n_e (b_hit (n_n (w_seq (w_reg (s_q rfl rfl (q_mv (.inl rfl) (is_sc rfl)) ?_)))))))
            refine s_q rfl rfl (q_mv (.inl rfl) (is_sc rfl)) ?_
            refine s_nil (n_n (w_block (w_unroll 0 (u_0 ?_))))
            refine w_seq (w_reg (s_q rfl rfl (q_as (bl_no (show ¬ (0 : Int) < 0 by omega)) (q_lss rfl rfl rfl)) ?_))
            refine s_nil (n_n (w_seq (w_ifF rfl (w_exit (n_e (n_e (b_hit (n_n (w_seq (w_reg (s_q rfl rfl (q_mv (.inl rfl) (by first | exact is_im rfl | exact is_gs rfl | exact is_lit rfl | exact is_ms rfl | exact is_sc rfl | exact rfl)) ?_)))))))))))
            refine s_q rfl rfl (q_mv (.inr rfl) (by first | exact is_im rfl | exact is_gs rfl | exact is_lit rfl | exact is_ms rfl | exact is_sc rfl | exact rfl)) ?_
            refine s_nil (n_n (w_ret (b_r (n_r ?_))))
            -- end 0
            refine r_r (ra_tmp (by first | exact is_im rfl | exact is_gs rfl | exact is_lit rfl | exact is_ms rfl | exact is_sc rfl | exact rfl) ra_nil) (by first | exact is_im rfl | exact is_gs rfl | exact is_lit rfl | exact is_ms rfl | exact is_sc rfl | exact rfl) (by exact rfl) (Sub.refl _) ?_
            refine hR.cast ?_
            rw [← hS, fmtT_0 hn]
            simp
  · refine w_skip (n_n (w_seq (w_seq (w_reg (s_q rfl rfl (q_mv (.inl rfl) (is_sc rfl)) ?_)))))
    refine s_q rfl rfl (q_as (bl_no (show ¬ (0 : Int) < -(q : Int) by omega)) (q_gtr rfl rfl rfl)) ?_
    refine s_nil (n_n (w_ifF rfl (w_reg (s_q rfl rfl (q_mv (.inl rfl) (by first | exact is_im rfl | exact is_gs rfl | exact is_lit rfl | exact is_ms rfl | exact is_sc rfl | exact rfl)) ?_))))
    refine s_q rfl rfl (q_bs rfl (pt_cons (is_sc rfl) pt_nil) (by decide) (by decide) (by exact (rfl : _ = some [_])) (by exact (rfl : _ = [_])) (by exact rfl) (by exact rfl)) ?_
    replace hR := hR.cast (show _ = S by rw [hS]; simp [h178])
    refine s_o rfl rfl (ao_appRowC (ys := [48]) rfl rfl hR (by exact rfl) (.inl rfl) (by simp) (by simp only [List.length_append, List.length_cons, List.length_nil, List.length_take, List.length_replicate, List.length_drop]; omega) fun k211 n211 c211 H211 hR => ?_)
    refine s_q rfl rfl (q_mv (.inr rfl) (by first | exact is_im rfl | exact is_gs rfl | exact is_lit rfl | exact is_ms rfl | exact is_sc rfl | exact rfl)) ?_
    refine s_nil (n_n (w_seq (w_seq (w_reg (s_q rfl rfl (q_mv (.inl rfl) (is_sc rfl)) ?_)))))
    refine s_q rfl rfl (q_as (bl_yes (show (0 : Int) < ((ds.length + q : Nat) : Int) by omega)) (q_gtr rfl rfl rfl)) ?_
    refine s_nil (n_n (w_ifT rfl (w_seq (w_reg (s_q rfl rfl (q_mv (.inl rfl) (by first | exact is_im rfl | exact is_gs rfl | exact is_lit rfl | exact is_ms rfl | exact is_sc rfl | exact rfl)) ?_)))))
    refine s_q rfl rfl (q_bs rfl (pt_cons (is_sc rfl) pt_nil) (by decide) (by decide) (by exact (rfl : _ = some [_])) (by exact (rfl : _ = [_])) (by exact rfl) (by exact rfl)) ?_
    refine s_o rfl rfl (ao_appRowC (ys := [46]) rfl rfl hR (by exact rfl) (.inl rfl) (by simp) (by simp only [List.length_append, List.length_cons, List.length_nil, List.length_take, List.length_replicate, List.length_drop]; omega) fun k216 n216 c216 H216 hR => ?_)
    refine s_q rfl rfl (q_mv (.inr rfl) (by first | exact is_im rfl | exact is_gs rfl | exact is_lit rfl | exact is_ms rfl | exact is_sc rfl | exact rfl)) ?_
    refine s_nil (n_n (w_seq (w_reg (s_q rfl rfl (q_mv (.inl rfl) (is_sc rfl)) ?_))))
    refine s_q rfl rfl (q_mv (.inl rfl) (is_sc rfl)) ?_
    refine s_q rfl rfl (q_as (i64_eq ((wrap_id (by omega) (by omega)).trans (by omega) : _ = ((q : Nat) : Int))) (q_neg rfl rfl)) ?_
    refine s_q rfl rfl (q_as (i64_eq (by split <;> omega : _ = ((q : Nat) : Int))) (q_max rfl rfl rfl)) ?_
    refine s_q rfl rfl (q_as (i64_eq (by split <;> omega : _ = ((q : Nat) : Int))) (q_min rfl rfl rfl)) ?_
    refine s_q rfl rfl (q_mv (.inr rfl) (is_sc rfl)) ?_
    refine s_nil (n_n (w_seq (w_reg (s_q rfl rfl (q_mv (.inl rfl) (is_sc rfl)) ?_))))
    refine s_q rfl rfl (q_mv (.inl rfl) (is_sc rfl)) ?_
    refine s_q rfl rfl (q_as (i64_eq ((wrap_id (by omega) (by omega)).trans (by omega) : _ = (0 : Int))) (q_add rfl rfl rfl)) ?_
    refine s_q rfl rfl (q_mv (.inr rfl) (is_sc rfl)) ?_
    refine s_nil (n_n (w_seq (w_reg (s_q rfl rfl (q_mv (.inl rfl) (is_sc rfl)) ?_))))
    refine s_q rfl rfl (q_mv (.inl rfl) (is_sc rfl)) ?_
    refine s_q rfl rfl (q_as (i64_eq ((wrap_id (by omega) (by omega)).trans (by omega) : _ = ((ds.length : Nat) : Int))) (q_sub rfl rfl rfl)) ?_
    refine s_q rfl rfl (q_mv (.inl rfl) (is_sc rfl)) ?_
    refine s_q rfl rfl (q_mv (.inl rfl) (is_sc rfl)) ?_
    refine s_q rfl rfl (q_as (i64_eq ((wrap_id (by omega) (by omega)).trans (by omega) : _ = ((ds.length : Nat) : Int))) (q_sub rfl rfl rfl)) ?_
    refine s_q rfl rfl (q_as (i64_eq (by split <;> omega : _ = ((ds.length : Nat) : Int))) (q_max rfl rfl rfl)) ?_
    refine s_q rfl rfl (q_as (i64_eq (by split <;> omega : _ = ((ds.length : Nat) : Int))) (q_min rfl rfl rfl)) ?_
    refine s_q rfl rfl (q_mv (.inr rfl) (is_sc rfl)) ?_
    refine s_nil (n_n (w_seq (w_reg (s_q rfl rfl (q_mv (.inl rfl) (is_sc rfl)) ?_))))
    refine s_q rfl rfl (q_mv (.inl rfl) (is_sc rfl)) ?_
    refine s_q rfl rfl (q_as (i64_eq ((wrap_id (by omega) (by omega)).trans (by omega) : _ = ((ds.length : Nat) : Int))) (q_sub rfl rfl rfl)) ?_
    refine s_q rfl rfl (q_mv (.inl rfl) (is_sc rfl)) ?_
    refine s_q rfl rfl (q_as (i64_eq ((wrap_id (by omega) (by omega)).trans (by omega) : _ = (0 : Int))) (q_sub rfl rfl rfl)) ?_
    refine s_q rfl rfl (q_as (i64_eq (by split <;> omega : _ = (0 : Int))) (q_max rfl rfl rfl)) ?_
    refine s_q rfl rfl (q_mv (.inr rfl) (is_sc rfl)) ?_
    refine s_nil (n_n (w_seq (w_seq (w_reg (s_q rfl rfl (q_mv (.inl rfl) (is_sc rfl)) ?_)))))
    refine s_q rfl rfl (q_mv (.inl rfl) (is_sc rfl)) ?_
    refine s_nil (n_n (w_block ?_))
    refine w_loop (fun env A => ∃ (i n k c : Nat) (H : Heap), i ≤ q ∧ RowB H b (some (bc ds ++ rest)) (.hs k 0 n c) ((S ++ [48] ++ [46]) ++ List.replicate i 48) ∧ Binds env [(0, .hs k 0 n c), (240, i64 i), (2, .hs b 0 32 32), (27, i64 0), (28, i64 ((ds.length : Nat) : Int)), (29, i64 0), (239, i64 ((q : Nat) : Int))] ∧ A = AH.start H) (fun env _ => q - ctr (env 240)) ?_ ?_
    · exact ⟨0, _, _, _, _, Nat.zero_le _, hR.cast (by simp), ⟨rfl, rfl, rfl, rfl, rfl, rfl, rfl, trivial⟩, rfl⟩
    · clear hR
      rintro env A ⟨i, n, k, c, H, hi, hR, hB, rfl⟩
      rw [hB.eq]; clear hB
      refine w_seq (w_reg (s_q rfl rfl (q_lss rfl rfl rfl) ?_))
      refine s_nil (n_n (w_seq (w_if (is_scb rfl) (fun h241 => ?_) (fun h241 => ?_))))
      · have hlt : i < q := by have h' : (i : Int) < ((q : Nat) : Int) := of_decide_eq_true h241; omega
        refine w_skip (n_n (w_seq (w_block (w_reg (s_q rfl rfl (q_mv (.inl rfl) (by first | exact is_im rfl | exact is_gs rfl | exact is_lit rfl | exact is_ms rfl | exact is_sc rfl | exact rfl)) ?_)))))
        refine s_q rfl rfl (q_bs rfl (pt_cons (is_sc rfl) pt_nil) (by decide) (by decide) (by exact (rfl : _ = some [_])) (by exact (rfl : _ = [_])) (by exact rfl) (by exact rfl)) ?_
        refine s_o rfl rfl (ao_appRowC (ys := [48]) rfl rfl hR (by exact rfl) (.inl rfl) (by simp) (by simp only [List.length_append, List.length_cons, List.length_nil, List.length_take, List.length_replicate, List.length_drop]; omega) fun k244 n244 c244 H244 hR => ?_)
        refine s_q rfl rfl (q_mv (.inr rfl) (by first | exact is_im rfl | exact is_gs rfl | exact is_lit rfl | exact is_ms rfl | exact is_sc rfl | exact rfl)) ?_
        refine s_nil (b_n (n_n (w_reg (s_q rfl rfl (q_add rfl rfl rfl) ?_))))
        refine s_q rfl rfl (q_mv (.inl rfl) (is_sc rfl)) ?_
        refine s_nil (n_n ?_)
        have hw : IntKind.i64.wrap ((i : Int) + 1) = ((i + 1 : Nat) : Int) := wrap_nat (by omega)
        refine ⟨⟨i + 1, _, _, _, _, hlt, hR.cast (rep_snoc _ _), ⟨rfl, i64_eq hw, rfl, rfl, rfl, rfl, rfl, trivial⟩, rfl⟩, ?_⟩
        show q - (IntKind.i64.wrap ((i : Int) + 1)).toNat < q - (i : Int).toNat
        rw [hw]; omega
      · have hge : i = q := by have h' : ¬ (i : Int) < ((q : Nat) : Int) := of_decide_eq_false h241; omega
        rw [hge] at hR
        refine w_exit (n_e (n_e (b_hit (n_n (w_seq (w_seq (w_reg (s_q rfl rfl (q_mv (.inl rfl) (is_sc rfl)) ?_))))))))
        refine s_q rfl rfl (q_mv (.inl rfl) (is_sc rfl)) ?_
        refine s_nil (n_n (w_block ?_))
        refine w_loop (fun env A => ∃ (i n k c : Nat) (H : Heap), i ≤ ds.length ∧ RowB H b (some (bc ds ++ rest)) (.hs k 0 n c) ((S ++ [48] ++ [46] ++ List.replicate q 48) ++ ds.take i) ∧ Binds env [(0, .hs k 0 n c), (247, i64 i), (2, .hs b 0 32 32), (27, i64 0), (29, i64 0), (246, i64 ((ds.length : Nat) : Int))] ∧ A = AH.start H) (fun env _ => ds.length - ctr (env 247)) ?_ ?_
        · exact ⟨0, _, _, _, _, Nat.zero_le _, hR.cast (by simp), ⟨rfl, rfl, rfl, rfl, rfl, rfl, trivial⟩, rfl⟩
        · clear hR
          rintro env A ⟨i, n, k, c, H, hi, hR, hB, rfl⟩
          rw [hB.eq]; clear hB
          refine w_seq (w_reg (s_q rfl rfl (q_lss rfl rfl rfl) ?_))
          refine s_nil (n_n (w_seq (w_if (is_scb rfl) (fun h248 => ?_) (fun h248 => ?_))))
          · have hlt : i < ds.length := by have h' : (i : Int) < ((ds.length : Nat) : Int) := of_decide_eq_true h248; omega
            refine w_skip (n_n (w_seq (w_block (w_seq (w_reg (s_q rfl rfl (q_mv (.inl rfl) (is_sc rfl)) ?_))))))
            refine s_q rfl rfl (q_mv (.inr rfl) (is_sc rfl)) ?_
            refine s_nil (n_n (w_reg (s_q rfl rfl (q_mv (.inl rfl) (by first | exact is_im rfl | exact is_gs rfl | exact is_lit rfl | exact is_ms rfl | exact is_sc rfl | exact rfl)) ?_)))
            refine s_q rfl rfl (q_mv (.inl rfl) (by first | exact is_im rfl | exact is_gs rfl | exact is_lit rfl | exact is_ms rfl | exact is_sc rfl | exact rfl)) ?_
            refine s_q rfl rfl (q_mv (.inl rfl) (is_sc rfl)) ?_
            refine s_q rfl rfl (q_mv (.inl rfl) (is_sc rfl)) ?_
            refine s_q rfl rfl (q_as (i64_eq ((wrap_id (by omega) (by omega)).trans (by omega) : _ = ((i : Nat) : Int))) (q_add rfl rfl rfl)) ?_
            refine s_q rfl rfl (q_indexHs rfl rfl rfl (by omega) (by omega)) ?_
            refine s_q rfl rfl (q_loadH rfl rfl (d := u8d (ds[i])) (by show Heap.get H b _ = _; rw [show 0 + ((i : Nat) : Int).toNat * 1 = i by omega]; exact get_bc hR.base (by omega))) ?_
            refine s_q rfl rfl (q_bs rfl (pt_cons (is_sc rfl) pt_nil) (by decide) (by decide) (by exact (rfl : _ = some [_])) (by exact (rfl : _ = [_])) (by exact rfl) (by exact rfl)) ?_
            refine s_o rfl rfl (ao_appRowC (ys := [ds[i]]) rfl rfl hR (by exact rfl) (.inl rfl) (by simp) (by simp only [List.length_append, List.length_cons, List.length_nil, List.length_take, List.length_replicate, List.length_drop]; omega) fun k258 n258 c258 H258 hR => ?_)
            refine s_q rfl rfl (q_mv (.inr rfl) (by first | exact is_im rfl | exact is_gs rfl | exact is_lit rfl | exact is_ms rfl | exact is_sc rfl | exact rfl)) ?_
            refine s_nil (b_n (n_n (w_reg (s_q rfl rfl (q_add rfl rfl rfl) ?_))))
            refine s_q rfl rfl (q_mv (.inl rfl) (is_sc rfl)) ?_
            refine s_nil (n_n ?_)
            have hw : IntKind.i64.wrap ((i : Int) + 1) = ((i + 1 : Nat) : Int) := wrap_nat (by omega)
            refine ⟨⟨i + 1, _, _, _, _, hlt, hR.cast (take_snoc (by omega) _), ⟨rfl, i64_eq hw, rfl, rfl, rfl, rfl, trivial⟩, rfl⟩, ?_⟩
            show ds.length - (IntKind.i64.wrap ((i : Int) + 1)).toNat < ds.length - (i : Int).toNat
            rw [hw]; omega
          · have hge : i = ds.length := by have h' : ¬ (i : Int) < ((ds.length : Nat) : Int) := of_decide_eq_false h248; omega
            rw [hge] at hR
            replace hR := hR.cast (show _ = S ++ [48] ++ [46] ++ List.replicate q 48 ++ ds by rw [List.take_length])
            refine w_exit (n_e (n_e (b_hit (n_n (w_seq (w_reg (s_q rfl rfl (q_mv (.inl rfl) (is_sc rfl)) ?_)))))))
            refine s_q rfl rfl (q_mv (.inl rfl) (is_sc rfl)) ?_
            refine s_nil (n_n (w_block (w_unroll 0 (u_0 ?_))))
            refine w_seq (w_reg (s_q rfl rfl (q_as (bl_no (show ¬ (0 : Int) < 0 by omega)) (q_lss rfl rfl rfl)) ?_))
            refine s_nil (n_n (w_seq (w_ifF rfl (w_exit (n_e (n_e (b_hit (n_n (w_seq (w_reg (s_q rfl rfl (q_mv (.inl rfl) (by first | exact is_im rfl | exact is_gs rfl | exact is_lit rfl | exact is_ms rfl | exact is_sc rfl | exact rfl)) ?_)))))))))))
            refine s_q rfl rfl (q_mv (.inr rfl) (by first | exact is_im rfl | exact is_gs rfl | exact is_lit rfl | exact is_ms rfl | exact is_sc rfl | exact rfl)) ?_
            refine s_nil (n_n (w_ret (b_r (n_r ?_))))
            -- end 1
            refine r_r (ra_tmp (by first | exact is_im rfl | exact is_gs rfl | exact is_lit rfl | exact is_ms rfl | exact is_sc rfl | exact rfl) ra_nil) (by first | exact is_im rfl | exact is_gs rfl | exact is_lit rfl | exact is_ms rfl | exact is_sc rfl | exact rfl) (by exact rfl) (Sub.refl _) ?_
            refine hR.cast ?_
            rw [← hS, fmtT_0 hn]
            simp


-- internal/strconv.fmtEFG
theorem pf_fmtZ (h : Heap) (k0 c0 : Nat) (sp0 : List D) (neg : Bool) (h0 : h k0 = some sp0) (hs0 : sp0.length = c0) (hc0 : 0 < c0) (hcm : c0 ≤ maxLen) : ACall Tryz.prog G 287 true [.hs k0 0 0 c0, bl neg, .im [] 0, i64 0, i64 0, i64 (-1), .sc (.int .u8 103), bl true] h (fun v h' => RowA h' v ((if neg = true then [45] else []) ++ [48])) := by
  have hR : RowB h 0 none (.hs k0 0 0 c0) [] := ⟨k0, c0, sp0, rfl, h0, hs0, Nat.zero_le _, hcm, hc0, fun cs e => by cases e⟩
  clear h0 hs0 hc0 hcm
  refine ACall.intro rfl Tryz.func287 rfl (Nat.le_of_ble_eq_true rfl) rfl ?_
  refine w_seq (w_reg (s_q rfl rfl (q_mv (.inr rfl) (by first | exact is_im rfl | exact is_gs rfl | exact is_lit rfl | exact is_ms rfl | exact is_sc rfl | exact rfl)) ?_))
  refine s_nil (n_n (w_seq (w_seq (w_reg (s_q rfl rfl (q_mv (.inl rfl) (is_sc rfl)) ?_)))))
  refine s_q rfl rfl (q_eql rfl rfl rfl) ?_
  refine s_q rfl rfl (q_mv (.inl rfl) (is_sc rfl)) ?_
  refine s_off rfl rfl ?_
  refine s_off rfl rfl ?_
  refine s_q rfl rfl (q_pickT rfl rfl (is_sc rfl)) ?_
  refine s_nil (n_n (w_ifT rfl (w_seq (w_reg (s_q rfl rfl (q_mv (.inl rfl) (is_sc rfl)) ?_)))))
  refine s_q rfl rfl (q_mv (.inr rfl) (is_sc rfl)) ?_
  refine s_nil (n_n (w_seq (w_seq (w_reg (s_q rfl rfl (q_mv (.inl rfl) (is_sc rfl)) ?_)))))
  refine s_q rfl rfl (q_mv (.inl rfl) (is_sc rfl)) ?_
  refine s_q rfl rfl (q_gtr rfl rfl rfl) ?_
  refine s_q rfl rfl (q_mv (.inl rfl) (is_sc rfl)) ?_
  refine s_off rfl rfl ?_
  refine s_off rfl rfl ?_
  refine s_off rfl rfl ?_
  refine s_q rfl rfl (q_pickF rfl rfl (is_sc rfl)) ?_
  refine s_nil (n_n (w_ifF rfl (w_skip (n_n (w_seq (w_seq (w_reg (s_q rfl rfl (q_mv (.inl rfl) (is_sc rfl)) ?_))))))))
  refine s_nil (n_n (w_ifT rfl (w_reg (s_q rfl rfl (q_mv (.inr rfl) (is_sc rfl)) ?_))))
  refine s_nil (n_n (w_seq (w_reg (s_q rfl rfl (q_mv (.inl rfl) (is_sc rfl)) ?_))))
  refine s_q rfl rfl (q_sub rfl rfl rfl) ?_
  refine s_q rfl rfl (q_mv (.inr rfl) (is_sc rfl)) ?_
  refine s_nil (n_n (w_seq (w_reg (s_q rfl rfl (q_mv (.inl rfl) (is_sc rfl)) ?_))))
  refine s_q rfl rfl (q_lss rfl rfl rfl) ?_
  refine s_q rfl rfl (q_mv (.inl rfl) (is_sc rfl)) ?_
  refine s_q rfl rfl (q_mv (.inl rfl) (is_sc rfl)) ?_
  refine s_q rfl rfl (q_mv (.inl rfl) (is_sc rfl)) ?_
  refine s_q rfl rfl (q_geq rfl rfl rfl) ?_
  refine s_q rfl rfl (q_pickF rfl rfl (is_sc rfl)) ?_
  refine s_nil (n_n (w_ifF rfl (w_seq (w_seq (w_reg (s_q rfl rfl (q_mv (.inl rfl) (is_sc rfl)) ?_))))))
  refine s_q rfl rfl (q_mv (.inl rfl) (is_sc rfl)) ?_
  refine s_q rfl rfl (q_gtr rfl rfl rfl) ?_
  refine s_nil (n_n (w_ifF rfl (w_skip (n_n (w_seq (w_reg (s_q rfl rfl (q_mv (.inl rfl) (is_sc rfl)) ?_)))))))
  refine s_q rfl rfl (q_mv (.inl rfl) (is_sc rfl)) ?_
  refine s_q rfl rfl (q_sub rfl rfl rfl) ?_
  refine s_q rfl rfl (q_as (i64_eq (by first | rfl | simp : _ = (0 : Int))) (q_max rfl rfl rfl)) ?_
  refine s_q rfl rfl (q_mv (.inr rfl) (is_sc rfl)) ?_
  refine s_nil (n_n (w_reg (s_q rfl rfl (q_mv (.inr rfl) (is_sc rfl)) ?_)))
  refine s_nil (n_n (w_seq (w_seq (w_reg (s_q rfl rfl (q_mv (.inl rfl) (is_sc rfl)) ?_)))))
  refine s_nil (n_n (w_block (w_seq (w_seq (w_reg (s_q rfl rfl (q_eql rfl rfl rfl) ?_))))))
  refine s_q rfl rfl (q_mv (.inr rfl) (is_sc rfl)) ?_
  refine s_nil (n_n (w_ifF rfl (w_reg (s_q rfl rfl (q_eql rfl rfl rfl) ?_))))
  refine s_q rfl rfl (q_mv (.inr rfl) (is_sc rfl)) ?_
  refine s_nil (n_n (w_ifF rfl (w_seq (w_reg (s_q rfl rfl (q_eql rfl rfl rfl) ?_)))))
  refine s_q rfl rfl (q_mv (.inr rfl) (is_sc rfl)) ?_
  refine s_nil (n_n (w_ifT rfl (w_seq (w_seq (w_reg (s_q rfl rfl (q_mv (.inl rfl) (is_sc rfl)) ?_))))))
  refine s_nil (n_n (w_if (is_scb rfl) (fun h178 => ?_) (fun h178 => ?_)))
  · refine w_reg (s_q rfl rfl (q_mv (.inl rfl) (by first | exact is_im rfl | exact is_gs rfl | exact is_lit rfl | exact is_ms rfl | exact is_sc rfl | exact rfl)) ?_)
    refine s_q rfl rfl (q_bs rfl (pt_cons (is_sc rfl) pt_nil) (by decide) (by decide) (by exact (rfl : _ = some [_])) (by exact (rfl : _ = [_])) (by exact rfl) (by exact rfl)) ?_
    refine s_o rfl rfl (ao_appRowC (ys := [45]) rfl rfl hR (by exact rfl) (.inl rfl) (by simp) (by simp only [List.length_append, List.length_cons, List.length_nil, List.length_take, List.length_replicate, List.length_drop]; omega) fun k181 n181 c181 H181 hR => ?_)
    refine s_q rfl rfl (q_mv (.inr rfl) (by first | exact is_im rfl | exact is_gs rfl | exact is_lit rfl | exact is_ms rfl | exact is_sc rfl | exact rfl)) ?_
    refine s_nil (n_n (w_seq (w_seq (w_reg (s_q rfl rfl (q_mv (.inl rfl) (is_sc rfl)) ?_)))))
    refine s_q rfl rfl (q_gtr rfl rfl rfl) ?_
    refine s_nil (n_n (w_ifF rfl (w_reg (s_q rfl rfl (q_mv (.inl rfl) (by first | exact is_im rfl | exact is_gs rfl | exact is_lit rfl | exact is_ms rfl | exact is_sc rfl | exact rfl)) ?_))))
    refine s_q rfl rfl (q_bs rfl (pt_cons (is_sc rfl) pt_nil) (by decide) (by decide) (by exact (rfl : _ = some [_])) (by exact (rfl : _ = [_])) (by exact rfl) (by exact rfl)) ?_
    refine s_o rfl rfl (ao_appRowC (ys := [48]) rfl rfl hR (by exact rfl) (.inl rfl) (by simp) (by simp only [List.length_append, List.length_cons, List.length_nil, List.length_take, List.length_replicate, List.length_drop]; omega) fun k211 n211 c211 H211 hR => ?_)
    refine s_q rfl rfl (q_mv (.inr rfl) (by first | exact is_im rfl | exact is_gs rfl | exact is_lit rfl | exact is_ms rfl | exact is_sc rfl | exact rfl)) ?_
    refine s_nil (n_n (w_seq (w_seq (w_reg (s_q rfl rfl (q_mv (.inl rfl) (is_sc rfl)) ?_)))))
    refine s_q rfl rfl (q_gtr rfl rfl rfl) ?_
    refine s_nil (n_n (w_ifF rfl (w_skip (n_n (w_seq (w_reg (s_q rfl rfl (q_mv (.inl rfl) (by first | exact is_im rfl | exact is_gs rfl | exact is_lit rfl | exact is_ms rfl | exact is_sc rfl | exact rfl)) ?_)))))))
    refine s_q rfl rfl (q_mv (.inr rfl) (by first | exact is_im rfl | exact is_gs rfl | exact is_lit rfl | exact is_ms rfl | exact is_sc rfl | exact rfl)) ?_
    refine s_nil (n_n (w_ret (b_r (n_r ?_))))
    -- end 0
    refine r_r (ra_tmp (by first | exact is_im rfl | exact is_gs rfl | exact is_lit rfl | exact is_ms rfl | exact is_sc rfl | exact rfl) ra_nil) (by first | exact is_im rfl | exact is_gs rfl | exact is_lit rfl | exact is_ms rfl | exact is_sc rfl | exact rfl) (by exact rfl) (Sub.refl _) ?_
    refine (hR.cast ?_).row
    simp [h178]
  · refine w_skip (n_n (w_seq (w_seq (w_reg (s_q rfl rfl (q_mv (.inl rfl) (is_sc rfl)) ?_)))))
    refine s_q rfl rfl (q_gtr rfl rfl rfl) ?_
    refine s_nil (n_n (w_ifF rfl (w_reg (s_q rfl rfl (q_mv (.inl rfl) (by first | exact is_im rfl | exact is_gs rfl | exact is_lit rfl | exact is_ms rfl | exact is_sc rfl | exact rfl)) ?_))))
    refine s_q rfl rfl (q_bs rfl (pt_cons (is_sc rfl) pt_nil) (by decide) (by decide) (by exact (rfl : _ = some [_])) (by exact (rfl : _ = [_])) (by exact rfl) (by exact rfl)) ?_
    refine s_o rfl rfl (ao_appRowC (ys := [48]) rfl rfl hR (by exact rfl) (.inl rfl) (by simp) (by simp only [List.length_append, List.length_cons, List.length_nil, List.length_take, List.length_replicate, List.length_drop]; omega) fun k211 n211 c211 H211 hR => ?_)
    refine s_q rfl rfl (q_mv (.inr rfl) (by first | exact is_im rfl | exact is_gs rfl | exact is_lit rfl | exact is_ms rfl | exact is_sc rfl | exact rfl)) ?_
    refine s_nil (n_n (w_seq (w_seq (w_reg (s_q rfl rfl (q_mv (.inl rfl) (is_sc rfl)) ?_)))))
    refine s_q rfl rfl (q_gtr rfl rfl rfl) ?_
    refine s_nil (n_n (w_ifF rfl (w_skip (n_n (w_seq (w_reg (s_q rfl rfl (q_mv (.inl rfl) (by first | exact is_im rfl | exact is_gs rfl | exact is_lit rfl | exact is_ms rfl | exact is_sc rfl | exact rfl)) ?_)))))))
    refine s_q rfl rfl (q_mv (.inr rfl) (by first | exact is_im rfl | exact is_gs rfl | exact is_lit rfl | exact is_ms rfl | exact is_sc rfl | exact rfl)) ?_
    refine s_nil (n_n (w_ret (b_r (n_r ?_))))
    -- end 1
    refine r_r (ra_tmp (by first | exact is_im rfl | exact is_gs rfl | exact is_lit rfl | exact is_ms rfl | exact is_sc rfl | exact rfl) ra_nil) (by first | exact is_im rfl | exact is_gs rfl | exact is_lit rfl | exact is_ms rfl | exact is_sc rfl | exact rfl) (by exact rfl) (Sub.refl _) ?_
    refine (hR.cast ?_).row
    simp [h178]

end Go.Proofs.YtopgbalmdocboaaGreatDoor.Zz
