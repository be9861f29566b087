/- Walks of the functions, printed by program, and the logic behind them: each theorem says what one function or one step answers. -/
import Derived.Test.YteghibfaiifdoaaGreatDoorZM
import Derived.Test.YteghibfaiifdoaaGreatDoorZNx
import Derived.Test.YteghibfaiifdoaaGreatDoorZTx
import Derived.Test.YteghibfaiifdoaaGreatDoorZInt
namespace Go.Proofs.YteghibfaiifdoaaGreatDoor.Zz
open Go.Abs
set_option maxRecDepth 100000
set_option linter.unusedVariables false
set_option linter.unusedSimpArgs false
set_option maxHeartbeats 4000000
variable {G : Nat → D}
def replS (s : List UInt8) (n k : Int) (t : List UInt8) : List UInt8 := s.take (cutFrom s n) ++ t ++ s.drop (cutTo s n k)

-- (*pub-tallysheet/pub/excelize.formulaFuncs).replace
theorem pf_replace {s t : List UInt8} {b1 b2 : Nat} {n m : Int} (h : Heap) (kf k : Nat) (es : List (Nat × D)) (H : IsList h k es) (hes : es.map (·.2) = [.ifc 65 (fStr s).d, .ifc 65 (fNum b1).d, .ifc 65 (fNum b2).d, .ifc 65 (fStr t).d]) (hs : s.length ≤ 1000) (ht : t.length ≤ 1000) (hb1 : Fx b1 (n * (unit : Nat))) (hb2 : Fx b2 (m * (unit : Nat))) (hn : 1 ≤ n ∧ n ≤ 1000000) (hm : 0 ≤ m ∧ m ≤ 1000000) : ACall Tryz.prog G 65 true [.hp kf 0, st [82, 69, 80, 76, 65, 67, 69], .hp k 0] h (fun ret _ => ret = (fStr (replS s n m t)).d) := by
  obtain ⟨e0, e1, e2, e3, rfl⟩ := el4 hes
  have hcl := cut_le s n m
  refine ACall.intro rfl Tryz.func65 rfl (Nat.le_of_ble_eq_true rfl) rfl ?_
  refine w_seq (w_reg (s_s rfl rfl (as_alloc0 (id := 0) rfl rfl (by exact (rfl : _ = [_, _, _, _, _, _, _, _, _, _]))) ?_))
  refine s_nil (n_n (w_seq (w_seq (w_reg (s_q rfl rfl (q_mv (.inl rfl) (by first | exact is_box rfl | exact is_hp rfl | exact is_pin rfl | exact is_sc rfl | exact rfl)) ?_)))))
  refine s_o rfl rfl (ao_callH rfl rfl rfl rfl (pf_Len _ k _ H) fun vln Hvln hvln => ?_)
  obtain ⟨rfl, rfl⟩ := hvln
  refine s_q rfl rfl (q_neq rfl rfl rfl) ?_
  refine s_nil (n_n (w_ifF rfl (w_skip (n_n (w_seq (w_reg (s_q rfl rfl (q_mv (.inl rfl) (by first | exact is_box rfl | exact is_hp rfl | exact is_pin rfl | exact is_sc rfl | exact rfl)) ?_)))))))
  refine s_o rfl rfl (ao_callH rfl rfl rfl rfl (pf_Front _ k _ H (by simp) (by simp)) fun vfr Hvfr hvfr => ?_)
  obtain ⟨e_, rfl⟩ := hvfr
  replace e_ : vfr = D.hp e0 0 := e_
  subst e_
  refine s_q rfl rfl (q_nil rfl rfl rfl) ?_
  refine s_q rfl rfl (q_field rfl rfl (by exact rfl)) ?_
  refine s_q rfl rfl (q_loadH rfl rfl (d := .ifc 65 (fStr s).d) (by exact H.val (e0, .ifc 65 (fStr s).d) (by simp))) ?_
  refine s_q rfl rfl (q_asr rfl rfl) ?_
  refine s_q rfl rfl (q_call rfl rfl rfl rfl (pf_ValueS _)) ?_
  refine s_q rfl rfl (q_mv (.inl rfl) (by first | exact is_box rfl | exact is_hp rfl | exact is_pin rfl | exact is_sc rfl | exact rfl)) ?_
  refine s_o rfl rfl (ao_callH rfl rfl rfl rfl (pf_Back _ k _ H (by simp) (by simp)) fun vbk Hvbk hvbk => ?_)
  obtain ⟨e_, rfl⟩ := hvbk
  replace e_ : vbk = D.hp e3 0 := e_
  subst e_
  refine s_q rfl rfl (q_nil rfl rfl rfl) ?_
  refine s_q rfl rfl (q_field rfl rfl (by exact rfl)) ?_
  refine s_q rfl rfl (q_loadH rfl rfl (d := .ifc 65 (fStr t).d) (by exact H.val (e3, .ifc 65 (fStr t).d) (by simp))) ?_
  refine s_q rfl rfl (q_asr rfl rfl) ?_
  refine s_q rfl rfl (q_call rfl rfl rfl rfl (pf_ValueS _)) ?_
  refine s_q rfl rfl (q_mv (.inr rfl) (is_sc rfl)) ?_
  refine s_q rfl rfl (q_mv (.inr rfl) (is_sc rfl)) ?_
  refine s_nil (n_n (w_seq (w_reg (s_q rfl rfl (q_mv (.inl rfl) (by first | exact is_box rfl | exact is_hp rfl | exact is_pin rfl | exact is_sc rfl | exact rfl)) ?_))))
  refine s_o rfl rfl (ao_callH rfl rfl rfl rfl (pf_Front _ k _ H (by simp) (by simp)) fun vfr Hvfr hvfr => ?_)
  obtain ⟨e_, rfl⟩ := hvfr
  replace e_ : vfr = D.hp e0 0 := e_
  subst e_
  refine s_o rfl rfl (ao_callH rfl rfl rfl rfl (pf_NextA _ k _ H 0 (by simp) (by simp)) fun vn1 Hvn1 hvn1 => ?_)
  obtain ⟨e_, rfl⟩ := hvn1
  replace e_ : vn1 = D.hp e1 0 := e_
  subst e_
  refine s_q rfl rfl (q_nil rfl rfl rfl) ?_
  refine s_q rfl rfl (q_field rfl rfl (by exact rfl)) ?_
  refine s_q rfl rfl (q_loadH rfl rfl (d := .ifc 65 (fNum b1).d) (by exact H.val (e1, .ifc 65 (fNum b1).d) (by simp))) ?_
  refine s_q rfl rfl (q_asr rfl rfl) ?_
  refine s_q rfl rfl (q_call rfl rfl rfl rfl (pf_toNumN _ _ hb1)) ?_
  refine s_q rfl rfl (q_mv (.inl rfl) (by first | exact is_box rfl | exact is_hp rfl | exact is_pin rfl | exact is_sc rfl | exact rfl)) ?_
  refine s_o rfl rfl (ao_callH rfl rfl rfl rfl (pf_Front _ k _ H (by simp) (by simp)) fun vfr Hvfr hvfr => ?_)
  obtain ⟨e_, rfl⟩ := hvfr
  replace e_ : vfr = D.hp e0 0 := e_
  subst e_
  refine s_o rfl rfl (ao_callH rfl rfl rfl rfl (pf_NextA _ k _ H 0 (by simp) (by simp)) fun vn2 Hvn2 hvn2 => ?_)
  obtain ⟨e_, rfl⟩ := hvn2
  replace e_ : vn2 = D.hp e1 0 := e_
  subst e_
  refine s_o rfl rfl (ao_callH rfl rfl rfl rfl (pf_NextA _ k _ H 1 (by simp) (by simp)) fun vn3 Hvn3 hvn3 => ?_)
  obtain ⟨e_, rfl⟩ := hvn3
  replace e_ : vn3 = D.hp e2 0 := e_
  subst e_
  refine s_q rfl rfl (q_nil rfl rfl rfl) ?_
  refine s_q rfl rfl (q_field rfl rfl (by exact rfl)) ?_
  refine s_q rfl rfl (q_loadH rfl rfl (d := .ifc 65 (fNum b2).d) (by exact H.val (e2, .ifc 65 (fNum b2).d) (by simp))) ?_
  refine s_q rfl rfl (q_asr rfl rfl) ?_
  refine s_q rfl rfl (q_call rfl rfl rfl rfl (pf_toNumN _ _ hb2)) ?_
  refine s_s rfl rfl (as_alloc0 (id := 1) rfl rfl (by exact (rfl : _ = [_, _, _, _, _, _, _, _, _, _]))) ?_
  refine s_s rfl rfl (as_alloc0 (id := 2) rfl rfl (by exact (rfl : _ = [_, _, _, _, _, _, _, _, _, _]))) ?_
  refine s_u rfl rfl (as_st rfl rfl (by first | exact (rfl : _ = D.agg [_, _, _, _, _, _, _, _, _, _]) | exact rfl) rfl (by exact rfl) (by exact rfl) (by exact Nat.le_of_ble_eq_true rfl) (by exact (rfl : _ = [_, _, _, _, _, _, _, _, _, _]))) ?_
  refine s_u rfl rfl (as_st rfl rfl (by first | exact (rfl : _ = D.agg [_, _, _, _, _, _, _, _, _, _]) | exact rfl) rfl (by exact rfl) (by exact rfl) (by exact Nat.le_of_ble_eq_true rfl) (by exact (rfl : _ = [_, _, _, _, _, _, _, _, _, _]))) ?_
  refine s_nil (n_n (w_seq (w_seq (w_reg (s_q rfl rfl (q_field rfl rfl (by exact rfl)) ?_)))))
  refine s_q rfl rfl (q_load rfl rfl (by exact (rfl : _ = some (D.sc _)))) ?_
  refine s_q rfl rfl (q_neq rfl rfl rfl) ?_
  refine s_nil (n_n (w_ifF rfl (w_skip (n_n (w_seq (w_seq (w_reg (s_q rfl rfl (q_field rfl rfl (by exact rfl)) ?_))))))))
  refine s_q rfl rfl (q_load rfl rfl (by exact (rfl : _ = some (D.sc _)))) ?_
  refine s_q rfl rfl (q_neq rfl rfl rfl) ?_
  refine s_nil (n_n (w_ifF rfl (w_skip (n_n (w_seq (w_draw [0, 1, 0, 4, 12, 3, 63] [0, 0, 0, 1, 0, 0, 0] rfl ?_))))))
  refine d_q0 rfl rfl (q_mv (.inl rfl) (is_sc rfl)) ?_
  refine d_q0 rfl rfl (q_lens rfl rfl) ?_
  refine d_q0 rfl rfl (q_field rfl rfl (by exact rfl)) ?_
  refine d_q1 rfl rfl (q_load rfl rfl (by exact (rfl : _ = some (D.sc _)))) ?_
  refine d_q0 rfl rfl (q_cfi rfl rfl (fx_toInt (fx_clean hb1) .i64 (by simp only [IntKind.min, IntKind.max, IntKind.signed, IntKind.bits]; omega))) ?_
  refine d_q0 rfl rfl (q_mv (.inr rfl) (is_sc rfl)) ?_
  refine d_q0 rfl rfl (q_mv (.inr rfl) (is_sc rfl)) ?_
  refine d_nil (n_n (w_seq (w_seq (w_reg (s_q rfl rfl (q_mv (.inl rfl) (is_sc rfl)) ?_)))))
  refine s_q rfl rfl (q_mv (.inl rfl) (is_sc rfl)) ?_
  refine s_q rfl rfl (q_gtr rfl rfl rfl) ?_
  refine s_nil (n_n (w_if (is_scb rfl) (fun h67 => ?_) (fun h67 => ?_)))
  · have g67 : (s.length : Int) < n := of_decide_eq_true h67
    refine w_reg (s_q rfl rfl (q_mv (.inl rfl) (is_sc rfl)) ?_)
    refine s_q rfl rfl (q_as (i64_eq (wrap_id (by omega) (by omega) : _ = (s.length : Int) + 1)) (q_add rfl rfl rfl)) ?_
    refine s_q rfl rfl (q_mv (.inr rfl) (is_sc rfl)) ?_
    refine s_nil (n_n (w_seq (w_reg (s_q rfl rfl (q_mv (.inl rfl) (is_sc rfl)) ?_))))
    refine s_q rfl rfl (q_field rfl rfl (by exact rfl)) ?_
    refine s_q rfl rfl (q_load rfl rfl (by exact (rfl : _ = some (D.sc _)))) ?_
    refine s_q rfl rfl (q_cfi rfl rfl (fx_toInt (fx_clean hb2) .i64 (by simp only [IntKind.min, IntKind.max, IntKind.signed, IntKind.bits]; omega))) ?_
    refine s_q rfl rfl (q_as (i64_eq (wrap_id (by omega) (by omega))) (q_add rfl rfl rfl)) ?_
    refine s_q rfl rfl (q_mv (.inr rfl) (is_sc rfl)) ?_
    refine s_nil (n_n (w_seq (w_seq (w_reg (s_q rfl rfl (q_mv (.inl rfl) (is_sc rfl)) ?_)))))
    refine s_q rfl rfl (q_mv (.inl rfl) (is_sc rfl)) ?_
    refine s_q rfl rfl (q_gtr rfl rfl rfl) ?_
    refine s_nil (n_n (w_if (is_scb rfl) (fun h77 => ?_) (fun h77 => ?_)))
    · have g77 := of_decide_eq_true h77
      refine w_reg (s_q rfl rfl (q_mv (.inl rfl) (is_sc rfl)) ?_)
      refine s_q rfl rfl (q_as (i64_eq (wrap_id (by omega) (by omega) : _ = (s.length : Int) + 1)) (q_add rfl rfl rfl)) ?_
      refine s_q rfl rfl (q_mv (.inr rfl) (is_sc rfl)) ?_
      refine s_nil (n_n (w_seq (w_seq (w_reg (s_q rfl rfl (q_mv (.inl rfl) (is_sc rfl)) ?_)))))
      refine s_q rfl rfl (q_as (bl_no (by omega)) (q_lss rfl rfl rfl)) ?_
      refine s_q rfl rfl (q_mv (.inl rfl) (is_sc rfl)) ?_
      refine s_q rfl rfl (q_mv (.inl rfl) (is_sc rfl)) ?_
      refine s_q rfl rfl (q_as (bl_no (by omega)) (q_lss rfl rfl rfl)) ?_
      refine s_q rfl rfl (q_pickF rfl rfl (is_sc rfl)) ?_
      refine s_nil (n_n (w_ifF rfl (w_skip (n_n (w_seq (w_draw [0, 0, 2, 7, 0, 31, 0, 0, 128, 448, 1023, 2047] [0, 0, 0, 0, 0, 0, 0, 0, 0, 0, 0, 0] rfl ?_))))))
      refine d_q0 rfl rfl (q_mv (.inl rfl) (is_sc rfl)) ?_
      refine d_q0 rfl rfl (q_mv (.inl rfl) (is_sc rfl)) ?_
      refine d_q0 rfl rfl (q_as (i64_eq (show _ = ((cutFrom s n : Nat) : Int) by rw [wrap_id (by omega) (by omega)]; unfold cutFrom; omega)) (q_sub rfl rfl rfl)) ?_
      refine d_q0 rfl rfl (q_as (st_eq (by show List.drop 0 (List.take _ s) = _; rw [List.drop_zero])) (q_cutS (a := 0) (b := cutFrom s n) rfl rfl rfl ⟨_, _, rfl, Int.natCast_nonneg _, rfl⟩ (Nat.zero_le _) (show cutFrom s n ≤ s.length by omega))) ?_
      refine d_q0 rfl rfl (q_mv (.inl rfl) (is_sc rfl)) ?_
      refine d_q0 rfl rfl (q_cat rfl rfl rfl (by show (List.take _ s).length + t.length ≤ _; simp only [List.length_take]; omega)) ?_
      refine d_q0 rfl rfl (q_mv (.inl rfl) (is_sc rfl)) ?_
      refine d_q0 rfl rfl (q_mv (.inl rfl) (is_sc rfl)) ?_
      refine d_q0 rfl rfl (q_as (i64_eq (show _ = ((cutTo s n m : Nat) : Int) by rw [wrap_id (by omega) (by omega)]; unfold cutTo cutFrom; omega)) (q_sub rfl rfl rfl)) ?_
      refine d_q0 rfl rfl (q_as (st_eq (by show List.drop _ (List.take s.length s) = _; rw [List.take_length])) (q_cutS (a := cutTo s n m) (b := s.length) rfl rfl ⟨_, _, rfl, Int.natCast_nonneg _, rfl⟩ rfl (show cutTo s n m ≤ s.length by omega) (Nat.le_refl _))) ?_
      refine d_q0 rfl rfl (q_cat rfl rfl rfl (by show (List.take _ s ++ t).length + (List.drop _ s).length ≤ _; simp only [List.length_append, List.length_take, List.length_drop]; omega)) ?_
      refine d_q0 rfl rfl (q_mv (.inr rfl) (is_sc rfl)) ?_
      refine d_nil (n_n (w_seq (w_reg (s_q rfl rfl (q_mv (.inl rfl) (is_sc rfl)) ?_))))
      refine s_q rfl rfl (q_call rfl rfl rfl rfl (pf_newStr _)) ?_
      refine s_u rfl rfl (as_st rfl rfl (by first | exact (rfl : _ = D.agg [_, _, _, _, _, _, _, _, _, _]) | exact rfl) rfl (by exact rfl) (by exact rfl) (by exact Nat.le_of_ble_eq_true rfl) (by exact (rfl : _ = [_, _, _, _, _, _, _, _, _, _]))) ?_
      refine s_nil (n_n (w_ret ?_))
      -- end 0
      refine r_r (ra_cell (by exact (rfl : _ = some (D.agg [_, _, _, _, _, _, _, _, _, _]))) ra_nil) (by first | exact (rfl : _ = D.agg [_, _, _, _, _, _, _, _, _, _]) | exact rfl) (by exact rfl) (Sub.refl _) ?_
      rfl
    · have g77 := of_decide_eq_false h77
      refine w_skip (n_n (w_seq (w_seq (w_reg (s_q rfl rfl (q_mv (.inl rfl) (is_sc rfl)) ?_)))))
      refine s_q rfl rfl (q_as (bl_no (by omega)) (q_lss rfl rfl rfl)) ?_
      refine s_q rfl rfl (q_mv (.inl rfl) (is_sc rfl)) ?_
      refine s_q rfl rfl (q_mv (.inl rfl) (is_sc rfl)) ?_
      refine s_q rfl rfl (q_as (bl_no (by omega)) (q_lss rfl rfl rfl)) ?_
      refine s_q rfl rfl (q_pickF rfl rfl (is_sc rfl)) ?_
      refine s_nil (n_n (w_ifF rfl (w_skip (n_n (w_seq (w_draw [0, 0, 2, 7, 0, 31, 0, 0, 128, 448, 1023, 2047] [0, 0, 0, 0, 0, 0, 0, 0, 0, 0, 0, 0] rfl ?_))))))
      refine d_q0 rfl rfl (q_mv (.inl rfl) (is_sc rfl)) ?_
      refine d_q0 rfl rfl (q_mv (.inl rfl) (is_sc rfl)) ?_
      refine d_q0 rfl rfl (q_as (i64_eq (show _ = ((cutFrom s n : Nat) : Int) by rw [wrap_id (by omega) (by omega)]; unfold cutFrom; omega)) (q_sub rfl rfl rfl)) ?_
      refine d_q0 rfl rfl (q_as (st_eq (by show List.drop 0 (List.take _ s) = _; rw [List.drop_zero])) (q_cutS (a := 0) (b := cutFrom s n) rfl rfl rfl ⟨_, _, rfl, Int.natCast_nonneg _, rfl⟩ (Nat.zero_le _) (show cutFrom s n ≤ s.length by omega))) ?_
      refine d_q0 rfl rfl (q_mv (.inl rfl) (is_sc rfl)) ?_
      refine d_q0 rfl rfl (q_cat rfl rfl rfl (by show (List.take _ s).length + t.length ≤ _; simp only [List.length_take]; omega)) ?_
      refine d_q0 rfl rfl (q_mv (.inl rfl) (is_sc rfl)) ?_
      refine d_q0 rfl rfl (q_mv (.inl rfl) (is_sc rfl)) ?_
      refine d_q0 rfl rfl (q_as (i64_eq (show _ = ((cutTo s n m : Nat) : Int) by rw [wrap_id (by omega) (by omega)]; unfold cutTo cutFrom; omega)) (q_sub rfl rfl rfl)) ?_
      refine d_q0 rfl rfl (q_as (st_eq (by show List.drop _ (List.take s.length s) = _; rw [List.take_length])) (q_cutS (a := cutTo s n m) (b := s.length) rfl rfl ⟨_, _, rfl, Int.natCast_nonneg _, rfl⟩ rfl (show cutTo s n m ≤ s.length by omega) (Nat.le_refl _))) ?_
      refine d_q0 rfl rfl (q_cat rfl rfl rfl (by show (List.take _ s ++ t).length + (List.drop _ s).length ≤ _; simp only [List.length_append, List.length_take, List.length_drop]; omega)) ?_
      refine d_q0 rfl rfl (q_mv (.inr rfl) (is_sc rfl)) ?_
      refine d_nil (n_n (w_seq (w_reg (s_q rfl rfl (q_mv (.inl rfl) (is_sc rfl)) ?_))))
      refine s_q rfl rfl (q_call rfl rfl rfl rfl (pf_newStr _)) ?_
      refine s_u rfl rfl (as_st rfl rfl (by first | exact (rfl : _ = D.agg [_, _, _, _, _, _, _, _, _, _]) | exact rfl) rfl (by exact rfl) (by exact rfl) (by exact Nat.le_of_ble_eq_true rfl) (by exact (rfl : _ = [_, _, _, _, _, _, _, _, _, _]))) ?_
      refine s_nil (n_n (w_ret ?_))
      -- end 1
      refine r_r (ra_cell (by exact (rfl : _ = some (D.agg [_, _, _, _, _, _, _, _, _, _]))) ra_nil) (by first | exact (rfl : _ = D.agg [_, _, _, _, _, _, _, _, _, _]) | exact rfl) (by exact rfl) (Sub.refl _) ?_
      rfl
  · have g67 : ¬ (s.length : Int) < n := of_decide_eq_false h67
    refine w_skip (n_n (w_seq (w_reg (s_q rfl rfl (q_mv (.inl rfl) (is_sc rfl)) ?_))))
    refine s_q rfl rfl (q_field rfl rfl (by exact rfl)) ?_
    refine s_q rfl rfl (q_load rfl rfl (by exact (rfl : _ = some (D.sc _)))) ?_
    refine s_q rfl rfl (q_cfi rfl rfl (fx_toInt (fx_clean hb2) .i64 (by simp only [IntKind.min, IntKind.max, IntKind.signed, IntKind.bits]; omega))) ?_
    refine s_q rfl rfl (q_as (i64_eq (wrap_id (by omega) (by omega))) (q_add rfl rfl rfl)) ?_
    refine s_q rfl rfl (q_mv (.inr rfl) (is_sc rfl)) ?_
    refine s_nil (n_n (w_seq (w_seq (w_reg (s_q rfl rfl (q_mv (.inl rfl) (is_sc rfl)) ?_)))))
    refine s_q rfl rfl (q_mv (.inl rfl) (is_sc rfl)) ?_
    refine s_q rfl rfl (q_gtr rfl rfl rfl) ?_
    refine s_nil (n_n (w_if (is_scb rfl) (fun h77 => ?_) (fun h77 => ?_)))
    · have g77 := of_decide_eq_true h77
      refine w_reg (s_q rfl rfl (q_mv (.inl rfl) (is_sc rfl)) ?_)
      refine s_q rfl rfl (q_as (i64_eq (wrap_id (by omega) (by omega) : _ = (s.length : Int) + 1)) (q_add rfl rfl rfl)) ?_
      refine s_q rfl rfl (q_mv (.inr rfl) (is_sc rfl)) ?_
      refine s_nil (n_n (w_seq (w_seq (w_reg (s_q rfl rfl (q_mv (.inl rfl) (is_sc rfl)) ?_)))))
      refine s_q rfl rfl (q_as (bl_no (by omega)) (q_lss rfl rfl rfl)) ?_
      refine s_q rfl rfl (q_mv (.inl rfl) (is_sc rfl)) ?_
      refine s_q rfl rfl (q_mv (.inl rfl) (is_sc rfl)) ?_
      refine s_q rfl rfl (q_as (bl_no (by omega)) (q_lss rfl rfl rfl)) ?_
      refine s_q rfl rfl (q_pickF rfl rfl (is_sc rfl)) ?_
      refine s_nil (n_n (w_ifF rfl (w_skip (n_n (w_seq (w_draw [0, 0, 2, 7, 0, 31, 0, 0, 128, 448, 1023, 2047] [0, 0, 0, 0, 0, 0, 0, 0, 0, 0, 0, 0] rfl ?_))))))
      refine d_q0 rfl rfl (q_mv (.inl rfl) (is_sc rfl)) ?_
      refine d_q0 rfl rfl (q_mv (.inl rfl) (is_sc rfl)) ?_
      refine d_q0 rfl rfl (q_as (i64_eq (show _ = ((cutFrom s n : Nat) : Int) by rw [wrap_id (by omega) (by omega)]; unfold cutFrom; omega)) (q_sub rfl rfl rfl)) ?_
      refine d_q0 rfl rfl (q_as (st_eq (by show List.drop 0 (List.take _ s) = _; rw [List.drop_zero])) (q_cutS (a := 0) (b := cutFrom s n) rfl rfl rfl ⟨_, _, rfl, Int.natCast_nonneg _, rfl⟩ (Nat.zero_le _) (show cutFrom s n ≤ s.length by omega))) ?_
      refine d_q0 rfl rfl (q_mv (.inl rfl) (is_sc rfl)) ?_
      refine d_q0 rfl rfl (q_cat rfl rfl rfl (by show (List.take _ s).length + t.length ≤ _; simp only [List.length_take]; omega)) ?_
      refine d_q0 rfl rfl (q_mv (.inl rfl) (is_sc rfl)) ?_
      refine d_q0 rfl rfl (q_mv (.inl rfl) (is_sc rfl)) ?_
      refine d_q0 rfl rfl (q_as (i64_eq (show _ = ((cutTo s n m : Nat) : Int) by rw [wrap_id (by omega) (by omega)]; unfold cutTo cutFrom; omega)) (q_sub rfl rfl rfl)) ?_
      refine d_q0 rfl rfl (q_as (st_eq (by show List.drop _ (List.take s.length s) = _; rw [List.take_length])) (q_cutS (a := cutTo s n m) (b := s.length) rfl rfl ⟨_, _, rfl, Int.natCast_nonneg _, rfl⟩ rfl (show cutTo s n m ≤ s.length by omega) (Nat.le_refl _))) ?_
      refine d_q0 rfl rfl (q_cat rfl rfl rfl (by show (List.take _ s ++ t).length + (List.drop _ s).length ≤ _; simp only [List.length_append, List.length_take, List.length_drop]; omega)) ?_
      refine d_q0 rfl rfl (q_mv (.inr rfl) (is_sc rfl)) ?_
      refine d_nil (n_n (w_seq (w_reg (s_q rfl rfl (q_mv (.inl rfl) (is_sc rfl)) ?_))))
      refine s_q rfl rfl (q_call rfl rfl rfl rfl (pf_newStr _)) ?_
      refine s_u rfl rfl (as_st rfl rfl (by first | exact (rfl : _ = D.agg [_, _, _, _, _, _, _, _, _, _]) | exact rfl) rfl (by exact rfl) (by exact rfl) (by exact Nat.le_of_ble_eq_true rfl) (by exact (rfl : _ = [_, _, _, _, _, _, _, _, _, _]))) ?_
      refine s_nil (n_n (w_ret ?_))
      -- end 2
      refine r_r (ra_cell (by exact (rfl : _ = some (D.agg [_, _, _, _, _, _, _, _, _, _]))) ra_nil) (by first | exact (rfl : _ = D.agg [_, _, _, _, _, _, _, _, _, _]) | exact rfl) (by exact rfl) (Sub.refl _) ?_
      rfl
    · have g77 := of_decide_eq_false h77
      refine w_skip (n_n (w_seq (w_seq (w_reg (s_q rfl rfl (q_mv (.inl rfl) (is_sc rfl)) ?_)))))
      refine s_q rfl rfl (q_as (bl_no (by omega)) (q_lss rfl rfl rfl)) ?_
      refine s_q rfl rfl (q_mv (.inl rfl) (is_sc rfl)) ?_
      refine s_q rfl rfl (q_mv (.inl rfl) (is_sc rfl)) ?_
      refine s_q rfl rfl (q_as (bl_no (by omega)) (q_lss rfl rfl rfl)) ?_
      refine s_q rfl rfl (q_pickF rfl rfl (is_sc rfl)) ?_
      refine s_nil (n_n (w_ifF rfl (w_skip (n_n (w_seq (w_draw [0, 0, 2, 7, 0, 31, 0, 0, 128, 448, 1023, 2047] [0, 0, 0, 0, 0, 0, 0, 0, 0, 0, 0, 0] rfl ?_))))))
      refine d_q0 rfl rfl (q_mv (.inl rfl) (is_sc rfl)) ?_
      refine d_q0 rfl rfl (q_mv (.inl rfl) (is_sc rfl)) ?_
      refine d_q0 rfl rfl (q_as (i64_eq (show _ = ((cutFrom s n : Nat) : Int) by rw [wrap_id (by omega) (by omega)]; unfold cutFrom; omega)) (q_sub rfl rfl rfl)) ?_
      refine d_q0 rfl rfl (q_as (st_eq (by show List.drop 0 (List.take _ s) = _; rw [List.drop_zero])) (q_cutS (a := 0) (b := cutFrom s n) rfl rfl rfl ⟨_, _, rfl, Int.natCast_nonneg _, rfl⟩ (Nat.zero_le _) (show cutFrom s n ≤ s.length by omega))) ?_
      refine d_q0 rfl rfl (q_mv (.inl rfl) (is_sc rfl)) ?_
      refine d_q0 rfl rfl (q_cat rfl rfl rfl (by show (List.take _ s).length + t.length ≤ _; simp only [List.length_take]; omega)) ?_
      refine d_q0 rfl rfl (q_mv (.inl rfl) (is_sc rfl)) ?_
      refine d_q0 rfl rfl (q_mv (.inl rfl) (is_sc rfl)) ?_
      refine d_q0 rfl rfl (q_as (i64_eq (show _ = ((cutTo s n m : Nat) : Int) by rw [wrap_id (by omega) (by omega)]; unfold cutTo cutFrom; omega)) (q_sub rfl rfl rfl)) ?_
      refine d_q0 rfl rfl (q_as (st_eq (by show List.drop _ (List.take s.length s) = _; rw [List.take_length])) (q_cutS (a := cutTo s n m) (b := s.length) rfl rfl ⟨_, _, rfl, Int.natCast_nonneg _, rfl⟩ rfl (show cutTo s n m ≤ s.length by omega) (Nat.le_refl _))) ?_
      refine d_q0 rfl rfl (q_cat rfl rfl rfl (by show (List.take _ s ++ t).length + (List.drop _ s).length ≤ _; simp only [List.length_append, List.length_take, List.length_drop]; omega)) ?_
      refine d_q0 rfl rfl (q_mv (.inr rfl) (is_sc rfl)) ?_
      refine d_nil (n_n (w_seq (w_reg (s_q rfl rfl (q_mv (.inl rfl) (is_sc rfl)) ?_))))
      refine s_q rfl rfl (q_call rfl rfl rfl rfl (pf_newStr _)) ?_
      refine s_u rfl rfl (as_st rfl rfl (by first | exact (rfl : _ = D.agg [_, _, _, _, _, _, _, _, _, _]) | exact rfl) rfl (by exact rfl) (by exact rfl) (by exact Nat.le_of_ble_eq_true rfl) (by exact (rfl : _ = [_, _, _, _, _, _, _, _, _, _]))) ?_
      refine s_nil (n_n (w_ret ?_))
      -- end 3
      refine r_r (ra_cell (by exact (rfl : _ = some (D.agg [_, _, _, _, _, _, _, _, _, _]))) ra_nil) (by first | exact (rfl : _ = D.agg [_, _, _, _, _, _, _, _, _, _]) | exact rfl) (by exact rfl) (Sub.refl _) ?_
      rfl


-- (*pub-tallysheet/pub/excelize.formulaFuncs).REPLACE
theorem pf_REPLACE {s t : List UInt8} {b1 b2 : Nat} {n m : Int} (h : Heap) (kf k : Nat) (es : List (Nat × D)) (H : IsList h k es) (hes : es.map (·.2) = [.ifc 65 (fStr s).d, .ifc 65 (fNum b1).d, .ifc 65 (fNum b2).d, .ifc 65 (fStr t).d]) (hs : s.length ≤ 1000) (ht : t.length ≤ 1000) (hb1 : Fx b1 (n * (unit : Nat))) (hb2 : Fx b2 (m * (unit : Nat))) (hn : 1 ≤ n ∧ n ≤ 1000000) (hm : 0 ≤ m ∧ m ≤ 1000000) : ACall Tryz.prog G 41 true [.hp kf 0, .hp k 0] h (fun ret _ => ret = (fStr (replS s n m t)).d) := by
  obtain ⟨e0, e1, e2, e3, rfl⟩ := el4 hes
  refine ACall.intro rfl Tryz.func41 rfl (Nat.le_of_ble_eq_true rfl) rfl ?_
  refine w_seq (w_reg (s_s rfl rfl (as_alloc0 (id := 0) rfl rfl (by exact (rfl : _ = [_, _, _, _, _, _, _, _, _, _]))) ?_))
  refine s_nil (n_n (w_seq (w_reg (s_q rfl rfl (q_mv (.inl rfl) (by first | exact is_box rfl | exact is_hp rfl | exact is_pin rfl | exact is_sc rfl | exact rfl)) ?_))))
  refine s_q rfl rfl (q_mv (.inl rfl) (by first | exact is_box rfl | exact is_hp rfl | exact is_pin rfl | exact is_sc rfl | exact rfl)) ?_
  refine s_o rfl rfl (ao_callH rfl rfl rfl rfl (pf_replace _ kf k _ H rfl hs ht hb1 hb2 hn hm) fun vrp Hvrp hvrp => ?_)
  obtain rfl := hvrp
  refine s_u rfl rfl (as_st rfl rfl (by first | exact (rfl : _ = D.agg [_, _, _, _, _, _, _, _, _, _]) | exact rfl) rfl (by exact rfl) (by exact rfl) (by exact Nat.le_of_ble_eq_true rfl) (by exact (rfl : _ = [_, _, _, _, _, _, _, _, _, _]))) ?_
  refine s_nil (n_n (w_ret ?_))
  -- end 0
  refine r_r (ra_cell (by exact (rfl : _ = some (D.agg [_, _, _, _, _, _, _, _, _, _]))) ra_nil) (by first | exact (rfl : _ = D.agg [_, _, _, _, _, _, _, _, _, _]) | exact rfl) (by exact rfl) (Sub.refl _) ?_
  rfl


-- pub-tallysheet/pub/excelize.DoorREPLACE
theorem pf_DoorREPLACE (s t : List UInt8) (b1 b2 : Nat) (n m : Int) (hs : s.length ≤ 1000) (ht : t.length ≤ 1000) (hb1 : Fx b1 (n * (unit : Nat))) (hb2 : Fx b2 (m * (unit : Nat))) (hn : 1 ≤ n ∧ n ≤ 1000000) (hm : 0 ≤ m ∧ m ≤ 1000000) : PF Tryz.prog G 27 [ilst [iStr s, iNum b1, iNum b2, iStr t]] (iStr (replS s n m t)).d := by
  refine PC.intro rfl Tryz.func27 rfl (Nat.le_of_ble_eq_true rfl) rfl ?_
  refine w_seq (w_reg (s_s rfl rfl (as_alloc0 (id := 0) rfl rfl (by exact (rfl : _ = [_, _, _, _]))) ?_))
  refine s_nil (n_n (w_seq (w_reg (s_o rfl rfl (ao_callH rfl rfl rfl rfl (pf_doorFuncs _) fun v3 Hv3 hv3 => ?_)))))
  obtain ⟨kf, rfl⟩ := hv3
  refine s_q rfl rfl (q_mv (.inl rfl) (by first | exact is_im rfl | exact is_gs rfl | exact is_lit rfl | exact is_ms rfl | exact is_sc rfl | exact rfl)) ?_
  refine s_o rfl rfl (ao_callH rfl rfl rfl rfl (pf_innerList _ [iStr s, iNum b1, iNum b2, iStr t] (by simp only [List.length_cons, List.length_nil]; omega) innF (fun v hv => by
    simp only [List.mem_cons, List.mem_nil_iff, or_false] at hv
    rcases hv with rfl | rfl | rfl | rfl
    · exact pf_innerS s
    · exact pf_innerN b1 _ hb1
    · exact pf_innerN b2 _ hb2
    · exact pf_innerS t)) fun v5 Hv5 hv5 => ?_)
  obtain ⟨kl, es, rfl, hL, hes⟩ := hv5
  refine s_o rfl rfl (ao_callH rfl rfl rfl rfl (pf_REPLACE _ kf kl es hL hes hs ht (fx_clean hb1) (fx_clean hb2) hn hm) fun v6 Hv6 hv6 => ?_)
  obtain rfl := hv6
  refine s_q rfl rfl (q_call rfl rfl rfl rfl (pf_doorS _)) ?_
  refine s_u rfl rfl (as_st rfl rfl (by first | exact (rfl : _ = D.agg [_, _, _, _]) | exact rfl) rfl (by exact rfl) (by exact rfl) (by exact Nat.le_of_ble_eq_true rfl) (by exact (rfl : _ = [_, _, _, _]))) ?_
  refine s_nil (n_n (w_ret ?_))
  -- end 0
  refine r_r (ra_cell (by exact (rfl : _ = some (D.agg [_, _, _, _]))) ra_nil) (by first | exact (rfl : _ = D.agg [_, _, _, _]) | exact rfl) (by exact rfl) sub_no ?_
  rfl


-- pub-tallysheet/impl.REPLACE
theorem pf_ImplREPLACE (s t : List UInt8) (b1 b2 : Nat) (n m : Int) (hs : s.length ≤ 1000) (ht : t.length ≤ 1000) (hb1 : Fx b1 (n * (unit : Nat))) (hb2 : Fx b2 (m * (unit : Nat))) (hn : 1 ≤ n ∧ n ≤ 1000000) (hm : 0 ≤ m ∧ m ≤ 1000000) : PF Tryz.prog G 12 [ilst [iStr s, iNum b1, iNum b2, iStr t]] (iStr (replS s n m t)).d := by
  refine PC.intro rfl Tryz.func12 rfl (Nat.le_of_ble_eq_true rfl) rfl ?_
  refine w_seq (w_reg (s_s rfl rfl (as_alloc0 (id := 0) rfl rfl (by exact (rfl : _ = [_, _, _, _]))) ?_))
  refine s_nil (n_n (w_seq (w_reg (s_q rfl rfl (q_mv (.inl rfl) (by first | exact is_im rfl | exact is_gs rfl | exact is_lit rfl | exact is_ms rfl | exact is_sc rfl | exact rfl)) ?_))))
  refine s_q rfl rfl (q_call rfl rfl rfl rfl (pf_in [iStr s, iNum b1, iNum b2, iStr t] (by simp only [List.length_cons, List.length_nil]; omega) (by intro v hv; simp only [List.mem_cons, List.mem_nil_iff, or_false] at hv; rcases hv with rfl | rfl | rfl | rfl <;> rfl))) ?_
  refine s_q rfl rfl (q_call rfl rfl rfl rfl (pf_DoorREPLACE s t b1 b2 n m hs ht hb1 hb2 hn hm)) ?_
  refine s_q rfl rfl (q_call rfl rfl rfl rfl (pf_out _ _ _)) ?_
  refine s_u rfl rfl (as_st rfl rfl (by first | exact (rfl : _ = D.agg [_, _, _, _]) | exact rfl) rfl (by exact rfl) (by exact rfl) (by exact Nat.le_of_ble_eq_true rfl) (by exact (rfl : _ = [_, _, _, _]))) ?_
  refine s_nil (n_n (w_ret ?_))
  -- end 0
  refine r_r (ra_cell (by exact (rfl : _ = some (D.agg [_, _, _, _]))) ra_nil) (by first | exact (rfl : _ = D.agg [_, _, _, _]) | exact rfl) (by exact rfl) sub_no ?_
  rfl

end Go.Proofs.YteghibfaiifdoaaGreatDoor.Zz
