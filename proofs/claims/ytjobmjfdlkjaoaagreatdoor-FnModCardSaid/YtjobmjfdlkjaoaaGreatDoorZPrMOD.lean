/- Walks of the functions, printed by program: each theorem says what one function answers. -/
import Derived.Test.YtjobmjfdlkjaoaaGreatDoorZX1
import Derived.Test.YtjobmjfdlkjaoaaGreatDoorZInt
namespace Go.Proofs.YtjobmjfdlkjaoaaGreatDoor.Zz
open Go.Abs
set_option maxRecDepth 100000
set_option linter.unusedVariables false
set_option linter.unusedSimpArgs false
set_option maxHeartbeats 4000000
variable {G : Nat → D}

-- (*pub-tallysheet/pub/excelize.formulaFuncs).MOD
theorem pf_MODZ {b1 b2 : Nat} (h : Heap) (kf k : Nat) (es : List (Nat × D)) (H : IsList h k es) (hes : es.map (·.2) = [.ifc 61 (fNum b1).d, .ifc 61 (fNum b2).d]) {x1 x2 : Int} (hb1 : Fx b1 x1) (hb2 : Fx b2 x2) (hz : fcmp .eql .f64 (clean b2) 0 = true) : ACall Tryz.prog G 43 true [.hp kf 0, .hp k 0] h (fun ret _ => ret = (fErr [35, 68, 73, 86, 47, 48, 33] [77, 79, 68, 32, 100, 105, 118, 105, 100, 101, 32, 98, 121, 32, 122, 101, 114, 111]).d) := by
  obtain ⟨e1, e2, rfl⟩ : ∃ e1 e2, es = [(e1, .ifc 61 (fNum b1).d), (e2, .ifc 61 (fNum b2).d)] := by
    cases es with
    | nil => simp at hes
    | cons p es =>
      cases es with
      | nil => simp at hes
      | cons q es =>
        cases es with
        | nil => obtain ⟨e1, x⟩ := p; obtain ⟨e2, y⟩ := q; simp at hes; obtain ⟨rfl, rfl⟩ := hes; exact ⟨e1, e2, rfl⟩
        | cons _ _ => simp at hes
  refine ACall.intro rfl Tryz.func43 rfl (Nat.le_of_ble_eq_true rfl) rfl ?_
  refine w_seq (w_reg (s_s rfl rfl (as_alloc0 (id := 0) rfl rfl (by exact (rfl : _ = [_, _, _, _, _, _, _, _, _, _]))) ?_))
  refine s_nil (n_n (w_seq (w_seq (w_reg (s_q rfl rfl (q_mv (.inl rfl) (by first | exact is_box rfl | exact is_hp rfl | exact is_pin rfl | exact is_sc rfl | exact rfl)) ?_)))))
  refine s_o rfl rfl (ao_callH rfl rfl rfl rfl (pf_Len _ k _ H) fun vln Hvln hvln => ?_)
  obtain ⟨rfl, rfl⟩ := hvln
  refine s_q rfl rfl (q_neq rfl rfl rfl) ?_
  refine s_nil (n_n (w_ifF rfl (w_skip (n_n (w_seq (w_reg (s_q rfl rfl (q_mv (.inl rfl) (by first | exact is_box rfl | exact is_hp rfl | exact is_pin rfl | exact is_sc rfl | exact rfl)) ?_)))))))
  refine s_o rfl rfl (ao_callH rfl rfl rfl rfl (pf_Front _ k _ H (by simp) (by simp)) fun vfr Hvfr hvfr => ?_)
  obtain ⟨rfl, rfl⟩ := hvfr
  refine s_q rfl rfl (q_nil rfl rfl rfl) ?_
  refine s_q rfl rfl (q_field rfl rfl (by exact rfl)) ?_
  refine s_q rfl rfl (q_loadH rfl rfl (d := .ifc 61 (fNum b1).d) (by exact H.val _ (by simp))) ?_
  refine s_q rfl rfl (q_asr rfl rfl) ?_
  refine s_q rfl rfl (q_call rfl rfl rfl rfl (pf_toNumN _ _ hb1)) ?_
  refine s_s rfl rfl (as_alloc0 (id := 1) rfl rfl (by exact (rfl : _ = [_, _, _, _, _, _, _, _, _, _]))) ?_
  refine s_u rfl rfl (as_st rfl rfl (by first | exact (rfl : _ = D.agg [_, _, _, _, _, _, _, _, _, _]) | exact rfl) rfl (by exact rfl) (by exact rfl) (by exact Nat.le_of_ble_eq_true rfl) (by exact (rfl : _ = [_, _, _, _, _, _, _, _, _, _]))) ?_
  refine s_nil (n_n (w_seq (w_seq (w_reg (s_q rfl rfl (q_field rfl rfl (by exact rfl)) ?_)))))
  refine s_q rfl rfl (q_load rfl rfl (by exact (rfl : _ = some (D.sc _)))) ?_
  refine s_q rfl rfl (q_eql rfl rfl rfl) ?_
  refine s_nil (n_n (w_ifF rfl (w_skip (n_n (w_seq (w_reg (s_q rfl rfl (q_mv (.inl rfl) (by first | exact is_box rfl | exact is_hp rfl | exact is_pin rfl | exact is_sc rfl | exact rfl)) ?_)))))))
  refine s_o rfl rfl (ao_callH rfl rfl rfl rfl (pf_Back _ k _ H (by simp) (by simp)) fun vbk Hvbk hvbk => ?_)
  obtain ⟨rfl, rfl⟩ := hvbk
  refine s_q rfl rfl (q_nil rfl rfl rfl) ?_
  refine s_q rfl rfl (q_field rfl rfl (by exact rfl)) ?_
  refine s_q rfl rfl (q_loadH rfl rfl (d := .ifc 61 (fNum b2).d) (by exact H.val _ (by simp))) ?_
  refine s_q rfl rfl (q_asr rfl rfl) ?_
  refine s_q rfl rfl (q_call rfl rfl rfl rfl (pf_toNumN _ _ hb2)) ?_
  refine s_s rfl rfl (as_alloc0 (id := 2) rfl rfl (by exact (rfl : _ = [_, _, _, _, _, _, _, _, _, _]))) ?_
  refine s_u rfl rfl (as_st rfl rfl (by first | exact (rfl : _ = D.agg [_, _, _, _, _, _, _, _, _, _]) | exact rfl) rfl (by exact rfl) (by exact rfl) (by exact Nat.le_of_ble_eq_true rfl) (by exact (rfl : _ = [_, _, _, _, _, _, _, _, _, _]))) ?_
  refine s_nil (n_n (w_seq (w_seq (w_reg (s_q rfl rfl (q_field rfl rfl (by exact rfl)) ?_)))))
  refine s_q rfl rfl (q_load rfl rfl (by exact (rfl : _ = some (D.sc _)))) ?_
  refine s_q rfl rfl (q_eql rfl rfl rfl) ?_
  refine s_nil (n_n (w_ifF rfl (w_skip (n_n (w_seq (w_seq (w_reg (s_q rfl rfl (q_field rfl rfl (by exact rfl)) ?_))))))))
  refine s_q rfl rfl (q_load rfl rfl (by exact (rfl : _ = some (D.sc _)))) ?_
  refine s_q rfl rfl (q_fcmpV rfl rfl rfl rfl hz) ?_
  refine s_nil (n_n (w_ifT rfl (w_seq (w_reg (s_q rfl rfl (q_call rfl rfl rfl rfl (pf_newErr _ _)) ?_)))))
  refine s_u rfl rfl (as_st rfl rfl (by first | exact (rfl : _ = D.agg [_, _, _, _, _, _, _, _, _, _]) | exact rfl) rfl (by exact rfl) (by exact rfl) (by exact Nat.le_of_ble_eq_true rfl) (by exact (rfl : _ = [_, _, _, _, _, _, _, _, _, _]))) ?_
  refine s_nil (n_n (w_ret (n_r ?_)))
  -- end 0
  refine r_r (ra_cell (by exact (rfl : _ = some (D.agg [_, _, _, _, _, _, _, _, _, _]))) ra_nil) (by first | exact (rfl : _ = D.agg [_, _, _, _, _, _, _, _, _, _]) | exact rfl) (by exact rfl) (Sub.refl _) ?_
  rfl


-- (*pub-tallysheet/pub/excelize.formulaFuncs).MOD
theorem pf_MODN {b1 b2 : Nat} (h : Heap) (kf k : Nat) (es : List (Nat × D)) (H : IsList h k es) (hes : es.map (·.2) = [.ifc 61 (fNum b1).d, .ifc 61 (fNum b2).d]) {x1 x2 : Int} (hb1 : Fx b1 x1) (hb2 : Fx b2 x2) (hz : fcmp .eql .f64 (clean b2) 0 = false) (q r : Nat) (y : Int) (hq : floatBits .quo .f64 (clean b1) (clean b2) = some q) (hqy : Fx q y) (hr : floatBits .sub .f64 q (truncF q) = some r) (hrb : r < 2 ^ 64) (hf : fcmp .lss .f64 (q / 2 ^ 63 * 2 ^ 63 + r % 2 ^ 63) 0 = false) {m w : Nat} {z : Int} (hm : floatBits .mul .f64 (clean b2) (truncF q) = some m) (hv : floatBits .sub .f64 (clean b1) m = some w) (hw : Fx w z) : ACall Tryz.prog G 43 true [.hp kf 0, .hp k 0] h (fun ret _ => ret = (fNum (clean w)).d) := by
  obtain ⟨e1, e2, rfl⟩ : ∃ e1 e2, es = [(e1, .ifc 61 (fNum b1).d), (e2, .ifc 61 (fNum b2).d)] := by
    cases es with
    | nil => simp at hes
    | cons p es =>
      cases es with
      | nil => simp at hes
      | cons q es =>
        cases es with
        | nil => obtain ⟨e1, x⟩ := p; obtain ⟨e2, y⟩ := q; simp at hes; obtain ⟨rfl, rfl⟩ := hes; exact ⟨e1, e2, rfl⟩
        | cons _ _ => simp at hes
  refine ACall.intro rfl Tryz.func43 rfl (Nat.le_of_ble_eq_true rfl) rfl ?_
  refine w_seq (w_reg (s_s rfl rfl (as_alloc0 (id := 0) rfl rfl (by exact (rfl : _ = [_, _, _, _, _, _, _, _, _, _]))) ?_))
  refine s_nil (n_n (w_seq (w_seq (w_reg (s_q rfl rfl (q_mv (.inl rfl) (by first | exact is_box rfl | exact is_hp rfl | exact is_pin rfl | exact is_sc rfl | exact rfl)) ?_)))))
  refine s_o rfl rfl (ao_callH rfl rfl rfl rfl (pf_Len _ k _ H) fun vln Hvln hvln => ?_)
  obtain ⟨rfl, rfl⟩ := hvln
  refine s_q rfl rfl (q_neq rfl rfl rfl) ?_
  refine s_nil (n_n (w_ifF rfl (w_skip (n_n (w_seq (w_reg (s_q rfl rfl (q_mv (.inl rfl) (by first | exact is_box rfl | exact is_hp rfl | exact is_pin rfl | exact is_sc rfl | exact rfl)) ?_)))))))
  refine s_o rfl rfl (ao_callH rfl rfl rfl rfl (pf_Front _ k _ H (by simp) (by simp)) fun vfr Hvfr hvfr => ?_)
  obtain ⟨rfl, rfl⟩ := hvfr
  refine s_q rfl rfl (q_nil rfl rfl rfl) ?_
  refine s_q rfl rfl (q_field rfl rfl (by exact rfl)) ?_
  refine s_q rfl rfl (q_loadH rfl rfl (d := .ifc 61 (fNum b1).d) (by exact H.val _ (by simp))) ?_
  refine s_q rfl rfl (q_asr rfl rfl) ?_
  refine s_q rfl rfl (q_call rfl rfl rfl rfl (pf_toNumN _ _ hb1)) ?_
  refine s_s rfl rfl (as_alloc0 (id := 1) rfl rfl (by exact (rfl : _ = [_, _, _, _, _, _, _, _, _, _]))) ?_
  refine s_u rfl rfl (as_st rfl rfl (by first | exact (rfl : _ = D.agg [_, _, _, _, _, _, _, _, _, _]) | exact rfl) rfl (by exact rfl) (by exact rfl) (by exact Nat.le_of_ble_eq_true rfl) (by exact (rfl : _ = [_, _, _, _, _, _, _, _, _, _]))) ?_
  refine s_nil (n_n (w_seq (w_seq (w_reg (s_q rfl rfl (q_field rfl rfl (by exact rfl)) ?_)))))
  refine s_q rfl rfl (q_load rfl rfl (by exact (rfl : _ = some (D.sc _)))) ?_
  refine s_q rfl rfl (q_eql rfl rfl rfl) ?_
  refine s_nil (n_n (w_ifF rfl (w_skip (n_n (w_seq (w_reg (s_q rfl rfl (q_mv (.inl rfl) (by first | exact is_box rfl | exact is_hp rfl | exact is_pin rfl | exact is_sc rfl | exact rfl)) ?_)))))))
  refine s_o rfl rfl (ao_callH rfl rfl rfl rfl (pf_Back _ k _ H (by simp) (by simp)) fun vbk Hvbk hvbk => ?_)
  obtain ⟨rfl, rfl⟩ := hvbk
  refine s_q rfl rfl (q_nil rfl rfl rfl) ?_
  refine s_q rfl rfl (q_field rfl rfl (by exact rfl)) ?_
  refine s_q rfl rfl (q_loadH rfl rfl (d := .ifc 61 (fNum b2).d) (by exact H.val _ (by simp))) ?_
  refine s_q rfl rfl (q_asr rfl rfl) ?_
  refine s_q rfl rfl (q_call rfl rfl rfl rfl (pf_toNumN _ _ hb2)) ?_
  refine s_s rfl rfl (as_alloc0 (id := 2) rfl rfl (by exact (rfl : _ = [_, _, _, _, _, _, _, _, _, _]))) ?_
  refine s_u rfl rfl (as_st rfl rfl (by first | exact (rfl : _ = D.agg [_, _, _, _, _, _, _, _, _, _]) | exact rfl) rfl (by exact rfl) (by exact rfl) (by exact Nat.le_of_ble_eq_true rfl) (by exact (rfl : _ = [_, _, _, _, _, _, _, _, _, _]))) ?_
  refine s_nil (n_n (w_seq (w_seq (w_reg (s_q rfl rfl (q_field rfl rfl (by exact rfl)) ?_)))))
  refine s_q rfl rfl (q_load rfl rfl (by exact (rfl : _ = some (D.sc _)))) ?_
  refine s_q rfl rfl (q_eql rfl rfl rfl) ?_
  refine s_nil (n_n (w_ifF rfl (w_skip (n_n (w_seq (w_seq (w_reg (s_q rfl rfl (q_field rfl rfl (by exact rfl)) ?_))))))))
  refine s_q rfl rfl (q_load rfl rfl (by exact (rfl : _ = some (D.sc _)))) ?_
  refine s_q rfl rfl (q_fcmpV rfl rfl rfl rfl hz) ?_
  refine s_nil (n_n (w_ifF rfl (w_skip (n_n (w_seq (w_reg (s_q rfl rfl (q_field rfl rfl (by exact rfl)) ?_)))))))
  refine s_q rfl rfl (q_load rfl rfl (by exact (rfl : _ = some (D.sc _)))) ?_
  refine s_q rfl rfl (q_field rfl rfl (by exact rfl)) ?_
  refine s_q rfl rfl (q_load rfl rfl (by exact (rfl : _ = some (D.sc _)))) ?_
  refine s_q rfl rfl (q_farith rfl rfl rfl hq) ?_
  refine s_q rfl rfl (q_call rfl rfl rfl rfl (pf_Modf _ r _ (bits_lt hq) hqy hr hrb)) ?_
  refine s_q rfl rfl (q_mv (.inl rfl) (by first | exact (rfl : _ = D.tup [_, _]) | exact rfl)) ?_
  refine s_q rfl rfl (q_extract rfl rfl rfl) ?_
  refine s_q rfl rfl (q_extract rfl rfl rfl) ?_
  refine s_q rfl rfl (q_mv (.inr rfl) (is_sc rfl)) ?_
  refine s_q rfl rfl (q_mv (.inr rfl) (is_sc rfl)) ?_
  refine s_nil (n_n (w_seq (w_seq (w_reg (s_q rfl rfl (q_mv (.inl rfl) (is_sc rfl)) ?_)))))
  refine s_q rfl rfl (q_fcmpV rfl rfl rfl rfl hf) ?_
  refine s_nil (n_n (w_ifF rfl (w_skip (n_n (w_seq (w_reg (s_q rfl rfl (q_field rfl rfl (by exact rfl)) ?_)))))))
  refine s_q rfl rfl (q_load rfl rfl (by exact (rfl : _ = some (D.sc _)))) ?_
  refine s_q rfl rfl (q_field rfl rfl (by exact rfl)) ?_
  refine s_q rfl rfl (q_load rfl rfl (by exact (rfl : _ = some (D.sc _)))) ?_
  refine s_q rfl rfl (q_mv (.inl rfl) (is_sc rfl)) ?_
  refine s_q rfl rfl (q_farith rfl rfl rfl hm) ?_
  refine s_q rfl rfl (q_farith rfl rfl rfl hv) ?_
  refine s_q rfl rfl (q_call rfl rfl rfl rfl (pf_newNum _ _ hw)) ?_
  refine s_u rfl rfl (as_st rfl rfl (by first | exact (rfl : _ = D.agg [_, _, _, _, _, _, _, _, _, _]) | exact rfl) rfl (by exact rfl) (by exact rfl) (by exact Nat.le_of_ble_eq_true rfl) (by exact (rfl : _ = [_, _, _, _, _, _, _, _, _, _]))) ?_
  refine s_nil (n_n (w_ret ?_))
  -- end 0
  refine r_r (ra_cell (by exact (rfl : _ = some (D.agg [_, _, _, _, _, _, _, _, _, _]))) ra_nil) (by first | exact (rfl : _ = D.agg [_, _, _, _, _, _, _, _, _, _]) | exact rfl) (by exact rfl) (Sub.refl _) ?_
  rfl


-- (*pub-tallysheet/pub/excelize.formulaFuncs).MOD
theorem pf_MODL {b1 b2 : Nat} (h : Heap) (kf k : Nat) (es : List (Nat × D)) (H : IsList h k es) (hes : es.map (·.2) = [.ifc 61 (fNum b1).d, .ifc 61 (fNum b2).d]) {x1 x2 : Int} (hb1 : Fx b1 x1) (hb2 : Fx b2 x2) (hz : fcmp .eql .f64 (clean b2) 0 = false) (q r : Nat) (y : Int) (hq : floatBits .quo .f64 (clean b1) (clean b2) = some q) (hqy : Fx q y) (hr : floatBits .sub .f64 q (truncF q) = some r) (hrb : r < 2 ^ 64) (hf : fcmp .lss .f64 (q / 2 ^ 63 * 2 ^ 63 + r % 2 ^ 63) 0 = true) {t m w : Nat} {z : Int} (ht : floatBits .sub .f64 (truncF q) 4607182418800017408 = some t) (hm : floatBits .mul .f64 (clean b2) t = some m) (hv : floatBits .sub .f64 (clean b1) m = some w) (hw : Fx w z) : ACall Tryz.prog G 43 true [.hp kf 0, .hp k 0] h (fun ret _ => ret = (fNum (clean w)).d) := by
  obtain ⟨e1, e2, rfl⟩ : ∃ e1 e2, es = [(e1, .ifc 61 (fNum b1).d), (e2, .ifc 61 (fNum b2).d)] := by
    cases es with
    | nil => simp at hes
    | cons p es =>
      cases es with
      | nil => simp at hes
      | cons q es =>
        cases es with
        | nil => obtain ⟨e1, x⟩ := p; obtain ⟨e2, y⟩ := q; simp at hes; obtain ⟨rfl, rfl⟩ := hes; exact ⟨e1, e2, rfl⟩
        | cons _ _ => simp at hes
  refine ACall.intro rfl Tryz.func43 rfl (Nat.le_of_ble_eq_true rfl) rfl ?_
  refine w_seq (w_reg (s_s rfl rfl (as_alloc0 (id := 0) rfl rfl (by exact (rfl : _ = [_, _, _, _, _, _, _, _, _, _]))) ?_))
  refine s_nil (n_n (w_seq (w_seq (w_reg (s_q rfl rfl (q_mv (.inl rfl) (by first | exact is_box rfl | exact is_hp rfl | exact is_pin rfl | exact is_sc rfl | exact rfl)) ?_)))))
  refine s_o rfl rfl (ao_callH rfl rfl rfl rfl (pf_Len _ k _ H) fun vln Hvln hvln => ?_)
  obtain ⟨rfl, rfl⟩ := hvln
  refine s_q rfl rfl (q_neq rfl rfl rfl) ?_
  refine s_nil (n_n (w_ifF rfl (w_skip (n_n (w_seq (w_reg (s_q rfl rfl (q_mv (.inl rfl) (by first | exact is_box rfl | exact is_hp rfl | exact is_pin rfl | exact is_sc rfl | exact rfl)) ?_)))))))
  refine s_o rfl rfl (ao_callH rfl rfl rfl rfl (pf_Front _ k _ H (by simp) (by simp)) fun vfr Hvfr hvfr => ?_)
  obtain ⟨rfl, rfl⟩ := hvfr
  refine s_q rfl rfl (q_nil rfl rfl rfl) ?_
  refine s_q rfl rfl (q_field rfl rfl (by exact rfl)) ?_
  refine s_q rfl rfl (q_loadH rfl rfl (d := .ifc 61 (fNum b1).d) (by exact H.val _ (by simp))) ?_
  refine s_q rfl rfl (q_asr rfl rfl) ?_
  refine s_q rfl rfl (q_call rfl rfl rfl rfl (pf_toNumN _ _ hb1)) ?_
  refine s_s rfl rfl (as_alloc0 (id := 1) rfl rfl (by exact (rfl : _ = [_, _, _, _, _, _, _, _, _, _]))) ?_
  refine s_u rfl rfl (as_st rfl rfl (by first | exact (rfl : _ = D.agg [_, _, _, _, _, _, _, _, _, _]) | exact rfl) rfl (by exact rfl) (by exact rfl) (by exact Nat.le_of_ble_eq_true rfl) (by exact (rfl : _ = [_, _, _, _, _, _, _, _, _, _]))) ?_
  refine s_nil (n_n (w_seq (w_seq (w_reg (s_q rfl rfl (q_field rfl rfl (by exact rfl)) ?_)))))
  refine s_q rfl rfl (q_load rfl rfl (by exact (rfl : _ = some (D.sc _)))) ?_
  refine s_q rfl rfl (q_eql rfl rfl rfl) ?_
  refine s_nil (n_n (w_ifF rfl (w_skip (n_n (w_seq (w_reg (s_q rfl rfl (q_mv (.inl rfl) (by first | exact is_box rfl | exact is_hp rfl | exact is_pin rfl | exact is_sc rfl | exact rfl)) ?_)))))))
  refine s_o rfl rfl (ao_callH rfl rfl rfl rfl (pf_Back _ k _ H (by simp) (by simp)) fun vbk Hvbk hvbk => ?_)
  obtain ⟨rfl, rfl⟩ := hvbk
  refine s_q rfl rfl (q_nil rfl rfl rfl) ?_
  refine s_q rfl rfl (q_field rfl rfl (by exact rfl)) ?_
  refine s_q rfl rfl (q_loadH rfl rfl (d := .ifc 61 (fNum b2).d) (by exact H.val _ (by simp))) ?_
  refine s_q rfl rfl (q_asr rfl rfl) ?_
  refine s_q rfl rfl (q_call rfl rfl rfl rfl (pf_toNumN _ _ hb2)) ?_
  refine s_s rfl rfl (as_alloc0 (id := 2) rfl rfl (by exact (rfl : _ = [_, _, _, _, _, _, _, _, _, _]))) ?_
  refine s_u rfl rfl (as_st rfl rfl (by first | exact (rfl : _ = D.agg [_, _, _, _, _, _, _, _, _, _]) | exact rfl) rfl (by exact rfl) (by exact rfl) (by exact Nat.le_of_ble_eq_true rfl) (by exact (rfl : _ = [_, _, _, _, _, _, _, _, _, _]))) ?_
  refine s_nil (n_n (w_seq (w_seq (w_reg (s_q rfl rfl (q_field rfl rfl (by exact rfl)) ?_)))))
  refine s_q rfl rfl (q_load rfl rfl (by exact (rfl : _ = some (D.sc _)))) ?_
  refine s_q rfl rfl (q_eql rfl rfl rfl) ?_
  refine s_nil (n_n (w_ifF rfl (w_skip (n_n (w_seq (w_seq (w_reg (s_q rfl rfl (q_field rfl rfl (by exact rfl)) ?_))))))))
  refine s_q rfl rfl (q_load rfl rfl (by exact (rfl : _ = some (D.sc _)))) ?_
  refine s_q rfl rfl (q_fcmpV rfl rfl rfl rfl hz) ?_
  refine s_nil (n_n (w_ifF rfl (w_skip (n_n (w_seq (w_reg (s_q rfl rfl (q_field rfl rfl (by exact rfl)) ?_)))))))
  refine s_q rfl rfl (q_load rfl rfl (by exact (rfl : _ = some (D.sc _)))) ?_
  refine s_q rfl rfl (q_field rfl rfl (by exact rfl)) ?_
  refine s_q rfl rfl (q_load rfl rfl (by exact (rfl : _ = some (D.sc _)))) ?_
  refine s_q rfl rfl (q_farith rfl rfl rfl hq) ?_
  refine s_q rfl rfl (q_call rfl rfl rfl rfl (pf_Modf _ r _ (bits_lt hq) hqy hr hrb)) ?_
  refine s_q rfl rfl (q_mv (.inl rfl) (by first | exact (rfl : _ = D.tup [_, _]) | exact rfl)) ?_
  refine s_q rfl rfl (q_extract rfl rfl rfl) ?_
  refine s_q rfl rfl (q_extract rfl rfl rfl) ?_
  refine s_q rfl rfl (q_mv (.inr rfl) (is_sc rfl)) ?_
  refine s_q rfl rfl (q_mv (.inr rfl) (is_sc rfl)) ?_
  refine s_nil (n_n (w_seq (w_seq (w_reg (s_q rfl rfl (q_mv (.inl rfl) (is_sc rfl)) ?_)))))
  refine s_q rfl rfl (q_fcmpV rfl rfl rfl rfl hf) ?_
  refine s_nil (n_n (w_ifT rfl (w_reg (s_q rfl rfl (q_mv (.inl rfl) (is_sc rfl)) ?_))))
  refine s_q rfl rfl (q_farith rfl rfl rfl ht) ?_
  refine s_q rfl rfl (q_mv (.inr rfl) (is_sc rfl)) ?_
  refine s_nil (n_n (w_seq (w_reg (s_q rfl rfl (q_field rfl rfl (by exact rfl)) ?_))))
  refine s_q rfl rfl (q_load rfl rfl (by exact (rfl : _ = some (D.sc _)))) ?_
  refine s_q rfl rfl (q_field rfl rfl (by exact rfl)) ?_
  refine s_q rfl rfl (q_load rfl rfl (by exact (rfl : _ = some (D.sc _)))) ?_
  refine s_q rfl rfl (q_mv (.inl rfl) (is_sc rfl)) ?_
  refine s_q rfl rfl (q_farith rfl rfl rfl hm) ?_
  refine s_q rfl rfl (q_farith rfl rfl rfl hv) ?_
  refine s_q rfl rfl (q_call rfl rfl rfl rfl (pf_newNum _ _ hw)) ?_
  refine s_u rfl rfl (as_st rfl rfl (by first | exact (rfl : _ = D.agg [_, _, _, _, _, _, _, _, _, _]) | exact rfl) rfl (by exact rfl) (by exact rfl) (by exact Nat.le_of_ble_eq_true rfl) (by exact (rfl : _ = [_, _, _, _, _, _, _, _, _, _]))) ?_
  refine s_nil (n_n (w_ret ?_))
  -- end 0
  refine r_r (ra_cell (by exact (rfl : _ = some (D.agg [_, _, _, _, _, _, _, _, _, _]))) ra_nil) (by first | exact (rfl : _ = D.agg [_, _, _, _, _, _, _, _, _, _]) | exact rfl) (by exact rfl) (Sub.refl _) ?_
  rfl


-- pub-tallysheet/pub/excelize.DoorMOD
theorem pf_DoorMODZ (b1 b2 : Nat) (x1 x2 : Int) (hx1 : Fx b1 x1) (hx2 : Fx b2 x2) (hz : fcmp .eql .f64 (clean (clean b2)) 0 = true) : PF Tryz.prog G 29 [ilst [iNum b1, iNum b2]] (iErr [35, 68, 73, 86, 47, 48, 33]).d := by
  refine PC.intro rfl Tryz.func29 rfl (Nat.le_of_ble_eq_true rfl) rfl ?_
  refine w_seq (w_reg (s_s rfl rfl (as_alloc0 (id := 0) rfl rfl (by exact (rfl : _ = [_, _, _, _]))) ?_))
  refine s_nil (n_n (w_seq (w_reg (s_o rfl rfl (ao_callH rfl rfl rfl rfl (pf_doorFuncs _) fun v3 Hv3 hv3 => ?_)))))
  obtain ⟨kf, rfl⟩ := hv3
  refine s_q rfl rfl (q_mv (.inl rfl) (by first | exact is_im rfl | exact is_gs rfl | exact is_lit rfl | exact is_ms rfl | exact is_sc rfl | exact rfl)) ?_
  refine s_o rfl rfl (ao_callH rfl rfl rfl rfl (pf_innerList _ [iNum b1, iNum b2] (by simp only [List.length_cons, List.length_nil]; omega) (fun v => fNum (clean v.num)) (fun v hv => by simp only [List.mem_cons, List.mem_nil_iff, or_false] at hv; rcases hv with rfl | rfl <;> first | exact pf_innerN b1 _ hx1 | exact pf_innerN b2 _ hx2)) fun v5 Hv5 hv5 => ?_)
  obtain ⟨kl, es, rfl, hL, hes⟩ := hv5
  refine s_o rfl rfl (ao_callH rfl rfl rfl rfl (pf_MODZ _ kf kl es hL hes (fx_clean hx1) (fx_clean hx2) hz) fun v6 Hv6 hv6 => ?_)
  obtain rfl := hv6
  refine s_q rfl rfl (q_call rfl rfl rfl rfl (pf_doorE _ _)) ?_
  refine s_u rfl rfl (as_st rfl rfl (by first | exact (rfl : _ = D.agg [_, _, _, _]) | exact rfl) rfl (by exact rfl) (by exact rfl) (by exact Nat.le_of_ble_eq_true rfl) (by exact (rfl : _ = [_, _, _, _]))) ?_
  refine s_nil (n_n (w_ret ?_))
  -- end 0
  refine r_r (ra_cell (by exact (rfl : _ = some (D.agg [_, _, _, _]))) ra_nil) (by first | exact (rfl : _ = D.agg [_, _, _, _]) | exact rfl) (by exact rfl) sub_no ?_
  rfl


-- pub-tallysheet/impl.MOD
theorem pf_ImplMODZ (b1 b2 : Nat) (x1 x2 : Int) (hx1 : Fx b1 x1) (hx2 : Fx b2 x2) (hz : fcmp .eql .f64 (clean (clean b2)) 0 = true) : PF Tryz.prog G 13 [ilst [iNum b1, iNum b2]] (iErr [35, 68, 73, 86, 47, 48, 33]).d := by
  refine PC.intro rfl Tryz.func13 rfl (Nat.le_of_ble_eq_true rfl) rfl ?_
  refine w_seq (w_reg (s_s rfl rfl (as_alloc0 (id := 0) rfl rfl (by exact (rfl : _ = [_, _, _, _]))) ?_))
  refine s_nil (n_n (w_seq (w_reg (s_q rfl rfl (q_mv (.inl rfl) (by first | exact is_im rfl | exact is_gs rfl | exact is_lit rfl | exact is_ms rfl | exact is_sc rfl | exact rfl)) ?_))))
  refine s_q rfl rfl (q_call rfl rfl rfl rfl (pf_in [iNum b1, iNum b2] (by simp only [List.length_cons, List.length_nil]; omega) (by intro v hv; simp only [List.mem_cons, List.mem_nil_iff, or_false] at hv; rcases hv with rfl | rfl <;> rfl))) ?_
  refine s_q rfl rfl (q_call rfl rfl rfl rfl (pf_DoorMODZ b1 b2 x1 x2 hx1 hx2 hz)) ?_
  refine s_q rfl rfl (q_call rfl rfl rfl rfl (pf_out _ _ _)) ?_
  refine s_u rfl rfl (as_st rfl rfl (by first | exact (rfl : _ = D.agg [_, _, _, _]) | exact rfl) rfl (by exact rfl) (by exact rfl) (by exact Nat.le_of_ble_eq_true rfl) (by exact (rfl : _ = [_, _, _, _]))) ?_
  refine s_nil (n_n (w_ret ?_))
  -- end 0
  refine r_r (ra_cell (by exact (rfl : _ = some (D.agg [_, _, _, _]))) ra_nil) (by first | exact (rfl : _ = D.agg [_, _, _, _]) | exact rfl) (by exact rfl) sub_no ?_
  rfl


-- pub-tallysheet/pub/excelize.DoorMOD
theorem pf_DoorMODN (b1 b2 : Nat) (x1 x2 : Int) (hx1 : Fx b1 x1) (hx2 : Fx b2 x2) (hz : fcmp .eql .f64 (clean (clean b2)) 0 = false) (q r : Nat) (y : Int) (hq : floatBits .quo .f64 (clean (clean b1)) (clean (clean b2)) = some q) (hqy : Fx q y) (hr : floatBits .sub .f64 q (truncF q) = some r) (hrb : r < 2 ^ 64) (hf : fcmp .lss .f64 (q / 2 ^ 63 * 2 ^ 63 + r % 2 ^ 63) 0 = false) (m w : Nat) (z : Int) (hm : floatBits .mul .f64 (clean (clean b2)) (truncF q) = some m) (hv : floatBits .sub .f64 (clean (clean b1)) m = some w) (hw : Fx w z) : PF Tryz.prog G 29 [ilst [iNum b1, iNum b2]] (iNum (clean w)).d := by
  refine PC.intro rfl Tryz.func29 rfl (Nat.le_of_ble_eq_true rfl) rfl ?_
  refine w_seq (w_reg (s_s rfl rfl (as_alloc0 (id := 0) rfl rfl (by exact (rfl : _ = [_, _, _, _]))) ?_))
  refine s_nil (n_n (w_seq (w_reg (s_o rfl rfl (ao_callH rfl rfl rfl rfl (pf_doorFuncs _) fun v3 Hv3 hv3 => ?_)))))
  obtain ⟨kf, rfl⟩ := hv3
  refine s_q rfl rfl (q_mv (.inl rfl) (by first | exact is_im rfl | exact is_gs rfl | exact is_lit rfl | exact is_ms rfl | exact is_sc rfl | exact rfl)) ?_
  refine s_o rfl rfl (ao_callH rfl rfl rfl rfl (pf_innerList _ [iNum b1, iNum b2] (by simp only [List.length_cons, List.length_nil]; omega) (fun v => fNum (clean v.num)) (fun v hv => by simp only [List.mem_cons, List.mem_nil_iff, or_false] at hv; rcases hv with rfl | rfl <;> first | exact pf_innerN b1 _ hx1 | exact pf_innerN b2 _ hx2)) fun v5 Hv5 hv5 => ?_)
  obtain ⟨kl, es, rfl, hL, hes⟩ := hv5
  refine s_o rfl rfl (ao_callH rfl rfl rfl rfl (pf_MODN _ kf kl es hL hes (fx_clean hx1) (fx_clean hx2) hz q r y hq hqy hr hrb hf hm hv hw) fun v6 Hv6 hv6 => ?_)
  obtain rfl := hv6
  refine s_q rfl rfl (q_call rfl rfl rfl rfl (pf_doorN _)) ?_
  refine s_u rfl rfl (as_st rfl rfl (by first | exact (rfl : _ = D.agg [_, _, _, _]) | exact rfl) rfl (by exact rfl) (by exact rfl) (by exact Nat.le_of_ble_eq_true rfl) (by exact (rfl : _ = [_, _, _, _]))) ?_
  refine s_nil (n_n (w_ret ?_))
  -- end 0
  refine r_r (ra_cell (by exact (rfl : _ = some (D.agg [_, _, _, _]))) ra_nil) (by first | exact (rfl : _ = D.agg [_, _, _, _]) | exact rfl) (by exact rfl) sub_no ?_
  rfl


-- pub-tallysheet/impl.MOD
theorem pf_ImplMODN (b1 b2 : Nat) (x1 x2 : Int) (hx1 : Fx b1 x1) (hx2 : Fx b2 x2) (hz : fcmp .eql .f64 (clean (clean b2)) 0 = false) (q r : Nat) (y : Int) (hq : floatBits .quo .f64 (clean (clean b1)) (clean (clean b2)) = some q) (hqy : Fx q y) (hr : floatBits .sub .f64 q (truncF q) = some r) (hrb : r < 2 ^ 64) (hf : fcmp .lss .f64 (q / 2 ^ 63 * 2 ^ 63 + r % 2 ^ 63) 0 = false) (m w : Nat) (z : Int) (hm : floatBits .mul .f64 (clean (clean b2)) (truncF q) = some m) (hv : floatBits .sub .f64 (clean (clean b1)) m = some w) (hw : Fx w z) : PF Tryz.prog G 13 [ilst [iNum b1, iNum b2]] (iNum (clean w)).d := by
  refine PC.intro rfl Tryz.func13 rfl (Nat.le_of_ble_eq_true rfl) rfl ?_
  refine w_seq (w_reg (s_s rfl rfl (as_alloc0 (id := 0) rfl rfl (by exact (rfl : _ = [_, _, _, _]))) ?_))
  refine s_nil (n_n (w_seq (w_reg (s_q rfl rfl (q_mv (.inl rfl) (by first | exact is_im rfl | exact is_gs rfl | exact is_lit rfl | exact is_ms rfl | exact is_sc rfl | exact rfl)) ?_))))
  refine s_q rfl rfl (q_call rfl rfl rfl rfl (pf_in [iNum b1, iNum b2] (by simp only [List.length_cons, List.length_nil]; omega) (by intro v hv; simp only [List.mem_cons, List.mem_nil_iff, or_false] at hv; rcases hv with rfl | rfl <;> rfl))) ?_
  refine s_q rfl rfl (q_call rfl rfl rfl rfl (pf_DoorMODN b1 b2 x1 x2 hx1 hx2 hz q r y hq hqy hr hrb hf m w z hm hv hw)) ?_
  refine s_q rfl rfl (q_call rfl rfl rfl rfl (pf_out _ _ _)) ?_
  refine s_u rfl rfl (as_st rfl rfl (by first | exact (rfl : _ = D.agg [_, _, _, _]) | exact rfl) rfl (by exact rfl) (by exact rfl) (by exact Nat.le_of_ble_eq_true rfl) (by exact (rfl : _ = [_, _, _, _]))) ?_
  refine s_nil (n_n (w_ret ?_))
  -- end 0
  refine r_r (ra_cell (by exact (rfl : _ = some (D.agg [_, _, _, _]))) ra_nil) (by first | exact (rfl : _ = D.agg [_, _, _, _]) | exact rfl) (by exact rfl) sub_no ?_
  rfl


-- pub-tallysheet/pub/excelize.DoorMOD
theorem pf_DoorMODL (b1 b2 : Nat) (x1 x2 : Int) (hx1 : Fx b1 x1) (hx2 : Fx b2 x2) (hz : fcmp .eql .f64 (clean (clean b2)) 0 = false) (q r : Nat) (y : Int) (hq : floatBits .quo .f64 (clean (clean b1)) (clean (clean b2)) = some q) (hqy : Fx q y) (hr : floatBits .sub .f64 q (truncF q) = some r) (hrb : r < 2 ^ 64) (hf : fcmp .lss .f64 (q / 2 ^ 63 * 2 ^ 63 + r % 2 ^ 63) 0 = true) (t m w : Nat) (z : Int) (ht : floatBits .sub .f64 (truncF q) 4607182418800017408 = some t) (hm : floatBits .mul .f64 (clean (clean b2)) t = some m) (hv : floatBits .sub .f64 (clean (clean b1)) m = some w) (hw : Fx w z) : PF Tryz.prog G 29 [ilst [iNum b1, iNum b2]] (iNum (clean w)).d := by
  refine PC.intro rfl Tryz.func29 rfl (Nat.le_of_ble_eq_true rfl) rfl ?_
  refine w_seq (w_reg (s_s rfl rfl (as_alloc0 (id := 0) rfl rfl (by exact (rfl : _ = [_, _, _, _]))) ?_))
  refine s_nil (n_n (w_seq (w_reg (s_o rfl rfl (ao_callH rfl rfl rfl rfl (pf_doorFuncs _) fun v3 Hv3 hv3 => ?_)))))
  obtain ⟨kf, rfl⟩ := hv3
  refine s_q rfl rfl (q_mv (.inl rfl) (by first | exact is_im rfl | exact is_gs rfl | exact is_lit rfl | exact is_ms rfl | exact is_sc rfl | exact rfl)) ?_
  refine s_o rfl rfl (ao_callH rfl rfl rfl rfl (pf_innerList _ [iNum b1, iNum b2] (by simp only [List.length_cons, List.length_nil]; omega) (fun v => fNum (clean v.num)) (fun v hv => by simp only [List.mem_cons, List.mem_nil_iff, or_false] at hv; rcases hv with rfl | rfl <;> first | exact pf_innerN b1 _ hx1 | exact pf_innerN b2 _ hx2)) fun v5 Hv5 hv5 => ?_)
  obtain ⟨kl, es, rfl, hL, hes⟩ := hv5
  refine s_o rfl rfl (ao_callH rfl rfl rfl rfl (pf_MODL _ kf kl es hL hes (fx_clean hx1) (fx_clean hx2) hz q r y hq hqy hr hrb hf ht hm hv hw) fun v6 Hv6 hv6 => ?_)
  obtain rfl := hv6
  refine s_q rfl rfl (q_call rfl rfl rfl rfl (pf_doorN _)) ?_
  refine s_u rfl rfl (as_st rfl rfl (by first | exact (rfl : _ = D.agg [_, _, _, _]) | exact rfl) rfl (by exact rfl) (by exact rfl) (by exact Nat.le_of_ble_eq_true rfl) (by exact (rfl : _ = [_, _, _, _]))) ?_
  refine s_nil (n_n (w_ret ?_))
  -- end 0
  refine r_r (ra_cell (by exact (rfl : _ = some (D.agg [_, _, _, _]))) ra_nil) (by first | exact (rfl : _ = D.agg [_, _, _, _]) | exact rfl) (by exact rfl) sub_no ?_
  rfl


-- pub-tallysheet/impl.MOD
theorem pf_ImplMODL (b1 b2 : Nat) (x1 x2 : Int) (hx1 : Fx b1 x1) (hx2 : Fx b2 x2) (hz : fcmp .eql .f64 (clean (clean b2)) 0 = false) (q r : Nat) (y : Int) (hq : floatBits .quo .f64 (clean (clean b1)) (clean (clean b2)) = some q) (hqy : Fx q y) (hr : floatBits .sub .f64 q (truncF q) = some r) (hrb : r < 2 ^ 64) (hf : fcmp .lss .f64 (q / 2 ^ 63 * 2 ^ 63 + r % 2 ^ 63) 0 = true) (t m w : Nat) (z : Int) (ht : floatBits .sub .f64 (truncF q) 4607182418800017408 = some t) (hm : floatBits .mul .f64 (clean (clean b2)) t = some m) (hv : floatBits .sub .f64 (clean (clean b1)) m = some w) (hw : Fx w z) : PF Tryz.prog G 13 [ilst [iNum b1, iNum b2]] (iNum (clean w)).d := by
  refine PC.intro rfl Tryz.func13 rfl (Nat.le_of_ble_eq_true rfl) rfl ?_
  refine w_seq (w_reg (s_s rfl rfl (as_alloc0 (id := 0) rfl rfl (by exact (rfl : _ = [_, _, _, _]))) ?_))
  refine s_nil (n_n (w_seq (w_reg (s_q rfl rfl (q_mv (.inl rfl) (by first | exact is_im rfl | exact is_gs rfl | exact is_lit rfl | exact is_ms rfl | exact is_sc rfl | exact rfl)) ?_))))
  refine s_q rfl rfl (q_call rfl rfl rfl rfl (pf_in [iNum b1, iNum b2] (by simp only [List.length_cons, List.length_nil]; omega) (by intro v hv; simp only [List.mem_cons, List.mem_nil_iff, or_false] at hv; rcases hv with rfl | rfl <;> rfl))) ?_
  refine s_q rfl rfl (q_call rfl rfl rfl rfl (pf_DoorMODL b1 b2 x1 x2 hx1 hx2 hz q r y hq hqy hr hrb hf t m w z ht hm hv hw)) ?_
  refine s_q rfl rfl (q_call rfl rfl rfl rfl (pf_out _ _ _)) ?_
  refine s_u rfl rfl (as_st rfl rfl (by first | exact (rfl : _ = D.agg [_, _, _, _]) | exact rfl) rfl (by exact rfl) (by exact rfl) (by exact Nat.le_of_ble_eq_true rfl) (by exact (rfl : _ = [_, _, _, _]))) ?_
  refine s_nil (n_n (w_ret ?_))
  -- end 0
  refine r_r (ra_cell (by exact (rfl : _ = some (D.agg [_, _, _, _]))) ra_nil) (by first | exact (rfl : _ = D.agg [_, _, _, _]) | exact rfl) (by exact rfl) sub_no ?_
  rfl


theorem impl_MODZ {b1 b2 : Nat} {n k : Int} (hx1 : Fx b1 (n * (unit : Nat))) (hx2 : Fx b2 (k * (unit : Nat))) (h0 : k = 0) : PF Tryz.prog G 13 [ilst [iNum b1, iNum b2]] (iErr [35, 68, 73, 86, 47, 48, 33]).d :=
  pf_ImplMODZ b1 b2 _ _ hx1 hx2 (by rw [fcmp_eq (fx_clean (fx_clean hx2)) fx_zero, h0]; simp)
theorem impl_MOD {b1 b2 : Nat} {n k : Int} (hbb1 : b1 < 2 ^ 64) (hbb2 : b2 < 2 ^ 64) (hx1 : Fx b1 (n * (unit : Nat))) (hx2 : Fx b2 (k * (unit : Nat))) (h0 : ¬ k = 0) (hn : -1000000000 ≤ n ∧ n ≤ 1000000000) (hk : -1000000000 ≤ k ∧ k ≤ 1000000000) :
    ∃ r, Fx r (modI n k * (unit : Nat)) ∧ PF Tryz.prog G 13 [ilst [iNum b1, iNum b2]] (iNum r).d := by
  have hu := unit_pos
  have c1 := fx_clean (fx_clean hx1)
  have c2 := fx_clean (fx_clean hx2)
  have hz : fcmp .eql .f64 (clean (clean b2)) 0 = false := by
    rw [fcmp_eq c2 fx_zero]
    exact decide_eq_false (Int.mul_ne_zero h0 (by omega))
  obtain ⟨q, y, hq, hqy, hyt, hys⟩ := quo_whole c1 c2 h0 hn hk
  obtain ⟨r, hr, hrb, hfr⟩ := modfF (bits_lt hq) hqy
  have ht : Fy 0 (truncF q) (n.tdiv k) := by have := fx_truncF hqy; rw [hyt] at this; exact Fy.of this
  have hb := floor_bound h0 hn
  have hm := modI_spec h0 (n := n)
  have he := modI_eq h0 (n := n)
  have hf : fcmp .lss .f64 (q / 2 ^ 63 * 2 ^ 63 + r % 2 ^ 63) 0 = decide (¬ n.tmod k = 0 ∧ (n < 0 ↔ ¬ k < 0)) := by
    rw [(fcmp_lt hfr fx_zero).1]
    exact decide_eq_decide.2 hys
  have hmt := Int.tmod_add_mul_tdiv n k
  have hmb : (n.tmod k).natAbs ≤ n.natAbs := by rw [Int.natAbs_tmod]; exact Nat.mod_le _ _
  by_cases hc : ¬ n.tmod k = 0 ∧ (n < 0 ↔ ¬ k < 0)
  · rw [if_pos hc] at he
    obtain ⟨t, h1, h2⟩ := Fy.sub (k := 0) (by omega) ht fy_one (by omega)
    have e3 : k * (n.tdiv k - 1) = k * n.tdiv k - k := by rw [Int.mul_sub]; omega
    obtain ⟨m, h3, h4⟩ := Fy.mul (k := 0) (l := 0) (by omega) (Fy.of c2) h2 (by rw [e3]; omega)
    obtain ⟨w, h5, h6⟩ := Fy.sub (k := 0) (by omega) (Fy.of c1) h4 (by rw [e3]; omega)
    refine ⟨clean w, ?_, pf_ImplMODL b1 b2 _ _ hx1 hx2 hz q r y hq hqy hr hrb (by rw [hf, decide_eq_true hc]) t m w _ h1 h3 h5 h6.whole⟩
    rw [he]; exact fx_clean h6.whole
  · rw [if_neg hc] at he
    obtain ⟨m, h3, h4⟩ := Fy.mul (k := 0) (l := 0) (by omega) (Fy.of c2) ht (by omega)
    obtain ⟨w, h5, h6⟩ := Fy.sub (k := 0) (by omega) (Fy.of c1) h4 (by omega)
    refine ⟨clean w, ?_, pf_ImplMODN b1 b2 _ _ hx1 hx2 hz q r y hq hqy hr hrb (by rw [hf, decide_eq_false hc]) m w _ h3 h5 h6.whole⟩
    rw [he]; exact fx_clean h6.whole

end Go.Proofs.YtjobmjfdlkjaoaaGreatDoor.Zz
