/- Walks of the functions, printed by program: each theorem says what one function answers. -/
import Derived.Test.YtjobmjfdlkjaoaaGreatDoorZN1
import Derived.Test.YtjobmjfdlkjaoaaGreatDoorZExt
namespace Go.Proofs.YtjobmjfdlkjaoaaGreatDoor.Zz
open Go.Abs
set_option maxRecDepth 100000
set_option linter.unusedVariables false
set_option linter.unusedSimpArgs false
set_option maxHeartbeats 4000000
variable {G : Nat → D}
instance : XF Tryz.prog 144 Extern.MathFloatBits.float64bits := XF.of Tryz.func144 rfl rfl (by kernel_rfl) (by kernel_rfl)
instance : XF Tryz.prog 143 Extern.MathFloatBits.float64frombits := XF.of Tryz.func143 rfl rfl (by kernel_rfl) (by kernel_rfl)
instance : XF Tryz.prog 243 (Extern.MathFloor.toIntegral "math.archTrunc" .zero) := XF.of Tryz.func243 rfl rfl (by kernel_rfl) (by kernel_rfl)

-- math.Abs
theorem pf_Abs (b : Nat) (hb : b < 2 ^ 64) : PF Tryz.prog G 62 [fl b] (fl (b % 2 ^ 63)) := by
  refine PC.intro rfl Tryz.func62 rfl (Nat.le_of_ble_eq_true rfl) rfl ?_
  refine w_seq (w_reg (s_q rfl rfl (q_mv (.inr rfl) (is_sc rfl)) ?_))
  refine s_nil (n_n (w_seq (w_reg (s_q rfl rfl (q_mv (.inl rfl) (is_sc rfl)) ?_))))
  refine s_q rfl rfl (q_ext rfl rfl rfl (x_bits _)) ?_
  refine s_q rfl rfl (q_as (u64_eq (abs_word hb)) (q_andNot rfl rfl rfl)) ?_
  refine s_q rfl rfl (q_ext rfl rfl rfl (x_frombits _)) ?_
  refine s_q rfl rfl (q_mv (.inr rfl) (is_sc rfl)) ?_
  refine s_nil (n_n (w_ret ?_))
  -- end 0
  refine r_r (ra_tmp (is_sc rfl) ra_nil) (by exact (is_sc rfl)) (by exact rfl) sub_no ?_
  rfl


-- math.Signbit
theorem pf_Signbit (b : Nat) (hb : b < 2 ^ 64) : PF Tryz.prog G 66 [fl b] (bl (decide (b / 2 ^ 63 = 1))) := by
  refine PC.intro rfl Tryz.func66 rfl (Nat.le_of_ble_eq_true rfl) rfl ?_
  refine w_seq (w_reg (s_q rfl rfl (q_mv (.inr rfl) (is_sc rfl)) ?_))
  refine s_nil (n_n (w_seq (w_reg (s_q rfl rfl (q_mv (.inl rfl) (is_sc rfl)) ?_))))
  refine s_q rfl rfl (q_ext rfl rfl rfl (x_bits _)) ?_
  refine s_q rfl rfl (q_cii rfl rfl) ?_
  refine s_q rfl rfl (q_as (bl_eq (signbit_word hb)) (q_lss rfl rfl rfl)) ?_
  refine s_q rfl rfl (q_mv (.inr rfl) (is_sc rfl)) ?_
  refine s_nil (n_n (w_ret ?_))
  -- end 0
  refine r_r (ra_tmp (is_sc rfl) ra_nil) (by exact (is_sc rfl)) (by exact rfl) sub_no ?_
  rfl


-- math.Copysign
theorem pf_Copysign (a b : Nat) (ha : a < 2 ^ 64) (hb : b < 2 ^ 64) : PF Tryz.prog G 153 [fl a, fl b] (fl (b / 2 ^ 63 * 2 ^ 63 + a % 2 ^ 63)) := by
  refine PC.intro rfl Tryz.func153 rfl (Nat.le_of_ble_eq_true rfl) rfl ?_
  refine w_seq (w_reg (s_q rfl rfl (q_mv (.inr rfl) (is_sc rfl)) ?_))
  refine s_nil (n_n (w_seq (w_reg (s_q rfl rfl (q_mv (.inl rfl) (is_sc rfl)) ?_))))
  refine s_q rfl rfl (q_ext rfl rfl rfl (x_bits _)) ?_
  refine s_q rfl rfl (q_as (u64_eq (abs_word ha)) (q_andNot rfl rfl rfl)) ?_
  refine s_q rfl rfl (q_mv (.inl rfl) (is_sc rfl)) ?_
  refine s_q rfl rfl (q_ext rfl rfl rfl (x_bits _)) ?_
  refine s_q rfl rfl (q_as (u64_eq (sign_word hb)) (q_and rfl rfl rfl)) ?_
  refine s_q rfl rfl (q_as (u64_eq (or_word (Nat.mod_lt _ (by decide)) hb)) (q_or rfl rfl rfl)) ?_
  refine s_q rfl rfl (q_ext rfl rfl rfl (x_frombits _)) ?_
  refine s_q rfl rfl (q_mv (.inr rfl) (is_sc rfl)) ?_
  refine s_nil (n_n (w_ret ?_))
  -- end 0
  refine r_r (ra_tmp (is_sc rfl) ra_nil) (by exact (is_sc rfl)) (by exact rfl) sub_no ?_
  rfl


-- math.Trunc
theorem pf_Trunc (b : Nat) (x : Int) (h : Fx b x) : PF Tryz.prog G 152 [fl b] (fl (truncF b)) := by
  refine PC.intro rfl Tryz.func152 rfl (Nat.le_of_ble_eq_true rfl) rfl ?_
  refine w_seq (w_reg (s_q rfl rfl (q_mv (.inr rfl) (is_sc rfl)) ?_))
  refine s_nil (n_n (w_seq (w_ifT rfl (w_seq (w_reg (s_q rfl rfl (q_mv (.inl rfl) (is_sc rfl)) ?_))))))
  refine s_q rfl rfl (q_ext rfl rfl rfl (x_trunc h)) ?_
  refine s_q rfl rfl (q_mv (.inr rfl) (is_sc rfl)) ?_
  refine s_nil (n_n (w_ret (n_r ?_)))
  -- end 0
  refine r_r (ra_tmp (is_sc rfl) ra_nil) (by exact (is_sc rfl)) (by exact rfl) sub_no ?_
  rfl


-- math.Modf
theorem pf_Modf (b r : Nat) (x : Int) (hb : b < 2 ^ 64) (h : Fx b x) (hr : floatBits .sub .f64 b (truncF b) = some r) (hrb : r < 2 ^ 64) : PF Tryz.prog G 67 [fl b] (.tup [fl (truncF b), fl (b / 2 ^ 63 * 2 ^ 63 + r % 2 ^ 63)]) := by
  refine PC.intro rfl Tryz.func67 rfl (Nat.le_of_ble_eq_true rfl) rfl ?_
  refine w_seq (w_reg (s_q rfl rfl (q_mv (.inr rfl) (is_sc rfl)) ?_))
  refine s_q rfl rfl (q_mv (.inr rfl) (is_sc rfl)) ?_
  refine s_nil (n_n (w_seq (w_reg (s_q rfl rfl (q_mv (.inl rfl) (is_sc rfl)) ?_))))
  refine s_q rfl rfl (q_call rfl rfl rfl rfl (pf_Trunc _ x h)) ?_
  refine s_q rfl rfl (q_mv (.inr rfl) (is_sc rfl)) ?_
  refine s_nil (n_n (w_seq (w_reg (s_q rfl rfl (q_mv (.inl rfl) (is_sc rfl)) ?_))))
  refine s_q rfl rfl (q_mv (.inl rfl) (is_sc rfl)) ?_
  refine s_q rfl rfl (q_farith rfl rfl rfl hr) ?_
  refine s_q rfl rfl (q_mv (.inl rfl) (is_sc rfl)) ?_
  refine s_q rfl rfl (q_call rfl rfl rfl rfl (pf_Copysign _ _ hrb hb)) ?_
  refine s_q rfl rfl (q_mv (.inr rfl) (is_sc rfl)) ?_
  refine s_nil (n_n (w_ret ?_))
  -- end 0
  refine r_r (ra_tmp (is_sc rfl) (ra_tmp (is_sc rfl) ra_nil)) (by exact (rfl : _ = D.tup [_, _])) (by exact rfl) sub_no ?_
  rfl


-- (*container/list.List).Back
theorem pf_Back (h : Heap) (k : Nat) (es : List (Nat × D)) (H : IsList h k es) (h0 : 0 < es.length) (hb : es.length < 1000000000) : ACall Tryz.prog G 68 true [.hp k 0] h (fun v h' => v = .hp (es[es.length - 1]'(by omega)).1 0 ∧ h' = h) := by
  refine ACall.intro rfl Tryz.func68 rfl (Nat.le_of_ble_eq_true rfl) rfl ?_
  refine w_seq (w_reg (s_q rfl rfl (q_mv (.inr rfl) (by first | exact is_box rfl | exact is_hp rfl | exact is_pin rfl | exact is_sc rfl | exact rfl)) ?_))
  refine s_nil (n_n (w_seq (w_seq (w_reg (s_q rfl rfl (q_mv (.inl rfl) (by first | exact is_box rfl | exact is_hp rfl | exact is_pin rfl | exact is_sc rfl | exact rfl)) ?_)))))
  refine s_q rfl rfl (q_nil rfl rfl rfl) ?_
  refine s_q rfl rfl (q_field rfl rfl (by exact rfl)) ?_
  refine s_q rfl rfl (q_loadH rfl rfl H.n) ?_
  refine s_q rfl rfl (q_eql rfl rfl rfl) ?_
  refine s_nil (n_n (w_if (is_scb rfl) (fun h7 => ?_) (fun h7 => ?_)))
  · exact absurd (of_decide_eq_true h7) (by omega)
  · refine w_skip (n_n (w_seq (w_reg (s_q rfl rfl (q_mv (.inl rfl) (by first | exact is_box rfl | exact is_hp rfl | exact is_pin rfl | exact is_sc rfl | exact rfl)) ?_))))
    refine s_q rfl rfl (q_nil rfl rfl rfl) ?_
    refine s_q rfl rfl (q_field rfl rfl (by exact rfl)) ?_
    refine s_q rfl rfl (q_field rfl rfl (by exact rfl)) ?_
    refine s_q rfl rfl (q_loadH rfl rfl (d := .hp (es[es.length - 1].1) 0) (by have := H.prev es.length (Nat.le_refl _); rw [H.back, show es.length = es.length - 1 + 1 by omega, ring_at (by simp; omega), List.getElem_map] at this; exact this)) ?_
    refine s_q rfl rfl (q_mv (.inr rfl) (by first | exact is_box rfl | exact is_hp rfl | exact is_pin rfl | exact is_sc rfl | exact rfl)) ?_
    refine s_nil (n_n (w_ret ?_))
    -- end 0
    refine r_r (ra_tmp (by first | exact is_box rfl | exact is_hp rfl | exact is_pin rfl | exact is_sc rfl | exact rfl) ra_nil) (by first | exact is_box rfl | exact is_hp rfl | exact is_pin rfl | exact is_sc rfl | exact rfl) (by exact rfl) (Sub.refl _) ?_
    exact ⟨rfl, rfl⟩

end Go.Proofs.YtjobmjfdlkjaoaaGreatDoor.Zz
