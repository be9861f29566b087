/- Walks of the functions, printed by program, and the logic behind them: each theorem says what one function or one step answers. -/
import Derived.Test.YtpjckdhgefbonaaGreatDoorZN1
import Derived.Test.YtpjckdhgefbonaaGreatDoorZExt
namespace Go.Proofs.YtpjckdhgefbonaaGreatDoor.Zz
open Go.Abs
set_option maxRecDepth 100000
set_option linter.unusedVariables false
set_option linter.unusedSimpArgs false
set_option maxHeartbeats 4000000
variable {G : Nat → D}

-- (*container/list.List).Back
theorem pf_Back (h : Heap) (k : Nat) (es : List (Nat × D)) (H : IsList h k es) (h0 : 0 < es.length) (hb : es.length < 1000000000) : ACall Tryz.prog G 80 true [.hp k 0] h (fun v h' => v = .hp (es[es.length - 1]'(by omega)).1 0 ∧ h' = h) := by
  refine ACall.intro rfl Tryz.func80 rfl (Nat.le_of_ble_eq_true rfl) rfl ?_
  refine w_seq (w_reg (s_q rfl rfl (q_mv (.inr rfl) (by first | exact is_box rfl | exact is_hp rfl | exact is_pin rfl | exact is_sc rfl | exact rfl)) ?_))
  refine s_nil (n_n (w_seq (w_seq (w_reg (s_q rfl rfl (q_mv (.inl rfl) (by first | exact is_box rfl | exact is_hp rfl | exact is_pin rfl | exact is_sc rfl | exact rfl)) ?_)))))
  refine s_q rfl rfl (q_nil rfl rfl rfl) ?_
  refine s_q rfl rfl (q_field rfl rfl (by exact rfl)) ?_
  refine s_q rfl rfl (q_loadH rfl rfl H.n) ?_
  refine s_q rfl rfl (q_eql rfl rfl rfl) ?_
  refine s_nil (n_n (w_if (is_scb rfl) (fun h7 => ?_) (fun h7 => ?_)))
  · exact absurd (of_decide_eq_true h7) (by omega)
  · refine w_skip (n_n (w_seq (w_reg (s_q rfl rfl (q_mv (.inl rfl) (by first | exact is_box rfl | exact is_hp rfl | exact is_pin rfl | exact is_sc rfl | exact rfl)) ?_))))
    refine s_q rfl rfl (q_nil rfl rfl rfl) ?_
    refine s_q rfl rfl (q_field rfl rfl (by exact rfl)) ?_
    refine s_q rfl rfl (q_field rfl rfl (by exact rfl)) ?_
    refine s_q rfl rfl (q_loadH rfl rfl (d := .hp (es[es.length - 1].1) 0) (by have := H.prev es.length (Nat.le_refl _); rw [H.back, show es.length = es.length - 1 + 1 by omega, ring_at (by simp; omega), List.getElem_map] at this; exact this)) ?_
    refine s_q rfl rfl (q_mv (.inr rfl) (by first | exact is_box rfl | exact is_hp rfl | exact is_pin rfl | exact is_sc rfl | exact rfl)) ?_
    refine s_nil (n_n (w_ret ?_))
    -- end 0
    refine r_r (ra_tmp (by first | exact is_box rfl | exact is_hp rfl | exact is_pin rfl | exact is_sc rfl | exact rfl) ra_nil) (by first | exact is_box rfl | exact is_hp rfl | exact is_pin rfl | exact is_sc rfl | exact rfl) (by exact rfl) (Sub.refl _) ?_
    exact ⟨rfl, rfl⟩

end Go.Proofs.YtpjckdhgefbonaaGreatDoor.Zz
