/- Walks of the functions, printed by program, and the logic behind them: each theorem says what one function or one step answers. -/
import Derived.Test.YtopgbalmdocboaaGreatDoorZWL
import Derived.Test.YtopgbalmdocboaaGreatDoorZTx
namespace Go.Proofs.YtopgbalmdocboaaGreatDoor.Zz
open Go.Abs
set_option maxRecDepth 100000
set_option linter.unusedVariables false
set_option linter.unusedSimpArgs false
set_option maxHeartbeats 4000000
variable {G : Nat → D}

-- (*container/list.Element).Next
theorem pf_NextA (h : Heap) (k : Nat) (es : List (Nat × D)) (H : IsList h k es) (i : Nat) (hi : i < es.length) (h1 : i + 1 < es.length) : ACall Tryz.prog G 68 true [.hp es[i].1 0] h (fun v h' => v = .hp es[i + 1].1 0 ∧ h' = h) := by
  have hr := ring_ne H h1
  have hnx : Heap.get h es[i].1 0 = some (.hp es[i + 1].1 0) := by have := H.next (i + 1) (by omega); rw [hr.1, ring_at (by simpa using hi), List.getElem_map] at this; exact this
  refine ACall.intro rfl Tryz.func68 rfl (Nat.le_of_ble_eq_true rfl) rfl ?_
  refine w_seq (w_reg (s_q rfl rfl (q_mv (.inr rfl) (by first | exact is_box rfl | exact is_hp rfl | exact is_pin rfl | exact is_sc rfl | exact rfl)) ?_))
  refine s_nil (n_n (w_seq (w_seq (w_reg (s_q rfl rfl (q_mv (.inl rfl) (by first | exact is_box rfl | exact is_hp rfl | exact is_pin rfl | exact is_sc rfl | exact rfl)) ?_)))))
  refine s_q rfl rfl (q_nil rfl rfl rfl) ?_
  refine s_q rfl rfl (q_field rfl rfl (by exact rfl)) ?_
  refine s_q rfl rfl (q_loadH rfl rfl (d := .hp es[i + 1].1 0) (by exact hnx)) ?_
  refine s_q rfl rfl (q_mv (.inr rfl) (by first | exact is_box rfl | exact is_hp rfl | exact is_pin rfl | exact is_sc rfl | exact rfl)) ?_
  refine s_nil (n_n (w_seq (w_reg (s_q rfl rfl (q_mv (.inl rfl) (by first | exact is_box rfl | exact is_hp rfl | exact is_pin rfl | exact is_sc rfl | exact rfl)) ?_))))
  refine s_q rfl rfl (q_nil rfl rfl rfl) ?_
  refine s_q rfl rfl (q_field rfl rfl (by exact rfl)) ?_
  refine s_q rfl rfl (q_loadH rfl rfl (d := .hp k 0) (by exact H.list _ (List.getElem_mem hi))) ?_
  refine s_q rfl rfl (q_ptrNilN rfl rfl rfl rfl) ?_
  refine s_q rfl rfl (q_mv (.inl rfl) (is_sc rfl)) ?_
  refine s_q rfl rfl (q_mv (.inl rfl) (by first | exact is_box rfl | exact is_hp rfl | exact is_pin rfl | exact is_sc rfl | exact rfl)) ?_
  refine s_q rfl rfl (q_mv (.inl rfl) (by first | exact is_box rfl | exact is_hp rfl | exact is_pin rfl | exact is_sc rfl | exact rfl)) ?_
  refine s_q rfl rfl (q_nil rfl rfl rfl) ?_
  refine s_q rfl rfl (q_field rfl rfl (by exact rfl)) ?_
  refine s_q rfl rfl (q_loadH rfl rfl (d := .hp k 0) (by exact H.list _ (List.getElem_mem hi))) ?_
  refine s_q rfl rfl (q_nil rfl rfl rfl) ?_
  refine s_q rfl rfl (q_field rfl rfl (by exact rfl)) ?_
  refine s_q rfl rfl (q_as (bl_eq (show (!decide (es[i + 1].1 = k ∧ 0 = 0 + 0)) = true by simp [hr.2])) (q_ptrN rfl rfl rfl rfl (by decide) (isSome_of_len (H.elen _ (List.getElem_mem h1))) (isSome_of_len H.klen))) ?_
  refine s_q rfl rfl (q_pickT rfl rfl (is_sc rfl)) ?_
  refine s_nil (n_n (w_ifT rfl (w_seq (w_reg (s_q rfl rfl (q_mv (.inl rfl) (by first | exact is_box rfl | exact is_hp rfl | exact is_pin rfl | exact is_sc rfl | exact rfl)) ?_)))))
  refine s_q rfl rfl (q_mv (.inr rfl) (by first | exact is_box rfl | exact is_hp rfl | exact is_pin rfl | exact is_sc rfl | exact rfl)) ?_
  refine s_nil (n_n (w_ret (n_r ?_)))
  -- end 0
  refine r_r (ra_tmp (by first | exact is_box rfl | exact is_hp rfl | exact is_pin rfl | exact is_sc rfl | exact rfl) ra_nil) (by first | exact is_box rfl | exact is_hp rfl | exact is_pin rfl | exact is_sc rfl | exact rfl) (by exact rfl) (Sub.refl _) ?_
  exact ⟨rfl, rfl⟩


-- (*container/list.Element).Next
theorem pf_NextB (h : Heap) (k : Nat) (es : List (Nat × D)) (H : IsList h k es) (i : Nat) (hi : i < es.length) (h1 : ¬ i + 1 < es.length) : ACall Tryz.prog G 68 true [.hp es[i].1 0] h (fun v h' => v = .sc (.pointer none) ∧ h' = h) := by
  have hnx : Heap.get h es[i].1 0 = some (.hp k 0) := by have := H.next (i + 1) (by omega); rw [ring_end k (es.map (·.1)) (n := i + 1) (by simp; omega), ring_at (by simpa using hi), List.getElem_map] at this; exact this
  refine ACall.intro rfl Tryz.func68 rfl (Nat.le_of_ble_eq_true rfl) rfl ?_
  refine w_seq (w_reg (s_q rfl rfl (q_mv (.inr rfl) (by first | exact is_box rfl | exact is_hp rfl | exact is_pin rfl | exact is_sc rfl | exact rfl)) ?_))
  refine s_nil (n_n (w_seq (w_seq (w_reg (s_q rfl rfl (q_mv (.inl rfl) (by first | exact is_box rfl | exact is_hp rfl | exact is_pin rfl | exact is_sc rfl | exact rfl)) ?_)))))
  refine s_q rfl rfl (q_nil rfl rfl rfl) ?_
  refine s_q rfl rfl (q_field rfl rfl (by exact rfl)) ?_
  refine s_q rfl rfl (q_loadH rfl rfl (d := .hp k 0) (by exact hnx)) ?_
  refine s_q rfl rfl (q_mv (.inr rfl) (by first | exact is_box rfl | exact is_hp rfl | exact is_pin rfl | exact is_sc rfl | exact rfl)) ?_
  refine s_nil (n_n (w_seq (w_reg (s_q rfl rfl (q_mv (.inl rfl) (by first | exact is_box rfl | exact is_hp rfl | exact is_pin rfl | exact is_sc rfl | exact rfl)) ?_))))
  refine s_q rfl rfl (q_nil rfl rfl rfl) ?_
  refine s_q rfl rfl (q_field rfl rfl (by exact rfl)) ?_
  refine s_q rfl rfl (q_loadH rfl rfl (d := .hp k 0) (by exact H.list _ (List.getElem_mem hi))) ?_
  refine s_q rfl rfl (q_ptrNilN rfl rfl rfl rfl) ?_
  refine s_q rfl rfl (q_mv (.inl rfl) (is_sc rfl)) ?_
  refine s_q rfl rfl (q_mv (.inl rfl) (by first | exact is_box rfl | exact is_hp rfl | exact is_pin rfl | exact is_sc rfl | exact rfl)) ?_
  refine s_q rfl rfl (q_mv (.inl rfl) (by first | exact is_box rfl | exact is_hp rfl | exact is_pin rfl | exact is_sc rfl | exact rfl)) ?_
  refine s_q rfl rfl (q_nil rfl rfl rfl) ?_
  refine s_q rfl rfl (q_field rfl rfl (by exact rfl)) ?_
  refine s_q rfl rfl (q_loadH rfl rfl (d := .hp k 0) (by exact H.list _ (List.getElem_mem hi))) ?_
  refine s_q rfl rfl (q_nil rfl rfl rfl) ?_
  refine s_q rfl rfl (q_field rfl rfl (by exact rfl)) ?_
  refine s_q rfl rfl (q_as (bl_eq (show (!decide (k = k ∧ 0 = 0 + 0)) = false by simp)) (q_ptrN rfl rfl rfl rfl (by decide) (isSome_of_len H.klen) (isSome_of_len H.klen))) ?_
  refine s_q rfl rfl (q_pickT rfl rfl (is_sc rfl)) ?_
  refine s_nil (n_n (w_ifF rfl (w_skip (n_n (w_seq (w_reg (s_q rfl rfl (q_mv (.inr rfl) (by first | exact is_box rfl | exact is_hp rfl | exact is_pin rfl | exact is_sc rfl | exact rfl)) ?_)))))))
  refine s_nil (n_n (w_ret ?_))
  -- end 0
  refine r_r (ra_tmp (by first | exact is_box rfl | exact is_hp rfl | exact is_pin rfl | exact is_sc rfl | exact rfl) ra_nil) (by first | exact is_box rfl | exact is_hp rfl | exact is_pin rfl | exact is_sc rfl | exact rfl) (by exact rfl) (Sub.refl _) ?_
  exact ⟨rfl, rfl⟩


theorem pf_Next (h : Heap) (k : Nat) (es : List (Nat × D)) (H : IsList h k es) (i : Nat) (hi : i < es.length) : ACall Tryz.prog G 68 true [.hp es[i].1 0] h (fun v h' => v = ptrAt es (i + 1) ∧ h' = h) := by
  by_cases h1 : i + 1 < es.length
  · rw [ptrAt_lt h1]; exact pf_NextA h k es H i hi h1
  · rw [ptrAt_ge h1]; exact pf_NextB h k es H i hi h1

end Go.Proofs.YtopgbalmdocboaaGreatDoor.Zz
