/- Walks of the functions, printed by program, and the logic behind them: each theorem says what one function or one step answers. -/
import Derived.Test.YtopgbalmdocboaaGreatDoorZI
import Derived.Test.YtopgbalmdocboaaGreatDoorZLi
namespace Go.Proofs.YtopgbalmdocboaaGreatDoor.Zz
open Go.Abs
set_option maxRecDepth 100000
set_option linter.unusedVariables false
set_option linter.unusedSimpArgs false
set_option maxHeartbeats 4000000
variable {G : Nat → D}

-- (*container/list.List).Init
theorem pf_Init (h : Heap) (k : Nat) (hk : Heap.len h k = some 5) : ACall Tryz.prog G 146 true [.hp k 0] h (fun v h' => v = .hp k 0 ∧ h' = Heap.put (Heap.put (Heap.put h k 0 (.hp k 0)) k 1 (.hp k 0)) k 4 (i64 0)) := by
  have l1 := fun dd => len_put' (d := dd) hk (show 0 < 5 by omega)
  have l2 := fun dd => len_put' (h := Heap.put h k 0 (.hp k 0)) (d := dd) ((l1 _ k).trans hk) (show 1 < 5 by omega)
  refine ACall.intro rfl Tryz.func146 rfl (Nat.le_of_ble_eq_true rfl) rfl ?_
  refine w_seq (w_reg (s_q rfl rfl (q_mv (.inr rfl) (by first | exact is_box rfl | exact is_hp rfl | exact is_pin rfl | exact is_sc rfl | exact rfl)) ?_))
  refine s_nil (n_n (w_seq (w_reg (s_q rfl rfl (q_mv (.inl rfl) (by first | exact is_box rfl | exact is_hp rfl | exact is_pin rfl | exact is_sc rfl | exact rfl)) ?_))))
  refine s_q rfl rfl (q_mv (.inl rfl) (by first | exact is_box rfl | exact is_hp rfl | exact is_pin rfl | exact is_sc rfl | exact rfl)) ?_
  refine s_q rfl rfl (q_nil rfl rfl rfl) ?_
  refine s_q rfl rfl (q_field rfl rfl (by exact rfl)) ?_
  refine s_q rfl rfl (q_nil rfl rfl rfl) ?_
  refine s_q rfl rfl (q_field rfl rfl (by exact rfl)) ?_
  refine s_q rfl rfl (q_field rfl rfl (by exact rfl)) ?_
  refine s_u rfl rfl (as_storeP (off := 0) (d := .hp k 0) rfl rfl rfl hk (by decide) rfl rfl rfl) ?_
  refine s_nil (n_n (w_seq (w_reg (s_q rfl rfl (q_mv (.inl rfl) (by first | exact is_box rfl | exact is_hp rfl | exact is_pin rfl | exact is_sc rfl | exact rfl)) ?_))))
  refine s_q rfl rfl (q_mv (.inl rfl) (by first | exact is_box rfl | exact is_hp rfl | exact is_pin rfl | exact is_sc rfl | exact rfl)) ?_
  refine s_q rfl rfl (q_nil rfl rfl rfl) ?_
  refine s_q rfl rfl (q_field rfl rfl (by exact rfl)) ?_
  refine s_q rfl rfl (q_nil rfl rfl rfl) ?_
  refine s_q rfl rfl (q_field rfl rfl (by exact rfl)) ?_
  refine s_q rfl rfl (q_field rfl rfl (by exact rfl)) ?_
  refine s_u rfl rfl (as_storeP (off := 1) (d := .hp k 0) rfl rfl rfl ((l1 _ k).trans hk) (by decide) rfl rfl rfl) ?_
  refine s_nil (n_n (w_seq (w_reg (s_q rfl rfl (q_mv (.inl rfl) (by first | exact is_box rfl | exact is_hp rfl | exact is_pin rfl | exact is_sc rfl | exact rfl)) ?_))))
  refine s_q rfl rfl (q_nil rfl rfl rfl) ?_
  refine s_q rfl rfl (q_field rfl rfl (by exact rfl)) ?_
  refine s_u rfl rfl (as_storeP (off := 4) (d := i64 0) rfl rfl rfl ((l2 _ k).trans ((l1 _ k).trans hk)) (by decide) rfl rfl rfl) ?_
  refine s_nil (n_n (w_seq (w_reg (s_q rfl rfl (q_mv (.inl rfl) (by first | exact is_box rfl | exact is_hp rfl | exact is_pin rfl | exact is_sc rfl | exact rfl)) ?_))))
  refine s_q rfl rfl (q_mv (.inr rfl) (by first | exact is_box rfl | exact is_hp rfl | exact is_pin rfl | exact is_sc rfl | exact rfl)) ?_
  refine s_nil (n_n (w_ret ?_))
  -- end 0
  refine r_r (ra_tmp (by first | exact is_box rfl | exact is_hp rfl | exact is_pin rfl | exact is_sc rfl | exact rfl) ra_nil) (by first | exact is_box rfl | exact is_hp rfl | exact is_pin rfl | exact is_sc rfl | exact rfl) (by exact rfl) (Sub.refl _) ?_
  exact ⟨rfl, rfl⟩


-- container/list.New
theorem pf_New (h : Heap) : ACall Tryz.prog G 64 true [] h (fun v h' => ∃ k, v = .hp k 0 ∧ IsList h' k []) := by
  refine ACall.intro rfl Tryz.func64 rfl (Nat.le_of_ble_eq_true rfl) rfl ?_
  refine w_seq (w_reg (s_q rfl rfl (q_mv (.inr rfl) (by first | exact is_box rfl | exact is_hp rfl | exact is_pin rfl | exact is_sc rfl | exact rfl)) ?_))
  refine s_nil (n_n (w_seq (w_reg (s_o rfl rfl (ao_allocH rfl fun k1 hk1 => ?_)))))
  refine s_o rfl rfl (ao_callH rfl rfl rfl rfl (pf_Init _ k1 (by simp [Heap.len, AH.hset])) fun v2 Hv2 hv2 => ?_)
  obtain ⟨rfl, rfl⟩ := hv2
  refine s_q rfl rfl (q_mv (.inr rfl) (by first | exact is_box rfl | exact is_hp rfl | exact is_pin rfl | exact is_sc rfl | exact rfl)) ?_
  refine s_nil (n_n (w_ret ?_))
  -- end 0
  refine r_r (ra_tmp (by first | exact is_box rfl | exact is_hp rfl | exact is_pin rfl | exact is_sc rfl | exact rfl) ra_nil) (by first | exact is_box rfl | exact is_hp rfl | exact is_pin rfl | exact is_sc rfl | exact rfl) (by exact rfl) (Sub.refl _) ?_
  exact ⟨k1, rfl, initList (by simp [Heap.len, AH.hset])⟩


-- (*container/list.List).lazyInit
theorem pf_lazyInit (h : Heap) (k : Nat) (es : List (Nat × D)) (H : IsList h k es) : ACall Tryz.prog G 147 true [.hp k 0] h (fun _ h' => h' = h) := by
  refine ACall.intro rfl Tryz.func147 rfl (Nat.le_of_ble_eq_true rfl) rfl ?_
  refine w_seq (w_reg (s_q rfl rfl (q_mv (.inl rfl) (by first | exact is_box rfl | exact is_hp rfl | exact is_pin rfl | exact is_sc rfl | exact rfl)) ?_))
  refine s_q rfl rfl (q_nil rfl rfl rfl) ?_
  refine s_q rfl rfl (q_field rfl rfl (by exact rfl)) ?_
  refine s_q rfl rfl (q_field rfl rfl (by exact rfl)) ?_
  refine s_q rfl rfl (q_loadH rfl rfl (by exact H.next 0 (Nat.zero_le _))) ?_
  refine s_q rfl rfl (q_ptrNilE rfl rfl rfl rfl) ?_
  refine s_nil (n_n (w_ifF rfl ?_))
  refine w_skip ?_
  -- end 0
  refine r_n ra_nil (by exact (rfl : _ = D.tup [])) (by exact rfl) (Sub.refl _) ?_
  rfl


-- (*container/list.List).Len
theorem pf_Len (h : Heap) (k : Nat) (es : List (Nat × D)) (H : IsList h k es) : ACall Tryz.prog G 58 true [.hp k 0] h (fun v h' => v = i64 es.length ∧ h' = h) := by
  refine ACall.intro rfl Tryz.func58 rfl (Nat.le_of_ble_eq_true rfl) rfl ?_
  refine w_seq (w_reg (s_q rfl rfl (q_mv (.inr rfl) (is_sc rfl)) ?_))
  refine s_nil (n_n (w_seq (w_reg (s_q rfl rfl (q_mv (.inl rfl) (by first | exact is_box rfl | exact is_hp rfl | exact is_pin rfl | exact is_sc rfl | exact rfl)) ?_))))
  refine s_q rfl rfl (q_nil rfl rfl rfl) ?_
  refine s_q rfl rfl (q_field rfl rfl (by exact rfl)) ?_
  refine s_q rfl rfl (q_loadH rfl rfl H.n) ?_
  refine s_q rfl rfl (q_mv (.inr rfl) (is_sc rfl)) ?_
  refine s_nil (n_n (w_ret ?_))
  -- end 0
  refine r_r (ra_tmp (is_sc rfl) ra_nil) (by exact (is_sc rfl)) (by exact rfl) (Sub.refl _) ?_
  exact ⟨rfl, rfl⟩


-- (*container/list.List).Front
theorem pf_Front (h : Heap) (k : Nat) (es : List (Nat × D)) (H : IsList h k es) (h0 : 0 < es.length) (hb : es.length < 1000000000) : ACall Tryz.prog G 60 true [.hp k 0] h (fun v h' => v = .hp (es[0]'h0).1 0 ∧ h' = h) := by
  refine ACall.intro rfl Tryz.func60 rfl (Nat.le_of_ble_eq_true rfl) rfl ?_
  refine w_seq (w_reg (s_q rfl rfl (q_mv (.inr rfl) (by first | exact is_box rfl | exact is_hp rfl | exact is_pin rfl | exact is_sc rfl | exact rfl)) ?_))
  refine s_nil (n_n (w_seq (w_seq (w_reg (s_q rfl rfl (q_mv (.inl rfl) (by first | exact is_box rfl | exact is_hp rfl | exact is_pin rfl | exact is_sc rfl | exact rfl)) ?_)))))
  refine s_q rfl rfl (q_nil rfl rfl rfl) ?_
  refine s_q rfl rfl (q_field rfl rfl (by exact rfl)) ?_
  refine s_q rfl rfl (q_loadH rfl rfl H.n) ?_
  refine s_q rfl rfl (q_eql rfl rfl rfl) ?_
  refine s_nil (n_n (w_if (is_scb rfl) (fun h7 => ?_) (fun h7 => ?_)))
  · exact absurd (of_decide_eq_true h7) (by omega)
  · refine w_skip (n_n (w_seq (w_reg (s_q rfl rfl (q_mv (.inl rfl) (by first | exact is_box rfl | exact is_hp rfl | exact is_pin rfl | exact is_sc rfl | exact rfl)) ?_))))
    refine s_q rfl rfl (q_nil rfl rfl rfl) ?_
    refine s_q rfl rfl (q_field rfl rfl (by exact rfl)) ?_
    refine s_q rfl rfl (q_field rfl rfl (by exact rfl)) ?_
    refine s_q rfl rfl (q_loadH rfl rfl (d := .hp (es[0].1) 0) (by have := H.next 0 (Nat.zero_le _); rw [ring_at (by simpa using h0), List.getElem_map] at this; exact this)) ?_
    refine s_q rfl rfl (q_mv (.inr rfl) (by first | exact is_box rfl | exact is_hp rfl | exact is_pin rfl | exact is_sc rfl | exact rfl)) ?_
    refine s_nil (n_n (w_ret ?_))
    -- end 0
    refine r_r (ra_tmp (by first | exact is_box rfl | exact is_hp rfl | exact is_pin rfl | exact is_sc rfl | exact rfl) ra_nil) (by first | exact is_box rfl | exact is_hp rfl | exact is_pin rfl | exact is_sc rfl | exact rfl) (by exact rfl) (Sub.refl _) ?_
    exact ⟨rfl, rfl⟩


-- (*container/list.List).insert
theorem pf_insert (h : Heap) (k e a n na : Nat) (he : Heap.len h e = some 4) (hk : Heap.len h k = some 5) (ha : Heap.len h a = some na) (ha4 : 4 ≤ na) (hea : e ≠ a) (hek : e ≠ k) (hn : Heap.get h a 0 = some (.hp k 0)) (hc : Heap.get h k 4 = some (i64 n)) (hb : n < 1000000000) : ACall Tryz.prog G 240 true [.hp k 0, .hp e 0, .hp a 0] h (fun v h' => v = .hp e 0 ∧ h' = insBack h k a e n) := by
  have e1 := len_put' (d := .hp a 0) he (show 1 < 4 by omega)
  have e2 := len_put' (h := Heap.put h e 1 (.hp a 0)) (d := .hp k 0) ((e1 e).trans he) (show 0 < 4 by omega)
  have e3 := len_put' (h := Heap.put (Heap.put h e 1 (.hp a 0)) e 0 (.hp k 0)) (d := .hp e 0) ((e2 a).trans ((e1 a).trans ha)) (show 0 < na by omega)
  have e4 := len_put' (h := Heap.put (Heap.put (Heap.put h e 1 (.hp a 0)) e 0 (.hp k 0)) a 0 (.hp e 0)) (d := .hp e 0) ((e3 k).trans ((e2 k).trans ((e1 k).trans hk))) (show 1 < 5 by omega)
  have e5 := len_put' (h := Heap.put (Heap.put (Heap.put (Heap.put h e 1 (.hp a 0)) e 0 (.hp k 0)) a 0 (.hp e 0)) k 1 (.hp e 0)) (d := .hp k 0) ((e4 e).trans ((e3 e).trans ((e2 e).trans ((e1 e).trans he)))) (show 2 < 4 by omega)
  have g1 := get_put (d := .hp a 0) he (show 1 < 4 by omega)
  have g2 := get_put (h := Heap.put h e 1 (.hp a 0)) (d := .hp k 0) ((e1 e).trans he) (show 0 < 4 by omega)
  have g3 := get_put (h := Heap.put (Heap.put h e 1 (.hp a 0)) e 0 (.hp k 0)) (d := .hp e 0) ((e2 a).trans ((e1 a).trans ha)) (show 0 < na by omega)
  have g4 := get_put (h := Heap.put (Heap.put (Heap.put h e 1 (.hp a 0)) e 0 (.hp k 0)) a 0 (.hp e 0)) (d := .hp e 0) ((e3 k).trans ((e2 k).trans ((e1 k).trans hk))) (show 1 < 5 by omega)
  have g5 := get_put (h := Heap.put (Heap.put (Heap.put (Heap.put h e 1 (.hp a 0)) e 0 (.hp k 0)) a 0 (.hp e 0)) k 1 (.hp e 0)) (d := .hp k 0) ((e4 e).trans ((e3 e).trans ((e2 e).trans ((e1 e).trans he)))) (show 2 < 4 by omega)
  have hw : IntKind.i64.wrap ((n : Int) + 1) = ((n + 1 : Nat) : Int) := wrap_nat (by omega)
  refine ACall.intro rfl Tryz.func240 rfl (Nat.le_of_ble_eq_true rfl) rfl ?_
  refine w_seq (w_reg (s_q rfl rfl (q_mv (.inr rfl) (by first | exact is_box rfl | exact is_hp rfl | exact is_pin rfl | exact is_sc rfl | exact rfl)) ?_))
  refine s_nil (n_n (w_seq (w_reg (s_q rfl rfl (q_mv (.inl rfl) (by first | exact is_box rfl | exact is_hp rfl | exact is_pin rfl | exact is_sc rfl | exact rfl)) ?_))))
  refine s_q rfl rfl (q_mv (.inl rfl) (by first | exact is_box rfl | exact is_hp rfl | exact is_pin rfl | exact is_sc rfl | exact rfl)) ?_
  refine s_q rfl rfl (q_nil rfl rfl rfl) ?_
  refine s_q rfl rfl (q_field rfl rfl (by exact rfl)) ?_
  refine s_u rfl rfl (as_storeP (off := 1) (d := .hp a 0) rfl rfl rfl he (by decide) rfl rfl rfl) ?_
  refine s_nil (n_n (w_seq (w_reg (s_q rfl rfl (q_mv (.inl rfl) (by first | exact is_box rfl | exact is_hp rfl | exact is_pin rfl | exact is_sc rfl | exact rfl)) ?_))))
  refine s_q rfl rfl (q_mv (.inl rfl) (by first | exact is_box rfl | exact is_hp rfl | exact is_pin rfl | exact is_sc rfl | exact rfl)) ?_
  refine s_q rfl rfl (q_nil rfl rfl rfl) ?_
  refine s_q rfl rfl (q_field rfl rfl (by exact rfl)) ?_
  refine s_q rfl rfl (q_loadH rfl rfl (d := .hp k 0) (by show Heap.get (Heap.put h e 1 (.hp a 0)) a 0 = _; rw [g1]; simp [hn])) ?_
  refine s_q rfl rfl (q_nil rfl rfl rfl) ?_
  refine s_q rfl rfl (q_field rfl rfl (by exact rfl)) ?_
  refine s_u rfl rfl (as_storeP (off := 0) (d := .hp k 0) rfl rfl rfl ((e1 e).trans he) (by decide) rfl rfl rfl) ?_
  refine s_nil (n_n (w_seq (w_reg (s_q rfl rfl (q_mv (.inl rfl) (by first | exact is_box rfl | exact is_hp rfl | exact is_pin rfl | exact is_sc rfl | exact rfl)) ?_))))
  refine s_q rfl rfl (q_nil rfl rfl rfl) ?_
  refine s_q rfl rfl (q_field rfl rfl (by exact rfl)) ?_
  refine s_q rfl rfl (q_loadH rfl rfl (d := .hp a 0) (by show Heap.get (Heap.put (Heap.put h e 1 (.hp a 0)) e 0 (.hp k 0)) e 1 = _; rw [g2, g1]; simp)) ?_
  refine s_q rfl rfl (q_mv (.inl rfl) (by first | exact is_box rfl | exact is_hp rfl | exact is_pin rfl | exact is_sc rfl | exact rfl)) ?_
  refine s_q rfl rfl (q_nil rfl rfl rfl) ?_
  refine s_q rfl rfl (q_field rfl rfl (by exact rfl)) ?_
  refine s_u rfl rfl (as_storeP (off := 0) (d := .hp e 0) rfl rfl rfl ((e2 a).trans ((e1 a).trans ha)) (by omega) rfl rfl rfl) ?_
  refine s_nil (n_n (w_seq (w_reg (s_q rfl rfl (q_mv (.inl rfl) (by first | exact is_box rfl | exact is_hp rfl | exact is_pin rfl | exact is_sc rfl | exact rfl)) ?_))))
  refine s_q rfl rfl (q_nil rfl rfl rfl) ?_
  refine s_q rfl rfl (q_field rfl rfl (by exact rfl)) ?_
  refine s_q rfl rfl (q_loadH rfl rfl (d := .hp k 0) (by show Heap.get (Heap.put (Heap.put (Heap.put h e 1 (.hp a 0)) e 0 (.hp k 0)) a 0 (.hp e 0)) e 0 = _; rw [g3, g2]; simp [hea])) ?_
  refine s_q rfl rfl (q_mv (.inl rfl) (by first | exact is_box rfl | exact is_hp rfl | exact is_pin rfl | exact is_sc rfl | exact rfl)) ?_
  refine s_q rfl rfl (q_nil rfl rfl rfl) ?_
  refine s_q rfl rfl (q_field rfl rfl (by exact rfl)) ?_
  refine s_u rfl rfl (as_storeP (off := 1) (d := .hp e 0) rfl rfl rfl ((e3 k).trans ((e2 k).trans ((e1 k).trans hk))) (by decide) rfl rfl rfl) ?_
  refine s_nil (n_n (w_seq (w_reg (s_q rfl rfl (q_mv (.inl rfl) (by first | exact is_box rfl | exact is_hp rfl | exact is_pin rfl | exact is_sc rfl | exact rfl)) ?_))))
  refine s_q rfl rfl (q_mv (.inl rfl) (by first | exact is_box rfl | exact is_hp rfl | exact is_pin rfl | exact is_sc rfl | exact rfl)) ?_
  refine s_q rfl rfl (q_nil rfl rfl rfl) ?_
  refine s_q rfl rfl (q_field rfl rfl (by exact rfl)) ?_
  refine s_u rfl rfl (as_storeP (off := 2) (d := .hp k 0) rfl rfl rfl ((e4 e).trans ((e3 e).trans ((e2 e).trans ((e1 e).trans he)))) (by decide) rfl rfl rfl) ?_
  refine s_nil (n_n (w_seq (w_reg (s_q rfl rfl (q_mv (.inl rfl) (by first | exact is_box rfl | exact is_hp rfl | exact is_pin rfl | exact is_sc rfl | exact rfl)) ?_))))
  refine s_q rfl rfl (q_nil rfl rfl rfl) ?_
  refine s_q rfl rfl (q_field rfl rfl (by exact rfl)) ?_
  refine s_q rfl rfl (q_loadH rfl rfl (d := i64 n) (by show Heap.get (Heap.put (Heap.put (Heap.put (Heap.put (Heap.put h e 1 (.hp a 0)) e 0 (.hp k 0)) a 0 (.hp e 0)) k 1 (.hp e 0)) e 2 (.hp k 0)) k 4 = _; rw [g5, g4, g3, g2, g1]; simp [hc])) ?_
  refine s_q rfl rfl (q_add rfl rfl rfl) ?_
  refine s_q rfl rfl (q_nil rfl rfl rfl) ?_
  refine s_q rfl rfl (q_field rfl rfl (by exact rfl)) ?_
  refine s_u rfl rfl (as_storeP (off := 4) (d := i64 (n + 1 : Nat)) rfl rfl (i64_eq hw) ((e5 k).trans ((e4 k).trans ((e3 k).trans ((e2 k).trans ((e1 k).trans hk))))) (by decide) rfl rfl rfl) ?_
  refine s_nil (n_n (w_seq (w_reg (s_q rfl rfl (q_mv (.inl rfl) (by first | exact is_box rfl | exact is_hp rfl | exact is_pin rfl | exact is_sc rfl | exact rfl)) ?_))))
  refine s_q rfl rfl (q_mv (.inr rfl) (by first | exact is_box rfl | exact is_hp rfl | exact is_pin rfl | exact is_sc rfl | exact rfl)) ?_
  refine s_nil (n_n (w_ret ?_))
  -- end 0
  refine r_r (ra_tmp (by first | exact is_box rfl | exact is_hp rfl | exact is_pin rfl | exact is_sc rfl | exact rfl) ra_nil) (by first | exact is_box rfl | exact is_hp rfl | exact is_pin rfl | exact is_sc rfl | exact rfl) (by exact rfl) (Sub.refl _) ?_
  exact ⟨rfl, rfl⟩

end Go.Proofs.YtopgbalmdocboaaGreatDoor.Zz
