/- Walks of the functions, printed by program, and the logic behind them: each theorem says what one function or one step answers. -/
import Derived.Test.YtpjckdhgefbonaaGreatDoorZI
import Derived.Test.YtpjckdhgefbonaaGreatDoorZLi
import Derived.Test.YtpjckdhgefbonaaGreatDoorZWa
import Derived.Test.YtpjckdhgefbonaaGreatDoorZDoor
namespace Go.Proofs.YtpjckdhgefbonaaGreatDoor.Zz
open Go.Abs
set_option maxRecDepth 100000
set_option linter.unusedVariables false
set_option linter.unusedSimpArgs false
set_option maxHeartbeats 4000000
variable {G : Nat → D}

-- (*container/list.List).Init
theorem pf_Init (h : Heap) (k : Nat) (hk : Heap.len h k = some 5) : ACall Tryz.prog G 158 true [.hp k 0] h (fun v h' => v = .hp k 0 ∧ h' = Heap.put (Heap.put (Heap.put h k 0 (.hp k 0)) k 1 (.hp k 0)) k 4 (i64 0)) := by
  have l1 := fun dd => len_put' (d := dd) hk (show 0 < 5 by omega)
  have l2 := fun dd => len_put' (h := Heap.put h k 0 (.hp k 0)) (d := dd) ((l1 _ k).trans hk) (show 1 < 5 by omega)
  refine ACall.intro rfl Tryz.func158 rfl (Nat.le_of_ble_eq_true rfl) rfl ?_
  refine w_seq (w_reg (s_q rfl rfl (q_mv (.inr rfl) (by first | exact is_box rfl | exact is_hp rfl | exact is_pin rfl | exact is_sc rfl | exact rfl)) ?_))
  refine s_nil (n_n (w_seq (w_reg (s_q rfl rfl (q_mv (.inl rfl) (by first | exact is_box rfl | exact is_hp rfl | exact is_pin rfl | exact is_sc rfl | exact rfl)) ?_))))
  refine s_q rfl rfl (q_mv (.inl rfl) (by first | exact is_box rfl | exact is_hp rfl | exact is_pin rfl | exact is_sc rfl | exact rfl)) ?_
  refine s_q rfl rfl (q_nil rfl rfl rfl) ?_
  refine s_q rfl rfl (q_field rfl rfl (by exact rfl)) ?_
  refine s_q rfl rfl (q_nil rfl rfl rfl) ?_
  refine s_q rfl rfl (q_field rfl rfl (by exact rfl)) ?_
  refine s_q rfl rfl (q_field rfl rfl (by exact rfl)) ?_
  refine s_u rfl rfl (as_storeP (off := 0) (d := .hp k 0) rfl rfl rfl hk (by decide) rfl rfl rfl) ?_
  refine s_nil (n_n (w_seq (w_reg (s_q rfl rfl (q_mv (.inl rfl) (by first | exact is_box rfl | exact is_hp rfl | exact is_pin rfl | exact is_sc rfl | exact rfl)) ?_))))
  refine s_q rfl rfl (q_mv (.inl rfl) (by first | exact is_box rfl | exact is_hp rfl | exact is_pin rfl | exact is_sc rfl | exact rfl)) ?_
  refine s_q rfl rfl (q_nil rfl rfl rfl) ?_
  refine s_q rfl rfl (q_field rfl rfl (by exact rfl)) ?_
  refine s_q rfl rfl (q_nil rfl rfl rfl) ?_
  refine s_q rfl rfl (q_field rfl rfl (by exact rfl)) ?_
  refine s_q rfl rfl (q_field rfl rfl (by exact rfl)) ?_
  refine s_u rfl rfl (as_storeP (off := 1) (d := .hp k 0) rfl rfl rfl ((l1 _ k).trans hk) (by decide) rfl rfl rfl) ?_
  refine s_nil (n_n (w_seq (w_reg (s_q rfl rfl (q_mv (.inl rfl) (by first | exact is_box rfl | exact is_hp rfl | exact is_pin rfl | exact is_sc rfl | exact rfl)) ?_))))
  refine s_q rfl rfl (q_nil rfl rfl rfl) ?_
  refine s_q rfl rfl (q_field rfl rfl (by exact rfl)) ?_
  refine s_u rfl rfl (as_storeP (off := 4) (d := i64 0) rfl rfl rfl ((l2 _ k).trans ((l1 _ k).trans hk)) (by decide) rfl rfl rfl) ?_
  refine s_nil (n_n (w_seq (w_reg (s_q rfl rfl (q_mv (.inl rfl) (by first | exact is_box rfl | exact is_hp rfl | exact is_pin rfl | exact is_sc rfl | exact rfl)) ?_))))
  refine s_q rfl rfl (q_mv (.inr rfl) (by first | exact is_box rfl | exact is_hp rfl | exact is_pin rfl | exact is_sc rfl | exact rfl)) ?_
  refine s_nil (n_n (w_ret ?_))
  -- end 0
  refine r_r (ra_tmp (by first | exact is_box rfl | exact is_hp rfl | exact is_pin rfl | exact is_sc rfl | exact rfl) ra_nil) (by first | exact is_box rfl | exact is_hp rfl | exact is_pin rfl | exact is_sc rfl | exact rfl) (by exact rfl) (Sub.refl _) ?_
  exact ⟨rfl, rfl⟩


-- container/list.New
theorem pf_New (h : Heap) : ACall Tryz.prog G 77 true [] h (fun v h' => ∃ k, v = .hp k 0 ∧ IsList h' k []) := by
  refine ACall.intro rfl Tryz.func77 rfl (Nat.le_of_ble_eq_true rfl) rfl ?_
  refine w_seq (w_reg (s_q rfl rfl (q_mv (.inr rfl) (by first | exact is_box rfl | exact is_hp rfl | exact is_pin rfl | exact is_sc rfl | exact rfl)) ?_))
  refine s_nil (n_n (w_seq (w_reg (s_o rfl rfl (ao_allocH rfl fun k1 hk1 => ?_)))))
  refine s_o rfl rfl (ao_callH rfl rfl rfl rfl (pf_Init _ k1 (by simp [Heap.len, AH.hset])) fun v2 Hv2 hv2 => ?_)
  obtain ⟨rfl, rfl⟩ := hv2
  refine s_q rfl rfl (q_mv (.inr rfl) (by first | exact is_box rfl | exact is_hp rfl | exact is_pin rfl | exact is_sc rfl | exact rfl)) ?_
  refine s_nil (n_n (w_ret ?_))
  -- end 0
  refine r_r (ra_tmp (by first | exact is_box rfl | exact is_hp rfl | exact is_pin rfl | exact is_sc rfl | exact rfl) ra_nil) (by first | exact is_box rfl | exact is_hp rfl | exact is_pin rfl | exact is_sc rfl | exact rfl) (by exact rfl) (Sub.refl _) ?_
  exact ⟨k1, rfl, initList (by simp [Heap.len, AH.hset])⟩


-- (*container/list.List).lazyInit
theorem pf_lazyInit (h : Heap) (k : Nat) (es : List (Nat × D)) (H : IsList h k es) : ACall Tryz.prog G 164 true [.hp k 0] h (fun _ h' => h' = h) := by
  refine ACall.intro rfl Tryz.func164 rfl (Nat.le_of_ble_eq_true rfl) rfl ?_
  refine w_seq (w_reg (s_q rfl rfl (q_mv (.inl rfl) (by first | exact is_box rfl | exact is_hp rfl | exact is_pin rfl | exact is_sc rfl | exact rfl)) ?_))
  refine s_q rfl rfl (q_nil rfl rfl rfl) ?_
  refine s_q rfl rfl (q_field rfl rfl (by exact rfl)) ?_
  refine s_q rfl rfl (q_field rfl rfl (by exact rfl)) ?_
  refine s_q rfl rfl (q_loadH rfl rfl (by exact H.next 0 (Nat.zero_le _))) ?_
  refine s_q rfl rfl (q_ptrNilE rfl rfl rfl rfl) ?_
  refine s_nil (n_n (w_ifF rfl ?_))
  refine w_skip ?_
  -- end 0
  refine r_n ra_nil (by exact (rfl : _ = D.tup [])) (by exact rfl) (Sub.refl _) ?_
  rfl


-- (*container/list.List).Len
theorem pf_Len (h : Heap) (k : Nat) (es : List (Nat × D)) (H : IsList h k es) : ACall Tryz.prog G 68 true [.hp k 0] h (fun v h' => v = i64 es.length ∧ h' = h) := by
  refine ACall.intro rfl Tryz.func68 rfl (Nat.le_of_ble_eq_true rfl) rfl ?_
  refine w_seq (w_reg (s_q rfl rfl (q_mv (.inr rfl) (is_sc rfl)) ?_))
  refine s_nil (n_n (w_seq (w_reg (s_q rfl rfl (q_mv (.inl rfl) (by first | exact is_box rfl | exact is_hp rfl | exact is_pin rfl | exact is_sc rfl | exact rfl)) ?_))))
  refine s_q rfl rfl (q_nil rfl rfl rfl) ?_
  refine s_q rfl rfl (q_field rfl rfl (by exact rfl)) ?_
  refine s_q rfl rfl (q_loadH rfl rfl H.n) ?_
  refine s_q rfl rfl (q_mv (.inr rfl) (is_sc rfl)) ?_
  refine s_nil (n_n (w_ret ?_))
  -- end 0
  refine r_r (ra_tmp (is_sc rfl) ra_nil) (by exact (is_sc rfl)) (by exact rfl) (Sub.refl _) ?_
  exact ⟨rfl, rfl⟩


-- (*container/list.List).Front
theorem pf_Front (h : Heap) (k : Nat) (es : List (Nat × D)) (H : IsList h k es) (h0 : 0 < es.length) (hb : es.length < 1000000000) : ACall Tryz.prog G 70 true [.hp k 0] h (fun v h' => v = .hp (es[0]'h0).1 0 ∧ h' = h) := by
  refine ACall.intro rfl Tryz.func70 rfl (Nat.le_of_ble_eq_true rfl) rfl ?_
  refine w_seq (w_reg (s_q rfl rfl (q_mv (.inr rfl) (by first | exact is_box rfl | exact is_hp rfl | exact is_pin rfl | exact is_sc rfl | exact rfl)) ?_))
  refine s_nil (n_n (w_seq (w_seq (w_reg (s_q rfl rfl (q_mv (.inl rfl) (by first | exact is_box rfl | exact is_hp rfl | exact is_pin rfl | exact is_sc rfl | exact rfl)) ?_)))))
  refine s_q rfl rfl (q_nil rfl rfl rfl) ?_
  refine s_q rfl rfl (q_field rfl rfl (by exact rfl)) ?_
  refine s_q rfl rfl (q_loadH rfl rfl H.n) ?_
  refine s_q rfl rfl (q_eql rfl rfl rfl) ?_
  refine s_nil (n_n (w_if (is_scb rfl) (fun h7 => ?_) (fun h7 => ?_)))
  · exact absurd (of_decide_eq_true h7) (by omega)
  · refine w_skip (n_n (w_seq (w_reg (s_q rfl rfl (q_mv (.inl rfl) (by first | exact is_box rfl | exact is_hp rfl | exact is_pin rfl | exact is_sc rfl | exact rfl)) ?_))))
    refine s_q rfl rfl (q_nil rfl rfl rfl) ?_
    refine s_q rfl rfl (q_field rfl rfl (by exact rfl)) ?_
    refine s_q rfl rfl (q_field rfl rfl (by exact rfl)) ?_
    refine s_q rfl rfl (q_loadH rfl rfl (d := .hp (es[0].1) 0) (by have := H.next 0 (Nat.zero_le _); rw [ring_at (by simpa using h0), List.getElem_map] at this; exact this)) ?_
    refine s_q rfl rfl (q_mv (.inr rfl) (by first | exact is_box rfl | exact is_hp rfl | exact is_pin rfl | exact is_sc rfl | exact rfl)) ?_
    refine s_nil (n_n (w_ret ?_))
    -- end 0
    refine r_r (ra_tmp (by first | exact is_box rfl | exact is_hp rfl | exact is_pin rfl | exact is_sc rfl | exact rfl) ra_nil) (by first | exact is_box rfl | exact is_hp rfl | exact is_pin rfl | exact is_sc rfl | exact rfl) (by exact rfl) (Sub.refl _) ?_
    exact ⟨rfl, rfl⟩


-- (*container/list.List).insert
theorem pf_insert (h : Heap) (k e a n na : Nat) (he : Heap.len h e = some 4) (hk : Heap.len h k = some 5) (ha : Heap.len h a = some na) (ha4 : 4 ≤ na) (hea : e ≠ a) (hek : e ≠ k) (hn : Heap.get h a 0 = some (.hp k 0)) (hc : Heap.get h k 4 = some (i64 n)) (hb : n < 1000000000) : ACall Tryz.prog G 254 true [.hp k 0, .hp e 0, .hp a 0] h (fun v h' => v = .hp e 0 ∧ h' = insBack h k a e n) := by
  have e1 := len_put' (d := .hp a 0) he (show 1 < 4 by omega)
  have e2 := len_put' (h := Heap.put h e 1 (.hp a 0)) (d := .hp k 0) ((e1 e).trans he) (show 0 < 4 by omega)
  have e3 := len_put' (h := Heap.put (Heap.put h e 1 (.hp a 0)) e 0 (.hp k 0)) (d := .hp e 0) ((e2 a).trans ((e1 a).trans ha)) (show 0 < na by omega)
  have e4 := len_put' (h := Heap.put (Heap.put (Heap.put h e 1 (.hp a 0)) e 0 (.hp k 0)) a 0 (.hp e 0)) (d := .hp e 0) ((e3 k).trans ((e2 k).trans ((e1 k).trans hk))) (show 1 < 5 by omega)
  have e5 := len_put' (h := Heap.put (Heap.put (Heap.put (Heap.put h e 1 (.hp a 0)) e 0 (.hp k 0)) a 0 (.hp e 0)) k 1 (.hp e 0)) (d := .hp k 0) ((e4 e).trans ((e3 e).trans ((e2 e).trans ((e1 e).trans he)))) (show 2 < 4 by omega)
  have g1 := get_put (d := .hp a 0) he (show 1 < 4 by omega)
  have g2 := get_put (h := Heap.put h e 1 (.hp a 0)) (d := .hp k 0) ((e1 e).trans he) (show 0 < 4 by omega)
  have g3 := get_put (h := Heap.put (Heap.put h e 1 (.hp a 0)) e 0 (.hp k 0)) (d := .hp e 0) ((e2 a).trans ((e1 a).trans ha)) (show 0 < na by omega)
  have g4 := get_put (h := Heap.put (Heap.put (Heap.put h e 1 (.hp a 0)) e 0 (.hp k 0)) a 0 (.hp e 0)) (d := .hp e 0) ((e3 k).trans ((e2 k).trans ((e1 k).trans hk))) (show 1 < 5 by omega)
  have g5 := get_put (h := Heap.put (Heap.put (Heap.put (Heap.put h e 1 (.hp a 0)) e 0 (.hp k 0)) a 0 (.hp e 0)) k 1 (.hp e 0)) (d := .hp k 0) ((e4 e).trans ((e3 e).trans ((e2 e).trans ((e1 e).trans he)))) (show 2 < 4 by omega)
  have hw : IntKind.i64.wrap ((n : Int) + 1) = ((n + 1 : Nat) : Int) := wrap_nat hb
  refine ACall.intro rfl Tryz.func254 rfl (Nat.le_of_ble_eq_true rfl) rfl ?_
  refine w_seq (w_reg (s_q rfl rfl (q_mv (.inr rfl) (by first | exact is_box rfl | exact is_hp rfl | exact is_pin rfl | exact is_sc rfl | exact rfl)) ?_))
  refine s_nil (n_n (w_seq (w_reg (s_q rfl rfl (q_mv (.inl rfl) (by first | exact is_box rfl | exact is_hp rfl | exact is_pin rfl | exact is_sc rfl | exact rfl)) ?_))))
  refine s_q rfl rfl (q_mv (.inl rfl) (by first | exact is_box rfl | exact is_hp rfl | exact is_pin rfl | exact is_sc rfl | exact rfl)) ?_
  refine s_q rfl rfl (q_nil rfl rfl rfl) ?_
  refine s_q rfl rfl (q_field rfl rfl (by exact rfl)) ?_
  refine s_u rfl rfl (as_storeP (off := 1) (d := .hp a 0) rfl rfl rfl he (by decide) rfl rfl rfl) ?_
  refine s_nil (n_n (w_seq (w_reg (s_q rfl rfl (q_mv (.inl rfl) (by first | exact is_box rfl | exact is_hp rfl | exact is_pin rfl | exact is_sc rfl | exact rfl)) ?_))))
  refine s_q rfl rfl (q_mv (.inl rfl) (by first | exact is_box rfl | exact is_hp rfl | exact is_pin rfl | exact is_sc rfl | exact rfl)) ?_
  refine s_q rfl rfl (q_nil rfl rfl rfl) ?_
  refine s_q rfl rfl (q_field rfl rfl (by exact rfl)) ?_
  refine s_q rfl rfl (q_loadH rfl rfl (d := .hp k 0) (by show Heap.get (Heap.put h e 1 (.hp a 0)) a 0 = _; rw [g1]; simp [hn])) ?_
  refine s_q rfl rfl (q_nil rfl rfl rfl) ?_
  refine s_q rfl rfl (q_field rfl rfl (by exact rfl)) ?_
  refine s_u rfl rfl (as_storeP (off := 0) (d := .hp k 0) rfl rfl rfl ((e1 e).trans he) (by decide) rfl rfl rfl) ?_
  refine s_nil (n_n (w_seq (w_reg (s_q rfl rfl (q_mv (.inl rfl) (by first | exact is_box rfl | exact is_hp rfl | exact is_pin rfl | exact is_sc rfl | exact rfl)) ?_))))
  refine s_q rfl rfl (q_nil rfl rfl rfl) ?_
  refine s_q rfl rfl (q_field rfl rfl (by exact rfl)) ?_
  refine s_q rfl rfl (q_loadH rfl rfl (d := .hp a 0) (by show Heap.get (Heap.put (Heap.put h e 1 (.hp a 0)) e 0 (.hp k 0)) e 1 = _; rw [g2, g1]; simp)) ?_
  refine s_q rfl rfl (q_mv (.inl rfl) (by first | exact is_box rfl | exact is_hp rfl | exact is_pin rfl | exact is_sc rfl | exact rfl)) ?_
  refine s_q rfl rfl (q_nil rfl rfl rfl) ?_
  refine s_q rfl rfl (q_field rfl rfl (by exact rfl)) ?_
  refine s_u rfl rfl (as_storeP (off := 0) (d := .hp e 0) rfl rfl rfl ((e2 a).trans ((e1 a).trans ha)) (by omega) rfl rfl rfl) ?_
  refine s_nil (n_n (w_seq (w_reg (s_q rfl rfl (q_mv (.inl rfl) (by first | exact is_box rfl | exact is_hp rfl | exact is_pin rfl | exact is_sc rfl | exact rfl)) ?_))))
  refine s_q rfl rfl (q_nil rfl rfl rfl) ?_
  refine s_q rfl rfl (q_field rfl rfl (by exact rfl)) ?_
  refine s_q rfl rfl (q_loadH rfl rfl (d := .hp k 0) (by show Heap.get (Heap.put (Heap.put (Heap.put h e 1 (.hp a 0)) e 0 (.hp k 0)) a 0 (.hp e 0)) e 0 = _; rw [g3, g2]; simp [hea])) ?_
  refine s_q rfl rfl (q_mv (.inl rfl) (by first | exact is_box rfl | exact is_hp rfl | exact is_pin rfl | exact is_sc rfl | exact rfl)) ?_
  refine s_q rfl rfl (q_nil rfl rfl rfl) ?_
  refine s_q rfl rfl (q_field rfl rfl (by exact rfl)) ?_
  refine s_u rfl rfl (as_storeP (off := 1) (d := .hp e 0) rfl rfl rfl ((e3 k).trans ((e2 k).trans ((e1 k).trans hk))) (by decide) rfl rfl rfl) ?_
  refine s_nil (n_n (w_seq (w_reg (s_q rfl rfl (q_mv (.inl rfl) (by first | exact is_box rfl | exact is_hp rfl | exact is_pin rfl | exact is_sc rfl | exact rfl)) ?_))))
  refine s_q rfl rfl (q_mv (.inl rfl) (by first | exact is_box rfl | exact is_hp rfl | exact is_pin rfl | exact is_sc rfl | exact rfl)) ?_
  refine s_q rfl rfl (q_nil rfl rfl rfl) ?_
  refine s_q rfl rfl (q_field rfl rfl (by exact rfl)) ?_
  refine s_u rfl rfl (as_storeP (off := 2) (d := .hp k 0) rfl rfl rfl ((e4 e).trans ((e3 e).trans ((e2 e).trans ((e1 e).trans he)))) (by decide) rfl rfl rfl) ?_
  refine s_nil (n_n (w_seq (w_reg (s_q rfl rfl (q_mv (.inl rfl) (by first | exact is_box rfl | exact is_hp rfl | exact is_pin rfl | exact is_sc rfl | exact rfl)) ?_))))
  refine s_q rfl rfl (q_nil rfl rfl rfl) ?_
  refine s_q rfl rfl (q_field rfl rfl (by exact rfl)) ?_
  refine s_q rfl rfl (q_loadH rfl rfl (d := i64 n) (by show Heap.get (Heap.put (Heap.put (Heap.put (Heap.put (Heap.put h e 1 (.hp a 0)) e 0 (.hp k 0)) a 0 (.hp e 0)) k 1 (.hp e 0)) e 2 (.hp k 0)) k 4 = _; rw [g5, g4, g3, g2, g1]; simp [hc])) ?_
  refine s_q rfl rfl (q_add rfl rfl rfl) ?_
  refine s_q rfl rfl (q_nil rfl rfl rfl) ?_
  refine s_q rfl rfl (q_field rfl rfl (by exact rfl)) ?_
  refine s_u rfl rfl (as_storeP (off := 4) (d := i64 (n + 1 : Nat)) rfl rfl (i64_eq hw) ((e5 k).trans ((e4 k).trans ((e3 k).trans ((e2 k).trans ((e1 k).trans hk))))) (by decide) rfl rfl rfl) ?_
  refine s_nil (n_n (w_seq (w_reg (s_q rfl rfl (q_mv (.inl rfl) (by first | exact is_box rfl | exact is_hp rfl | exact is_pin rfl | exact is_sc rfl | exact rfl)) ?_))))
  refine s_q rfl rfl (q_mv (.inr rfl) (by first | exact is_box rfl | exact is_hp rfl | exact is_pin rfl | exact is_sc rfl | exact rfl)) ?_
  refine s_nil (n_n (w_ret ?_))
  -- end 0
  refine r_r (ra_tmp (by first | exact is_box rfl | exact is_hp rfl | exact is_pin rfl | exact is_sc rfl | exact rfl) ra_nil) (by first | exact is_box rfl | exact is_hp rfl | exact is_pin rfl | exact is_sc rfl | exact rfl) (by exact rfl) (Sub.refl _) ?_
  exact ⟨rfl, rfl⟩

end Go.Proofs.YtpjckdhgefbonaaGreatDoor.Zz
namespace Go.Proofs.YtpjckdhgefbonaaGreatDoor.Zz
open Go.Abs
set_option maxRecDepth 100000
set_option linter.unusedVariables false
set_option linter.unusedSimpArgs false
set_option maxHeartbeats 4000000
variable {G : Nat → D}

-- pub-tallysheet/laws.of
theorem pf_ofN (n dd : Int) (q : Nat) (hq : floatBits .quo .f64 (FloatKind.f64.nearest n) (FloatKind.f64.nearest dd) = some q) : PF Tryz.prog G 49 [(num n dd).d] (iNum q).d := by
  refine PC.intro rfl Tryz.func49 rfl (Nat.le_of_ble_eq_true rfl) rfl ?_
  refine w_seq (w_reg (s_s rfl rfl (as_box0 (id := 0) rfl (by first | exact (rfl : _ = D.agg [_, _, _, _, _]) | exact rfl) (by exact rfl) rfl (by exact (rfl : _ = [_, _, _, _, _]))) ?_))
  refine s_s rfl rfl (as_alloc0 (id := 1) rfl rfl (by exact (rfl : _ = [_, _, _, _]))) ?_
  refine s_nil (n_n (w_seq (w_reg (s_q rfl rfl (q_field rfl rfl (by exact rfl)) ?_))))
  refine s_q rfl rfl (q_load rfl rfl (by exact (rfl : _ = some (D.sc _)))) ?_
  refine s_q rfl rfl (q_field rfl rfl (by exact rfl)) ?_
  refine s_q rfl rfl (q_load rfl rfl (by exact (rfl : _ = some (D.sc _)))) ?_
  refine s_q rfl rfl (q_build rfl (pt_cons (is_sc rfl) (pt_cons (is_sc rfl) pt_nil)) (by exact (rfl : _ = some [_, _, _, _]))) ?_
  refine s_s rfl rfl (as_alloc0 (id := 2) rfl rfl (by exact (rfl : _ = [_, _, _, _]))) ?_
  refine s_u rfl rfl (as_st rfl rfl (by first | exact (rfl : _ = D.agg [_, _, _, _]) | exact rfl) rfl (by exact rfl) (by exact rfl) (by exact Nat.le_of_ble_eq_true rfl) (by exact (rfl : _ = [_, _, _, _]))) ?_
  refine s_nil (n_n (w_seq (w_seq (w_reg (s_q rfl rfl (q_field rfl rfl (by exact rfl)) ?_)))))
  refine s_q rfl rfl (q_load rfl rfl (by exact (rfl : _ = some (D.sc _)))) ?_
  refine s_nil (n_n (w_block (w_seq (w_reg (s_q rfl rfl (q_eql rfl rfl rfl) ?_)))))
  refine s_q rfl rfl (q_mv (.inr rfl) (is_sc rfl)) ?_
  refine s_nil (n_n (w_ifT rfl (w_reg (s_q rfl rfl (q_field rfl rfl (by exact rfl)) ?_))))
  refine s_q rfl rfl (q_load rfl rfl (by exact (rfl : _ = some (D.sc _)))) ?_
  refine s_q rfl rfl (q_cif rfl rfl) ?_
  refine s_q rfl rfl (q_field rfl rfl (by exact rfl)) ?_
  refine s_q rfl rfl (q_load rfl rfl (by exact (rfl : _ = some (D.sc _)))) ?_
  refine s_q rfl rfl (q_cif rfl rfl) ?_
  refine s_q rfl rfl (q_farith rfl rfl rfl hq) ?_
  refine s_q rfl rfl (q_field rfl rfl (by exact rfl)) ?_
  refine s_u rfl rfl (as_st rfl rfl (is_sc rfl) rfl (by exact rfl) (by exact rfl) (by exact Nat.le_of_ble_eq_true rfl) (by exact (rfl : _ = [_, _, _, _]))) ?_
  refine s_nil (b_n (n_n (w_seq (w_reg (s_q rfl rfl (q_load rfl rfl (by exact (rfl : _ = some (D.agg [_, _, _, _])))) ?_)))))
  refine s_u rfl rfl (as_st rfl rfl (by first | exact (rfl : _ = D.agg [_, _, _, _]) | exact rfl) rfl (by exact rfl) (by exact rfl) (by exact Nat.le_of_ble_eq_true rfl) (by exact (rfl : _ = [_, _, _, _]))) ?_
  refine s_nil (n_n (w_ret ?_))
  -- end 0
  refine r_r (ra_cell (by exact (rfl : _ = some (D.agg [_, _, _, _]))) ra_nil) (by first | exact (rfl : _ = D.agg [_, _, _, _]) | exact rfl) (by exact rfl) sub_no ?_
  rfl


-- pub-tallysheet/laws.of
theorem pf_ofS (s : List UInt8) : PF Tryz.prog G 49 [(strV s).d] (iStr s).d := by
  refine PC.intro rfl Tryz.func49 rfl (Nat.le_of_ble_eq_true rfl) rfl ?_
  refine w_seq (w_reg (s_s rfl rfl (as_box0 (id := 0) rfl (by first | exact (rfl : _ = D.agg [_, _, _, _, _]) | exact rfl) (by exact rfl) rfl (by exact (rfl : _ = [_, _, _, _, _]))) ?_))
  refine s_s rfl rfl (as_alloc0 (id := 1) rfl rfl (by exact (rfl : _ = [_, _, _, _]))) ?_
  refine s_nil (n_n (w_seq (w_reg (s_q rfl rfl (q_field rfl rfl (by exact rfl)) ?_))))
  refine s_q rfl rfl (q_load rfl rfl (by exact (rfl : _ = some (D.sc _)))) ?_
  refine s_q rfl rfl (q_field rfl rfl (by exact rfl)) ?_
  refine s_q rfl rfl (q_load rfl rfl (by exact (rfl : _ = some (D.sc _)))) ?_
  refine s_q rfl rfl (q_build rfl (pt_cons (is_sc rfl) (pt_cons (is_sc rfl) pt_nil)) (by exact (rfl : _ = some [_, _, _, _]))) ?_
  refine s_s rfl rfl (as_alloc0 (id := 2) rfl rfl (by exact (rfl : _ = [_, _, _, _]))) ?_
  refine s_u rfl rfl (as_st rfl rfl (by first | exact (rfl : _ = D.agg [_, _, _, _]) | exact rfl) rfl (by exact rfl) (by exact rfl) (by exact Nat.le_of_ble_eq_true rfl) (by exact (rfl : _ = [_, _, _, _]))) ?_
  refine s_nil (n_n (w_seq (w_seq (w_reg (s_q rfl rfl (q_field rfl rfl (by exact rfl)) ?_)))))
  refine s_q rfl rfl (q_load rfl rfl (by exact (rfl : _ = some (D.sc _)))) ?_
  refine s_nil (n_n (w_block (w_seq (w_reg (s_q rfl rfl (q_eql rfl rfl rfl) ?_)))))
  refine s_q rfl rfl (q_mv (.inr rfl) (is_sc rfl)) ?_
  refine s_nil (n_n (w_ifF rfl (w_seq (w_reg (s_q rfl rfl (q_eql rfl rfl rfl) ?_)))))
  refine s_q rfl rfl (q_mv (.inr rfl) (is_sc rfl)) ?_
  refine s_nil (n_n (w_ifF rfl (w_seq (w_reg (s_q rfl rfl (q_eql rfl rfl rfl) ?_)))))
  refine s_q rfl rfl (q_mv (.inr rfl) (is_sc rfl)) ?_
  refine s_nil (n_n (w_ifF rfl (w_skip (b_n (n_n (w_seq (w_reg (s_q rfl rfl (q_load rfl rfl (by exact (rfl : _ = some (D.agg [_, _, _, _])))) ?_))))))))
  refine s_u rfl rfl (as_st rfl rfl (by first | exact (rfl : _ = D.agg [_, _, _, _]) | exact rfl) rfl (by exact rfl) (by exact rfl) (by exact Nat.le_of_ble_eq_true rfl) (by exact (rfl : _ = [_, _, _, _]))) ?_
  refine s_nil (n_n (w_ret ?_))
  -- end 0
  refine r_r (ra_cell (by exact (rfl : _ = some (D.agg [_, _, _, _]))) ra_nil) (by first | exact (rfl : _ = D.agg [_, _, _, _]) | exact rfl) (by exact rfl) sub_no ?_
  rfl


-- pub-tallysheet/laws.of
theorem pf_ofE (s : List UInt8) : PF Tryz.prog G 49 [(errV s).d] (iErr s).d := by
  refine PC.intro rfl Tryz.func49 rfl (Nat.le_of_ble_eq_true rfl) rfl ?_
  refine w_seq (w_reg (s_s rfl rfl (as_box0 (id := 0) rfl (by first | exact (rfl : _ = D.agg [_, _, _, _, _]) | exact rfl) (by exact rfl) rfl (by exact (rfl : _ = [_, _, _, _, _]))) ?_))
  refine s_s rfl rfl (as_alloc0 (id := 1) rfl rfl (by exact (rfl : _ = [_, _, _, _]))) ?_
  refine s_nil (n_n (w_seq (w_reg (s_q rfl rfl (q_field rfl rfl (by exact rfl)) ?_))))
  refine s_q rfl rfl (q_load rfl rfl (by exact (rfl : _ = some (D.sc _)))) ?_
  refine s_q rfl rfl (q_field rfl rfl (by exact rfl)) ?_
  refine s_q rfl rfl (q_load rfl rfl (by exact (rfl : _ = some (D.sc _)))) ?_
  refine s_q rfl rfl (q_build rfl (pt_cons (is_sc rfl) (pt_cons (is_sc rfl) pt_nil)) (by exact (rfl : _ = some [_, _, _, _]))) ?_
  refine s_s rfl rfl (as_alloc0 (id := 2) rfl rfl (by exact (rfl : _ = [_, _, _, _]))) ?_
  refine s_u rfl rfl (as_st rfl rfl (by first | exact (rfl : _ = D.agg [_, _, _, _]) | exact rfl) rfl (by exact rfl) (by exact rfl) (by exact Nat.le_of_ble_eq_true rfl) (by exact (rfl : _ = [_, _, _, _]))) ?_
  refine s_nil (n_n (w_seq (w_seq (w_reg (s_q rfl rfl (q_field rfl rfl (by exact rfl)) ?_)))))
  refine s_q rfl rfl (q_load rfl rfl (by exact (rfl : _ = some (D.sc _)))) ?_
  refine s_nil (n_n (w_block (w_seq (w_reg (s_q rfl rfl (q_eql rfl rfl rfl) ?_)))))
  refine s_q rfl rfl (q_mv (.inr rfl) (is_sc rfl)) ?_
  refine s_nil (n_n (w_ifF rfl (w_seq (w_reg (s_q rfl rfl (q_eql rfl rfl rfl) ?_)))))
  refine s_q rfl rfl (q_mv (.inr rfl) (is_sc rfl)) ?_
  refine s_nil (n_n (w_ifF rfl (w_seq (w_reg (s_q rfl rfl (q_eql rfl rfl rfl) ?_)))))
  refine s_q rfl rfl (q_mv (.inr rfl) (is_sc rfl)) ?_
  refine s_nil (n_n (w_ifF rfl (w_skip (b_n (n_n (w_seq (w_reg (s_q rfl rfl (q_load rfl rfl (by exact (rfl : _ = some (D.agg [_, _, _, _])))) ?_))))))))
  refine s_u rfl rfl (as_st rfl rfl (by first | exact (rfl : _ = D.agg [_, _, _, _]) | exact rfl) rfl (by exact rfl) (by exact rfl) (by exact Nat.le_of_ble_eq_true rfl) (by exact (rfl : _ = [_, _, _, _]))) ?_
  refine s_nil (n_n (w_ret ?_))
  -- end 0
  refine r_r (ra_cell (by exact (rfl : _ = some (D.agg [_, _, _, _]))) ra_nil) (by first | exact (rfl : _ = D.agg [_, _, _, _]) | exact rfl) (by exact rfl) sub_no ?_
  rfl


-- pub-tallysheet/laws.all
theorem pf_all (l : List V) (hl : l.length < 1000000000) (g : V → IV) (hg : ∀ v ∈ l, PF Tryz.prog G 49 [v.d] (g v).d) : PF Tryz.prog G 32 [lst l] (ilst (l.map g)) := by
  refine PC.intro rfl Tryz.func32 rfl (Nat.le_of_ble_eq_true rfl) rfl ?_
  refine w_seq (w_reg (s_q rfl rfl (q_mv (.inr rfl) (by first | exact is_im rfl | exact is_gs rfl | exact is_lit rfl | exact is_ms rfl | exact is_sc rfl | exact rfl)) ?_))
  refine s_nil (n_n (w_seq (w_reg (s_s rfl rfl (as_nil (e := 57) (.inl rfl) rfl) ?_))))
  refine s_nil (n_n (w_seq (w_seq (w_reg (s_q rfl rfl (q_mv (.inr rfl) (is_sc rfl)) ?_)))))
  refine s_nil (n_n (w_block ?_))
  refine w_loop (fun env A => ∃ (i t : Nat) (live : Nat → Bool) (ln : Nat), i ≤ l.length ∧ Binds env [(0, lst l), (3, .gs t 57 (((l.take i).map g).flatMap IV.c) ((l.take i).map g).length), (4, i64 i)] ∧ A = ⟨[], live, ln, noHeap⟩ ∧ live t = true) (fun env _ => l.length - ctr (env 4)) ?_ ?_
  · exact ⟨0, 0, _, _, Nat.zero_le _, ⟨rfl, rfl, rfl, trivial⟩, rfl, rfl⟩
  · rintro env A ⟨i, t, live, ln, hi, hB, rfl, hv⟩
    rw [hB.eq]; clear hB
    refine w_seq (w_seq (w_reg (s_q rfl rfl (q_mv (.inl rfl) (is_sc rfl)) ?_)))
    refine s_q rfl rfl (q_mv (.inl rfl) (by first | exact is_im rfl | exact is_gs rfl | exact is_lit rfl | exact is_ms rfl | exact is_sc rfl | exact rfl)) ?_
    refine s_q rfl rfl (q_len rfl rfl rfl) ?_
    refine s_q rfl rfl (q_lss rfl rfl rfl) ?_
    refine s_nil (n_n (w_if (is_scb rfl) (fun h8 => ?_) (fun h8 => ?_)))
    · have hlt : i < l.length := by have := of_decide_eq_true h8; omega
      refine w_skip (n_n (w_seq (w_block (w_reg (s_q rfl rfl (q_mv (.inl rfl) (by first | exact is_im rfl | exact is_gs rfl | exact is_lit rfl | exact is_ms rfl | exact is_sc rfl | exact rfl)) ?_)))))
      refine s_q rfl rfl (q_mv (.inl rfl) (by first | exact is_im rfl | exact is_gs rfl | exact is_lit rfl | exact is_ms rfl | exact is_sc rfl | exact rfl)) ?_
      refine s_q rfl rfl (q_mv (.inl rfl) (is_sc rfl)) ?_
      refine s_q rfl rfl (q_index rfl rfl rfl rfl (Int.natCast_nonneg _) (by omega)) ?_
      refine s_q rfl rfl (q_loadPin rfl rfl (by exact take_lst hlt)) ?_
      refine s_q rfl rfl (q_call rfl rfl rfl rfl (hg l[i] (List.getElem_mem hlt))) ?_
      refine s_q rfl rfl (q_bs rfl (pt_cons (by first | exact (rfl : _ = D.agg [_, _, _, _]) | exact rfl) pt_nil) (by decide) (by decide) (by exact (rfl : _ = some [_, _, _, _])) (by exact (rfl : _ = [_, _, _, _])) (by exact rfl) (by exact rfl)) ?_
      refine s_s rfl rfl (as_append rfl rfl hv rfl rfl (by decide) (by exact len_ilst _) (by exact rfl) (by show _ * 56 ≤ _; simp only [List.length_map, List.length_take]; omega) (by show _ ≤ 9223372036854775807; simp only [List.length_map, List.length_take]; omega)) ?_
      refine s_q rfl rfl (q_mv (.inr rfl) (by first | exact is_im rfl | exact is_gs rfl | exact is_lit rfl | exact is_ms rfl | exact is_sc rfl | exact rfl)) ?_
      refine s_nil (b_n (n_n (w_reg (s_q rfl rfl (q_mv (.inl rfl) (is_sc rfl)) ?_))))
      refine s_q rfl rfl (q_add rfl rfl rfl) ?_
      refine s_q rfl rfl (q_mv (.inr rfl) (is_sc rfl)) ?_
      refine s_nil (n_n ?_)
      have hw : IntKind.i64.wrap ((i : Int) + 1) = ((i + 1 : Nat) : Int) := wrap_nat (by omega)
      refine ⟨⟨i + 1, ln, _, _, hlt, ⟨rfl, ?_, i64_eq hw, trivial⟩, rfl, ?_⟩, ?_⟩
      · rw [List.take_succ_eq_append_getElem hlt, List.map_append]; exact gs_catI _ [g l[i]]
      · exact live_app ⟨_, live, ln, noHeap⟩ t
      · show l.length - (IntKind.i64.wrap ((i : Int) + 1)).toNat < l.length - (i : Int).toNat
        rw [hw]; omega
    · have hge : l.length ≤ i := by have := of_decide_eq_false h8; omega
      refine w_exit (n_e (n_e (b_hit (n_n (w_seq (w_reg (s_q rfl rfl (q_mv (.inl rfl) (by first | exact is_im rfl | exact is_gs rfl | exact is_lit rfl | exact is_ms rfl | exact is_sc rfl | exact rfl)) ?_)))))))
      refine s_q rfl rfl (q_mv (.inr rfl) (by first | exact is_im rfl | exact is_gs rfl | exact is_lit rfl | exact is_ms rfl | exact is_sc rfl | exact rfl)) ?_
      refine s_nil (n_n (w_ret ?_))
      -- end 0
      refine r_r (ra_tmp (by first | exact is_im rfl | exact is_gs rfl | exact is_lit rfl | exact is_ms rfl | exact is_sc rfl | exact rfl) ra_nil) (by first | exact is_im rfl | exact is_gs rfl | exact is_lit rfl | exact is_ms rfl | exact is_sc rfl | exact rfl) (by exact rfl) sub_no ?_
      rw [List.take_of_length_le hge]; rfl


-- pub-tallysheet/laws.same
theorem pf_same (k k' : Int) (x x' : Nat) (t t' : List UInt8) (v : V) (ho : PF Tryz.prog G 49 [v.d] (⟨k', x', t', []⟩ : IV).d) : PF Tryz.prog G 31 [(⟨k, x, t, []⟩ : IV).d, v.d] (bl (sameI ⟨k, x, t, []⟩ ⟨k', x', t', []⟩)) := by
  refine PC.intro rfl Tryz.func31 rfl (Nat.le_of_ble_eq_true rfl) rfl ?_
  refine w_seq (w_reg (s_s rfl rfl (as_box0 (id := 0) rfl (by first | exact (rfl : _ = D.agg [_, _, _, _]) | exact rfl) (by exact rfl) rfl (by exact (rfl : _ = [_, _, _, _]))) ?_))
  refine s_s rfl rfl (as_box0 (id := 1) rfl (by first | exact (rfl : _ = D.agg [_, _, _, _, _]) | exact rfl) (by exact rfl) rfl (by exact (rfl : _ = [_, _, _, _, _]))) ?_
  refine s_q rfl rfl (q_mv (.inr rfl) (is_sc rfl)) ?_
  refine s_nil (n_n (w_seq (w_reg (s_q rfl rfl (q_load rfl rfl (by exact (rfl : _ = some (D.agg [_, _, _, _, _])))) ?_))))
  refine s_q rfl rfl (q_call rfl rfl rfl rfl ho) ?_
  refine s_s rfl rfl (as_alloc0 (id := 2) rfl rfl (by exact (rfl : _ = [_, _, _, _]))) ?_
  refine s_u rfl rfl (as_st rfl rfl (by first | exact (rfl : _ = D.agg [_, _, _, _]) | exact rfl) rfl (by exact rfl) (by exact rfl) (by exact Nat.le_of_ble_eq_true rfl) (by exact (rfl : _ = [_, _, _, _]))) ?_
  refine s_nil (n_n (w_seq (w_seq (w_reg (s_q rfl rfl (q_field rfl rfl (by exact rfl)) ?_)))))
  refine s_q rfl rfl (q_load rfl rfl (by exact (rfl : _ = some (D.sc _)))) ?_
  refine s_q rfl rfl (q_field rfl rfl (by exact rfl)) ?_
  refine s_q rfl rfl (q_load rfl rfl (by exact (rfl : _ = some (D.sc _)))) ?_
  refine s_q rfl rfl (q_neq rfl rfl rfl) ?_
  refine s_q rfl rfl (q_mv (.inl rfl) (is_sc rfl)) ?_
  refine s_split 15 (is_scb rfl) (fun h1 => ?_) (fun h1 => ?_)
  · refine s_off rfl rfl ?_
    refine s_off rfl rfl ?_
    refine s_off rfl rfl ?_
    refine s_off rfl rfl ?_
    refine s_off rfl rfl ?_
    refine s_q rfl rfl (q_pickT rfl rfl (is_sc rfl)) ?_
    refine s_q rfl rfl (q_mv (.inl rfl) (is_sc rfl)) ?_
    refine s_off rfl rfl ?_
    refine s_off rfl rfl ?_
    refine s_off rfl rfl ?_
    refine s_off rfl rfl ?_
    refine s_off rfl rfl ?_
    refine s_q rfl rfl (q_pickT rfl rfl (is_sc rfl)) ?_
    refine s_q rfl rfl (q_mv (.inl rfl) (is_sc rfl)) ?_
    refine s_off rfl rfl ?_
    refine s_off rfl rfl ?_
    refine s_off rfl rfl ?_
    refine s_off rfl rfl ?_
    refine s_off rfl rfl ?_
    refine s_off rfl rfl ?_
    refine s_off rfl rfl ?_
    refine s_q rfl rfl (q_pickT rfl rfl (is_sc rfl)) ?_
    refine s_nil (n_n (w_ifT rfl (w_seq (w_reg (s_q rfl rfl (q_mv (.inr rfl) (is_sc rfl)) ?_)))))
    refine s_nil (n_n (w_ret (n_r ?_)))
    -- end 0
    refine r_r (ra_tmp (is_sc rfl) ra_nil) (by exact (is_sc rfl)) (by exact rfl) sub_no ?_
    simp_all [sameI, fcmp_ne]
  · refine s_q rfl rfl (q_field rfl rfl (by exact rfl)) ?_
    refine s_q rfl rfl (q_load rfl rfl (by exact (rfl : _ = some (D.sc _)))) ?_
    refine s_q rfl rfl (q_field rfl rfl (by exact rfl)) ?_
    refine s_q rfl rfl (q_load rfl rfl (by exact (rfl : _ = some (D.sc _)))) ?_
    refine s_q rfl rfl (q_fcmp rfl rfl rfl rfl) ?_
    refine s_q rfl rfl (q_pickF rfl rfl (is_sc rfl)) ?_
    refine s_q rfl rfl (q_mv (.inl rfl) (is_sc rfl)) ?_
    refine s_split 22 (is_scb rfl) (fun h2 => ?_) (fun h2 => ?_)
    · refine s_off rfl rfl ?_
      refine s_off rfl rfl ?_
      refine s_off rfl rfl ?_
      refine s_off rfl rfl ?_
      refine s_off rfl rfl ?_
      refine s_q rfl rfl (q_pickT rfl rfl (is_sc rfl)) ?_
      refine s_q rfl rfl (q_mv (.inl rfl) (is_sc rfl)) ?_
      refine s_off rfl rfl ?_
      refine s_off rfl rfl ?_
      refine s_off rfl rfl ?_
      refine s_off rfl rfl ?_
      refine s_off rfl rfl ?_
      refine s_off rfl rfl ?_
      refine s_off rfl rfl ?_
      refine s_q rfl rfl (q_pickT rfl rfl (is_sc rfl)) ?_
      refine s_nil (n_n (w_ifT rfl (w_seq (w_reg (s_q rfl rfl (q_mv (.inr rfl) (is_sc rfl)) ?_)))))
      refine s_nil (n_n (w_ret (n_r ?_)))
      -- end 1
      refine r_r (ra_tmp (is_sc rfl) ra_nil) (by exact (is_sc rfl)) (by exact rfl) sub_no ?_
      simp_all [sameI, fcmp_ne]
    · refine s_q rfl rfl (q_field rfl rfl (by exact rfl)) ?_
      refine s_q rfl rfl (q_load rfl rfl (by exact (rfl : _ = some (D.sc _)))) ?_
      refine s_q rfl rfl (q_field rfl rfl (by exact rfl)) ?_
      refine s_q rfl rfl (q_load rfl rfl (by exact (rfl : _ = some (D.sc _)))) ?_
      refine s_q rfl rfl (q_nes rfl rfl rfl) ?_
      refine s_q rfl rfl (q_pickF rfl rfl (is_sc rfl)) ?_
      refine s_q rfl rfl (q_mv (.inl rfl) (is_sc rfl)) ?_
      refine s_split 29 (is_scb rfl) (fun h3 => ?_) (fun h3 => ?_)
      · refine s_off rfl rfl ?_
        refine s_off rfl rfl ?_
        refine s_off rfl rfl ?_
        refine s_off rfl rfl ?_
        refine s_off rfl rfl ?_
        refine s_off rfl rfl ?_
        refine s_off rfl rfl ?_
        refine s_q rfl rfl (q_pickT rfl rfl (is_sc rfl)) ?_
        refine s_nil (n_n (w_ifT rfl (w_seq (w_reg (s_q rfl rfl (q_mv (.inr rfl) (is_sc rfl)) ?_)))))
        refine s_nil (n_n (w_ret (n_r ?_)))
        -- end 2
        refine r_r (ra_tmp (is_sc rfl) ra_nil) (by exact (is_sc rfl)) (by exact rfl) sub_no ?_
        simp_all [sameI, fcmp_ne]
      · refine s_q rfl rfl (q_field rfl rfl (by exact rfl)) ?_
        refine s_q rfl rfl (q_load rfl rfl (by exact rfl)) ?_
        refine s_q rfl rfl (q_len rfl rfl rfl) ?_
        refine s_q rfl rfl (q_field rfl rfl (by exact rfl)) ?_
        refine s_q rfl rfl (q_load rfl rfl (by exact rfl)) ?_
        refine s_q rfl rfl (q_len rfl rfl rfl) ?_
        refine s_q rfl rfl (q_neq rfl rfl rfl) ?_
        refine s_q rfl rfl (q_pickF rfl rfl (is_sc rfl)) ?_
        refine s_nil (n_n (w_ifF rfl (w_skip (n_n (w_seq (w_seq (w_reg (s_q rfl rfl (q_mv (.inr rfl) (is_sc rfl)) ?_))))))))
        refine s_nil (n_n (w_block (w_unroll 0 (u_0 ?_))))
        refine w_seq (w_seq (w_reg (s_q rfl rfl (q_mv (.inl rfl) (is_sc rfl)) ?_)))
        refine s_q rfl rfl (q_field rfl rfl (by exact rfl)) ?_
        refine s_q rfl rfl (q_load rfl rfl (by exact rfl)) ?_
        refine s_q rfl rfl (q_len rfl rfl rfl) ?_
        refine s_q rfl rfl (q_lss rfl rfl rfl) ?_
        refine s_nil (n_n (w_ifF rfl (w_exit (n_e (n_e (b_hit (n_n (w_seq (w_reg (s_q rfl rfl (q_mv (.inr rfl) (is_sc rfl)) ?_))))))))))
        refine s_nil (n_n (w_ret ?_))
        -- end 3
        refine r_r (ra_tmp (is_sc rfl) ra_nil) (by exact (is_sc rfl)) (by exact rfl) sub_no ?_
        simp_all [sameI, fcmp_ne]


-- pub-tallysheet/impl.in
theorem pf_in (l : List IV) (hl : l.length < 1000000000) (hr : ∀ v ∈ l, v.rows = []) : PF Tryz.prog G 35 [ilst l] (ilst l) := by
  refine PC.intro rfl Tryz.func35 rfl (Nat.le_of_ble_eq_true rfl) rfl ?_
  refine w_seq (w_reg (s_q rfl rfl (q_mv (.inr rfl) (by first | exact is_im rfl | exact is_gs rfl | exact is_lit rfl | exact is_ms rfl | exact is_sc rfl | exact rfl)) ?_))
  refine s_nil (n_n (w_seq (w_reg (s_s rfl rfl (as_nil (e := 63) (.inl rfl) rfl) ?_))))
  refine s_nil (n_n (w_seq (w_seq (w_reg (s_q rfl rfl (q_mv (.inl rfl) (by first | exact is_im rfl | exact is_gs rfl | exact is_lit rfl | exact is_ms rfl | exact is_sc rfl | exact rfl)) ?_)))))
  refine s_q rfl rfl (q_len rfl rfl rfl) ?_
  refine s_q rfl rfl (q_mv (.inl rfl) (is_sc rfl)) ?_
  refine s_nil (n_n (w_block ?_))
  refine w_loop (fun env A => ∃ (i t : Nat) (o : List LO) (live : Nat → Bool) (ln : Nat), i ≤ l.length ∧ Binds env [(3, .gs t 63 ((l.take i).flatMap IV.c) (l.take i).length), (9, ilst l), (10, i64 l.length), (11, i64 i)] ∧ A = ⟨o, live, ln, noHeap⟩ ∧ live t = true) (fun env _ => l.length - ctr (env 11)) ?_ ?_
  · exact ⟨0, 0, _, _, _, Nat.zero_le _, ⟨rfl, rfl, rfl, rfl, trivial⟩, rfl, rfl⟩
  · rintro env A ⟨i, t, o, live, ln, hi, hB, rfl, hv⟩
    rw [hB.eq]; clear hB
    rw [show (⟨o, live, ln, noHeap⟩ : AH) = ⟨o ++ [], live, ln, noHeap⟩ by rw [List.append_nil]]
    refine w_seq (w_reg (s_q rfl rfl (q_lss rfl rfl rfl) ?_))
    refine s_nil (n_n (w_seq (w_if (is_scb rfl) (fun h12 => ?_) (fun h12 => ?_))))
    · have hlt : i < l.length := by have := of_decide_eq_true h12; omega
      have hr1 := hr _ (List.getElem_mem hlt)
      have hc : IV.c l[i] = [i64 l[i].kind, fl l[i].num, st l[i].text, .im [] 0] := by simp only [IV.c, hr1]; rfl
      refine w_skip (n_n (w_seq (w_block (w_seq (w_reg (s_q rfl rfl (q_index rfl rfl rfl rfl (Int.natCast_nonneg _) (by omega)) ?_))))))
      refine s_q rfl rfl (q_loadPin rfl rfl (by exact take_ilst hlt)) ?_
      refine s_s rfl rfl (as_allocT (os := o) (tail := []) rfl rfl rfl (by exact (rfl : _ = [_, _, _, _]))) ?_
      refine s_u rfl rfl (as_stT (os := o) (tail := [_]) (j := 0) rfl rfl rfl (by first | exact (rfl : _ = D.agg [_, _, _, _]) | exact rfl) (by exact rfl) (by exact rfl) (by exact rfl) (by exact Nat.le_of_ble_eq_true rfl) (by exact (rfl : _ = [_, _, _, _])) (by exact (rfl : _ = [_]))) ?_
      refine s_nil (n_n (w_seq (w_reg (s_q rfl rfl (q_field rfl rfl (by exact rfl)) ?_))))
      refine s_q rfl rfl (q_loadT (os := o) (tail := [_]) (j := 0) rfl rfl rfl (by exact rfl) (by exact (rfl : _ = some (D.sc _)))) ?_
      refine s_q rfl rfl (q_field rfl rfl (by exact rfl)) ?_
      refine s_q rfl rfl (q_loadT (os := o) (tail := [_]) (j := 0) rfl rfl rfl (by exact rfl) (by exact (rfl : _ = some (D.sc _)))) ?_
      refine s_q rfl rfl (q_field rfl rfl (by exact rfl)) ?_
      refine s_q rfl rfl (q_loadT (os := o) (tail := [_]) (j := 0) rfl rfl rfl (by exact rfl) (by exact (rfl : _ = some (D.sc _)))) ?_
      refine s_q rfl rfl (q_build rfl (pt_cons (is_sc rfl) (pt_cons (is_sc rfl) (pt_cons (is_sc rfl) pt_nil))) (by exact (rfl : _ = some [_, _, _, _]))) ?_
      refine s_s rfl rfl (as_allocT (os := o) (tail := [_]) rfl rfl rfl (by exact (rfl : _ = [_, _, _, _]))) ?_
      refine s_u rfl rfl (as_stT (os := o) (tail := [_, _]) (j := 1) rfl rfl rfl (by first | exact (rfl : _ = D.agg [_, _, _, _]) | exact rfl) (by exact rfl) (by exact rfl) (by exact rfl) (by exact Nat.le_of_ble_eq_true rfl) (by exact (rfl : _ = [_, _, _, _])) (by exact (rfl : _ = [_, _]))) ?_
      refine s_nil (n_n (w_seq (w_seq (w_reg (s_q rfl rfl (q_field rfl rfl (by exact rfl)) ?_)))))
      refine s_q rfl rfl (q_loadT (os := o) (tail := [_, _]) (j := 0) rfl rfl rfl (by exact rfl) (by exact rfl)) ?_
      refine s_q rfl rfl (q_len rfl rfl rfl) ?_
      refine s_q rfl rfl (q_mv (.inl rfl) (is_sc rfl)) ?_
      refine s_nil (n_n (w_block (w_unroll 0 (u_0 ?_))))
      refine w_seq (w_reg (s_q rfl rfl (q_lss rfl rfl rfl) ?_))
      refine s_nil (n_n (w_seq (w_ifF (by show D.sc (.bool (decide ((0 : Int) < ((l[i].rows.length : Nat) : Int)))) = _; rw [hr1]; rfl) ?_)))
      refine w_exit (n_e (n_e (b_hit (n_n (w_reg (s_q rfl rfl (q_mv (.inl rfl) (by first | exact is_im rfl | exact is_gs rfl | exact is_lit rfl | exact is_ms rfl | exact is_sc rfl | exact rfl)) ?_))))))
      refine s_q rfl rfl (q_loadT (os := o) (tail := [_, _]) (j := 1) rfl rfl rfl (by exact rfl) (by exact (rfl : _ = some (D.agg [_, _, _, _])))) ?_
      refine s_q rfl rfl (q_bs rfl (pt_cons (by first | exact (rfl : _ = D.agg [_, _, _, _]) | exact rfl) pt_nil) (by decide) (by decide) (by exact (rfl : _ = some [_, _, _, _])) (by exact (rfl : _ = [_, _, _, _])) (by exact rfl) (by exact rfl)) ?_
      refine s_s rfl rfl (as_append rfl rfl hv rfl rfl (by decide) (by exact len_ilst _) (by exact rfl) (by show _ * 56 ≤ _; simp only [List.length_map, List.length_take]; omega) (by show _ ≤ 9223372036854775807; simp only [List.length_map, List.length_take]; omega)) ?_
      refine s_q rfl rfl (q_mv (.inr rfl) (by first | exact is_im rfl | exact is_gs rfl | exact is_lit rfl | exact is_ms rfl | exact is_sc rfl | exact rfl)) ?_
      refine s_nil (b_n (n_n (w_reg (s_q rfl rfl (q_add rfl rfl rfl) ?_))))
      refine s_q rfl rfl (q_mv (.inl rfl) (is_sc rfl)) ?_
      refine s_nil (n_n ?_)
      have hw : IntKind.i64.wrap ((i : Int) + 1) = ((i + 1 : Nat) : Int) := wrap_nat (by omega)
      refine ⟨⟨i + 1, ln, _, _, _, hlt, ⟨?_, rfl, rfl, i64_eq hw, trivial⟩, rfl, ?_⟩, ?_⟩
      · rw [List.take_succ_eq_append_getElem hlt]
        refine Eq.trans ?_ (gs_catI _ [l[i]])
        refine gs_eq ?_ rfl
        rw [show [l[i]].flatMap IV.c = IV.c l[i] by simp, hc]; rfl
      · exact live_app ⟨_, live, ln, noHeap⟩ t
      · show l.length - (IntKind.i64.wrap ((i : Int) + 1)).toNat < l.length - (i : Int).toNat
        rw [hw]; omega
    · have hge : l.length ≤ i := by have := of_decide_eq_false h12; omega
      refine w_exit (n_e (n_e (b_hit (n_n (w_seq (w_reg (s_q rfl rfl (q_mv (.inl rfl) (by first | exact is_im rfl | exact is_gs rfl | exact is_lit rfl | exact is_ms rfl | exact is_sc rfl | exact rfl)) ?_)))))))
      refine s_q rfl rfl (q_mv (.inr rfl) (by first | exact is_im rfl | exact is_gs rfl | exact is_lit rfl | exact is_ms rfl | exact is_sc rfl | exact rfl)) ?_
      refine s_nil (n_n (w_ret ?_))
      -- end 0
      refine r_r (ra_tmp (by first | exact is_im rfl | exact is_gs rfl | exact is_lit rfl | exact is_ms rfl | exact is_sc rfl | exact rfl) ra_nil) (by first | exact is_im rfl | exact is_gs rfl | exact is_lit rfl | exact is_ms rfl | exact is_sc rfl | exact rfl) (by exact rfl) sub_no ?_
      rw [List.take_of_length_le hge]; rfl


-- pub-tallysheet/impl.out
theorem pf_out (k : Int) (x : Nat) (t : List UInt8) : PF Tryz.prog G 33 [(⟨k, x, t, []⟩ : IV).d] (⟨k, x, t, []⟩ : IV).d := by
  refine PC.intro rfl Tryz.func33 rfl (Nat.le_of_ble_eq_true rfl) rfl ?_
  refine w_seq (w_reg (s_s rfl rfl (as_box0 (id := 0) rfl (by first | exact (rfl : _ = D.agg [_, _, _, _]) | exact rfl) (by exact rfl) rfl (by exact (rfl : _ = [_, _, _, _]))) ?_))
  refine s_s rfl rfl (as_alloc0 (id := 1) rfl rfl (by exact (rfl : _ = [_, _, _, _]))) ?_
  refine s_nil (n_n (w_seq (w_reg (s_q rfl rfl (q_field rfl rfl (by exact rfl)) ?_))))
  refine s_q rfl rfl (q_load rfl rfl (by exact (rfl : _ = some (D.sc _)))) ?_
  refine s_q rfl rfl (q_field rfl rfl (by exact rfl)) ?_
  refine s_q rfl rfl (q_load rfl rfl (by exact (rfl : _ = some (D.sc _)))) ?_
  refine s_q rfl rfl (q_field rfl rfl (by exact rfl)) ?_
  refine s_q rfl rfl (q_load rfl rfl (by exact (rfl : _ = some (D.sc _)))) ?_
  refine s_q rfl rfl (q_build rfl (pt_cons (is_sc rfl) (pt_cons (is_sc rfl) (pt_cons (is_sc rfl) pt_nil))) (by exact (rfl : _ = some [_, _, _, _]))) ?_
  refine s_s rfl rfl (as_alloc0 (id := 2) rfl rfl (by exact (rfl : _ = [_, _, _, _]))) ?_
  refine s_u rfl rfl (as_st rfl rfl (by first | exact (rfl : _ = D.agg [_, _, _, _]) | exact rfl) rfl (by exact rfl) (by exact rfl) (by exact Nat.le_of_ble_eq_true rfl) (by exact (rfl : _ = [_, _, _, _]))) ?_
  refine s_nil (n_n (w_seq (w_seq (w_reg (s_q rfl rfl (q_field rfl rfl (by exact rfl)) ?_)))))
  refine s_q rfl rfl (q_load rfl rfl (by exact rfl)) ?_
  refine s_q rfl rfl (q_len rfl rfl rfl) ?_
  refine s_q rfl rfl (q_mv (.inl rfl) (is_sc rfl)) ?_
  refine s_nil (n_n (w_block (w_unroll 0 (u_0 ?_))))
  refine w_seq (w_reg (s_q rfl rfl (q_lss rfl rfl rfl) ?_))
  refine s_nil (n_n (w_seq (w_ifF rfl (w_exit (n_e (n_e (b_hit (n_n (w_seq (w_reg (s_q rfl rfl (q_load rfl rfl (by exact (rfl : _ = some (D.agg [_, _, _, _])))) ?_)))))))))))
  refine s_u rfl rfl (as_st rfl rfl (by first | exact (rfl : _ = D.agg [_, _, _, _]) | exact rfl) rfl (by exact rfl) (by exact rfl) (by exact Nat.le_of_ble_eq_true rfl) (by exact (rfl : _ = [_, _, _, _]))) ?_
  refine s_nil (n_n (w_ret ?_))
  -- end 0
  refine r_r (ra_cell (by exact (rfl : _ = some (D.agg [_, _, _, _]))) ra_nil) (by first | exact (rfl : _ = D.agg [_, _, _, _]) | exact rfl) (by exact rfl) sub_no ?_
  rfl

end Go.Proofs.YtpjckdhgefbonaaGreatDoor.Zz
