/- Walks of the functions, printed by program, and the logic behind them: each theorem says what one function or one step answers. -/
import Derived.Test.YtopgbalmdocboaaGreatDoorZSa
import Derived.Test.YtopgbalmdocboaaGreatDoorZSrt
namespace Go.Proofs.YtopgbalmdocboaaGreatDoor.Zz
open Go.Abs
set_option maxRecDepth 100000
set_option linter.unusedVariables false
set_option linter.unusedSimpArgs false
set_option maxHeartbeats 4000000
variable {G : Nat → D}
open Go.Sort

-- slices.order2Ordered[float64]
theorem pf_order2 (h : Heap) (id cap n c : Nat) (d : Array FF) (sp : List D) (hn : d.size = n) (hn9 : n ≤ 1000000) (hne : id ≠ c) (hid : h id = some (fls d ++ sp)) (s : Nat) (hc : h c = some [i64 s]) (hs : s ≤ 100) (lo hi : Nat) (hhi : hi ≤ n) (a b : Nat) (ha : lo ≤ a ∧ a < hi) (hb : lo ≤ b ∧ b < hi) : ACall Tryz.prog G 342 true [.hs id 0 n cap, i64 a, i64 b, .hp c 0] h (fun v h' => ∃ x y s' : Nat, v = .tup [i64 x, i64 y] ∧ (lo ≤ x ∧ x < hi) ∧ (lo ≤ y ∧ y < hi) ∧ s' ≤ s + 1 ∧ h' = setH h c [i64 s']) := by
  refine ACall.intro rfl Tryz.func342 rfl (Nat.le_of_ble_eq_true rfl) rfl ?_
  refine w_seq (w_reg (s_q rfl rfl (q_mv (.inr rfl) (is_sc rfl)) ?_))
  refine s_q rfl rfl (q_mv (.inr rfl) (is_sc rfl)) ?_
  refine s_nil (n_n (w_seq (w_seq (w_draw [0, 0, 3, 7, 0, 0, 48, 112, 255] [0, 0, 0, 1, 0, 0, 0, 1, 0] rfl ?_))))
  refine d_q0 rfl rfl (q_mv (.inl rfl) (by first | exact is_im rfl | exact is_gs rfl | exact is_lit rfl | exact is_ms rfl | exact is_sc rfl | exact rfl)) ?_
  refine d_q0 rfl rfl (q_mv (.inl rfl) (is_sc rfl)) ?_
  refine d_q0 rfl rfl (q_indexHs rfl rfl rfl (by omega) (by omega)) ?_
  refine d_q1 rfl rfl (q_loadF (h := h) (i := b) (d := d) rfl rfl (setH_self hid).symm (by omega) (by omega)) ?_
  refine d_q0 rfl rfl (q_mv (.inl rfl) (by first | exact is_im rfl | exact is_gs rfl | exact is_lit rfl | exact is_ms rfl | exact is_sc rfl | exact rfl)) ?_
  refine d_q0 rfl rfl (q_mv (.inl rfl) (is_sc rfl)) ?_
  refine d_q0 rfl rfl (q_indexHs rfl rfl rfl (by omega) (by omega)) ?_
  refine d_q1 rfl rfl (q_loadF (h := h) (i := a) (d := d) rfl rfl (setH_self hid).symm (by omega) (by omega)) ?_
  refine d_q0 rfl rfl (q_call rfl rfl rfl rfl (pf_so_Less _ _)) ?_
  refine d_nil (n_n (w_if (is_scb rfl) (fun h18 => ?_) (fun h18 => ?_)))
  · refine w_seq (w_reg (s_q rfl rfl (q_mv (.inl rfl) (by first | exact is_box rfl | exact is_hp rfl | exact is_pin rfl | exact is_sc rfl | exact rfl)) ?_))
    refine s_q rfl rfl (q_nil rfl rfl rfl) ?_
    refine s_q rfl rfl (q_loadH (d := i64 s) rfl rfl (show Heap.get h c 0 = some (i64 s) by simp [Heap.get, hc])) ?_
    refine s_q rfl rfl (q_as (i64_eq ((wrap_id (by omega) (by omega)).trans (by omega) : _ = ((s + 1 : Nat) : Int))) (q_add rfl rfl rfl)) ?_
    refine s_q rfl rfl (q_nil rfl rfl rfl) ?_
    refine s_u rfl rfl (as_storeP (k := c) (off := 0) (n := 1) (d := i64 ((s + 1 : Nat) : Int)) rfl rfl rfl (show Heap.len h c = some 1 by simp [Heap.len, hc]) (by omega) rfl rfl rfl) ?_
    refine s_nil (n_n (w_seq (w_reg (s_q rfl rfl (q_mv (.inl rfl) (is_sc rfl)) ?_))))
    refine s_q rfl rfl (q_mv (.inl rfl) (is_sc rfl)) ?_
    refine s_q rfl rfl (q_mv (.inr rfl) (is_sc rfl)) ?_
    refine s_q rfl rfl (q_mv (.inr rfl) (is_sc rfl)) ?_
    refine s_nil (n_n (w_ret (n_r ?_)))
    -- end 0
    refine r_r (ra_tmp (is_sc rfl) (ra_tmp (is_sc rfl) ra_nil)) (by exact (rfl : _ = D.tup [_, _])) (by exact rfl) (Sub.refl _) ?_
    exact ⟨b, a, s + 1, rfl, hb, ha, Nat.le_refl _, put_one hc⟩
  · refine w_skip (n_n (w_seq (w_reg (s_q rfl rfl (q_mv (.inl rfl) (is_sc rfl)) ?_))))
    refine s_q rfl rfl (q_mv (.inl rfl) (is_sc rfl)) ?_
    refine s_q rfl rfl (q_mv (.inr rfl) (is_sc rfl)) ?_
    refine s_q rfl rfl (q_mv (.inr rfl) (is_sc rfl)) ?_
    refine s_nil (n_n (w_ret ?_))
    -- end 1
    refine r_r (ra_tmp (is_sc rfl) (ra_tmp (is_sc rfl) ra_nil)) (by exact (rfl : _ = D.tup [_, _])) (by exact rfl) (Sub.refl _) ?_
    exact ⟨a, b, s, rfl, ha, hb, Nat.le_succ _, (setH_self hc).symm⟩


-- slices.medianOrdered[float64]
theorem pf_median3 (h : Heap) (id cap n c : Nat) (d : Array FF) (sp : List D) (hn : d.size = n) (hn9 : n ≤ 1000000) (hne : id ≠ c) (hid : h id = some (fls d ++ sp)) (s : Nat) (hc : h c = some [i64 s]) (hs : s ≤ 90) (lo hi : Nat) (hhi : hi ≤ n) (a b e : Nat) (ha : lo ≤ a ∧ a < hi) (hb : lo ≤ b ∧ b < hi) (he : lo ≤ e ∧ e < hi) : ACall Tryz.prog G 306 true [.hs id 0 n cap, i64 a, i64 b, i64 e, .hp c 0] h (fun v h' => ∃ x s' : Nat, v = i64 x ∧ (lo ≤ x ∧ x < hi) ∧ s' ≤ s + 3 ∧ h' = setH h c [i64 s']) := by
  refine ACall.intro rfl Tryz.func306 rfl (Nat.le_of_ble_eq_true rfl) rfl ?_
  refine w_seq (w_reg (s_q rfl rfl (q_mv (.inr rfl) (is_sc rfl)) ?_))
  refine s_nil (n_n (w_seq (w_reg (s_q rfl rfl (q_mv (.inl rfl) (by first | exact is_im rfl | exact is_gs rfl | exact is_lit rfl | exact is_ms rfl | exact is_sc rfl | exact rfl)) ?_))))
  refine s_q rfl rfl (q_mv (.inl rfl) (is_sc rfl)) ?_
  refine s_q rfl rfl (q_mv (.inl rfl) (is_sc rfl)) ?_
  refine s_q rfl rfl (q_mv (.inl rfl) (by first | exact is_box rfl | exact is_hp rfl | exact is_pin rfl | exact is_sc rfl | exact rfl)) ?_
  refine s_o rfl rfl (ao_callH rfl rfl rfl rfl (pf_order2 h id cap n c d sp hn hn9 hne hid s hc (by omega) lo hi hhi a b ha hb) fun v16 Hv16 hv16 => ?_)
  obtain ⟨x1, y1, s1, rfl, hx1, hy1, hs1, rfl⟩ := hv16
  refine s_q rfl rfl (q_mv (.inl rfl) (by first | exact (rfl : _ = D.tup [_, _]) | exact rfl)) ?_
  refine s_q rfl rfl (q_extract rfl rfl rfl) ?_
  refine s_q rfl rfl (q_extract rfl rfl rfl) ?_
  refine s_q rfl rfl (q_mv (.inr rfl) (is_sc rfl)) ?_
  refine s_q rfl rfl (q_mv (.inr rfl) (is_sc rfl)) ?_
  refine s_nil (n_n (w_seq (w_reg (s_q rfl rfl (q_mv (.inl rfl) (by first | exact is_im rfl | exact is_gs rfl | exact is_lit rfl | exact is_ms rfl | exact is_sc rfl | exact rfl)) ?_))))
  refine s_q rfl rfl (q_mv (.inl rfl) (is_sc rfl)) ?_
  refine s_q rfl rfl (q_mv (.inl rfl) (is_sc rfl)) ?_
  refine s_q rfl rfl (q_mv (.inl rfl) (by first | exact is_box rfl | exact is_hp rfl | exact is_pin rfl | exact is_sc rfl | exact rfl)) ?_
  refine s_o rfl rfl (ao_callH rfl rfl rfl rfl (pf_order2 (setH h c [i64 (s1 : Nat)]) id cap n c d sp hn hn9 hne (by rw [setH_off hne]; exact hid) s1 (setH_at _ _ _) (by omega) lo hi hhi y1 e hy1 he) fun v24 Hv24 hv24 => ?_)
  obtain ⟨x2, y2, s2, rfl, hx2, hy2, hs2, rfl⟩ := hv24
  rw [setH_setH]
  refine s_q rfl rfl (q_mv (.inl rfl) (by first | exact (rfl : _ = D.tup [_, _]) | exact rfl)) ?_
  refine s_q rfl rfl (q_extract rfl rfl rfl) ?_
  refine s_q rfl rfl (q_extract rfl rfl rfl) ?_
  refine s_q rfl rfl (q_mv (.inr rfl) (is_sc rfl)) ?_
  refine s_q rfl rfl (q_mv (.inr rfl) (is_sc rfl)) ?_
  refine s_nil (n_n (w_seq (w_reg (s_q rfl rfl (q_mv (.inl rfl) (by first | exact is_im rfl | exact is_gs rfl | exact is_lit rfl | exact is_ms rfl | exact is_sc rfl | exact rfl)) ?_))))
  refine s_q rfl rfl (q_mv (.inl rfl) (is_sc rfl)) ?_
  refine s_q rfl rfl (q_mv (.inl rfl) (is_sc rfl)) ?_
  refine s_q rfl rfl (q_mv (.inl rfl) (by first | exact is_box rfl | exact is_hp rfl | exact is_pin rfl | exact is_sc rfl | exact rfl)) ?_
  refine s_o rfl rfl (ao_callH rfl rfl rfl rfl (pf_order2 (setH h c [i64 (s2 : Nat)]) id cap n c d sp hn hn9 hne (by rw [setH_off hne]; exact hid) s2 (setH_at _ _ _) (by omega) lo hi hhi x1 x2 hx1 hx2) fun v32 Hv32 hv32 => ?_)
  obtain ⟨x3, y3, s3, rfl, hx3, hy3, hs3, rfl⟩ := hv32
  rw [setH_setH]
  refine s_q rfl rfl (q_mv (.inl rfl) (by first | exact (rfl : _ = D.tup [_, _]) | exact rfl)) ?_
  refine s_q rfl rfl (q_extract rfl rfl rfl) ?_
  refine s_q rfl rfl (q_extract rfl rfl rfl) ?_
  refine s_q rfl rfl (q_mv (.inr rfl) (is_sc rfl)) ?_
  refine s_q rfl rfl (q_mv (.inr rfl) (is_sc rfl)) ?_
  refine s_nil (n_n (w_seq (w_reg (s_q rfl rfl (q_mv (.inl rfl) (is_sc rfl)) ?_))))
  refine s_q rfl rfl (q_mv (.inr rfl) (is_sc rfl)) ?_
  refine s_nil (n_n (w_ret ?_))
  -- end 0
  refine r_r (ra_tmp (is_sc rfl) ra_nil) (by exact (is_sc rfl)) (by exact rfl) (Sub.refl _) ?_
  exact ⟨y3, s3, rfl, hy3, by omega, rfl⟩


-- slices.medianAdjacentOrdered[float64]
theorem pf_medAdj (h : Heap) (id cap n c : Nat) (d : Array FF) (sp : List D) (hn : d.size = n) (hn9 : n ≤ 1000000) (hne : id ≠ c) (hid : h id = some (fls d ++ sp)) (s : Nat) (hc : h c = some [i64 s]) (hs : s ≤ 90) (lo hi : Nat) (hhi : hi ≤ n) (a : Nat) (ha1 : lo < a) (ha2 : a + 1 < hi) : ACall Tryz.prog G 305 true [.hs id 0 n cap, i64 a, .hp c 0] h (fun v h' => ∃ x s' : Nat, v = i64 x ∧ (lo ≤ x ∧ x < hi) ∧ s' ≤ s + 3 ∧ h' = setH h c [i64 s']) := by
  refine ACall.intro rfl Tryz.func305 rfl (Nat.le_of_ble_eq_true rfl) rfl ?_
  refine w_seq (w_reg (s_q rfl rfl (q_mv (.inr rfl) (is_sc rfl)) ?_))
  refine s_nil (n_n (w_seq (w_reg (s_q rfl rfl (q_mv (.inl rfl) (by first | exact is_im rfl | exact is_gs rfl | exact is_lit rfl | exact is_ms rfl | exact is_sc rfl | exact rfl)) ?_))))
  refine s_q rfl rfl (q_mv (.inl rfl) (is_sc rfl)) ?_
  refine s_q rfl rfl (q_as (i64_eq ((wrap_id (by omega) (by omega)).trans (by omega) : _ = ((a - 1 : Nat) : Int))) (q_sub rfl rfl rfl)) ?_
  refine s_q rfl rfl (q_mv (.inl rfl) (is_sc rfl)) ?_
  refine s_q rfl rfl (q_mv (.inl rfl) (is_sc rfl)) ?_
  refine s_q rfl rfl (q_as (i64_eq ((wrap_id (by omega) (by omega)).trans (by omega) : _ = ((a + 1 : Nat) : Int))) (q_add rfl rfl rfl)) ?_
  refine s_q rfl rfl (q_mv (.inl rfl) (by first | exact is_box rfl | exact is_hp rfl | exact is_pin rfl | exact is_sc rfl | exact rfl)) ?_
  refine s_o rfl rfl (ao_callH rfl rfl rfl rfl (pf_median3 h id cap n c d sp hn hn9 hne hid s hc hs lo hi hhi (a - 1) a (a + 1) (by omega) (by omega) (by omega)) fun v14 Hv14 hv14 => ?_)
  obtain ⟨x, s1, rfl, hx, hs1, rfl⟩ := hv14
  refine s_q rfl rfl (q_mv (.inr rfl) (is_sc rfl)) ?_
  refine s_nil (n_n (w_ret ?_))
  -- end 0
  refine r_r (ra_tmp (is_sc rfl) ra_nil) (by exact (is_sc rfl)) (by exact rfl) (Sub.refl _) ?_
  exact ⟨x, s1, rfl, hx, hs1, rfl⟩


-- slices.choosePivotOrdered[float64]
theorem pf_pivot (h : Heap) (id cap n : Nat) (d : Array FF) (sp : List D) (hn : d.size = n) (hn9 : n ≤ 1000000) (a b : Nat) (hab : 12 < b - a) (hb : b ≤ n) : ACall Tryz.prog G 271 true [.hs id 0 n cap, i64 a, i64 b] (setH h id (fls d ++ sp)) (fun v h' => ∃ (h2 : Heap) (p : Nat) (x : Int), v = .tup [i64 p, i64 x] ∧ (a ≤ p ∧ p < b) ∧ h' = setH h2 id (fls d ++ sp) ∧ Keep h h2 []) := by
  refine ACall.intro rfl Tryz.func271 rfl (Nat.le_of_ble_eq_true rfl) rfl ?_
  refine w_seq (w_reg (s_q rfl rfl (q_mv (.inr rfl) (is_sc rfl)) ?_))
  refine s_q rfl rfl (q_mv (.inr rfl) (is_sc rfl)) ?_
  refine s_nil (n_n (w_seq (w_reg (s_q rfl rfl (q_mv (.inl rfl) (is_sc rfl)) ?_))))
  refine s_q rfl rfl (q_mv (.inl rfl) (is_sc rfl)) ?_
  refine s_q rfl rfl (q_as (i64_eq ((wrap_id (by omega) (by omega)).trans (by omega) : _ = ((b - a : Nat) : Int))) (q_sub rfl rfl rfl)) ?_
  refine s_q rfl rfl (q_mv (.inr rfl) (is_sc rfl)) ?_
  refine s_nil (n_n (w_seq (w_reg (s_o rfl rfl (ao_allocH rfl fun k9 hk9 => ?_)))))
  obtain ⟨hne9, hk9n⟩ := fresh_off hk9
  replace hne9 := hne9.symm
  rw [show AH.hset (AH.start (setH h id (fls d ++ sp))) k9 (List.map D.sc [Value.int .i64 0]) = AH.start (setH (setH h k9 [i64 0]) id (fls d ++ sp)) from congrArg AH.start (hset_new hne9.symm)]
  obtain ⟨s0, hs0⟩ : ∃ s0 : Nat, s0 = 0 := ⟨0, rfl⟩
  rw [show (i64 0) = i64 ((s0 : Nat) : Int) by rw [hs0]; rfl]
  refine s_nil (n_n (w_seq (w_reg (s_q rfl rfl (q_mv (.inl rfl) (is_sc rfl)) ?_))))
  refine s_q rfl rfl (q_mv (.inl rfl) (is_sc rfl)) ?_
  refine s_q rfl rfl (q_as (i64_eq (show IntKind.i64.wrap (((b - a : Nat) : Int).tdiv 4) = (((b - a) / 4 : Nat) : Int) by rw [Int.tdiv_eq_ediv_of_nonneg (by omega)]; exact (wrap_id (by omega) (by omega)).trans (by omega))) (q_quo rfl rfl rfl (by decide))) ?_
  refine s_q rfl rfl (q_as (i64_eq ((wrap_id (by omega) (by omega)).trans (by omega) : _ = (((b - a) / 4 * 1 : Nat) : Int))) (q_mul rfl rfl rfl)) ?_
  refine s_q rfl rfl (q_as (i64_eq ((wrap_id (by omega) (by omega)).trans (by omega) : _ = ((a + (b - a) / 4 * 1 : Nat) : Int))) (q_add rfl rfl rfl)) ?_
  refine s_q rfl rfl (q_mv (.inr rfl) (is_sc rfl)) ?_
  refine s_nil (n_n (w_seq (w_reg (s_q rfl rfl (q_mv (.inl rfl) (is_sc rfl)) ?_))))
  refine s_q rfl rfl (q_mv (.inl rfl) (is_sc rfl)) ?_
  refine s_q rfl rfl (q_as (i64_eq (show IntKind.i64.wrap (((b - a : Nat) : Int).tdiv 4) = (((b - a) / 4 : Nat) : Int) by rw [Int.tdiv_eq_ediv_of_nonneg (by omega)]; exact (wrap_id (by omega) (by omega)).trans (by omega))) (q_quo rfl rfl rfl (by decide))) ?_
  refine s_q rfl rfl (q_as (i64_eq ((wrap_id (by omega) (by omega)).trans (by omega) : _ = (((b - a) / 4 * 2 : Nat) : Int))) (q_mul rfl rfl rfl)) ?_
  refine s_q rfl rfl (q_as (i64_eq ((wrap_id (by omega) (by omega)).trans (by omega) : _ = ((a + (b - a) / 4 * 2 : Nat) : Int))) (q_add rfl rfl rfl)) ?_
  refine s_q rfl rfl (q_mv (.inr rfl) (is_sc rfl)) ?_
  refine s_nil (n_n (w_seq (w_reg (s_q rfl rfl (q_mv (.inl rfl) (is_sc rfl)) ?_))))
  refine s_q rfl rfl (q_mv (.inl rfl) (is_sc rfl)) ?_
  refine s_q rfl rfl (q_as (i64_eq (show IntKind.i64.wrap (((b - a : Nat) : Int).tdiv 4) = (((b - a) / 4 : Nat) : Int) by rw [Int.tdiv_eq_ediv_of_nonneg (by omega)]; exact (wrap_id (by omega) (by omega)).trans (by omega))) (q_quo rfl rfl rfl (by decide))) ?_
  refine s_q rfl rfl (q_as (i64_eq ((wrap_id (by omega) (by omega)).trans (by omega) : _ = (((b - a) / 4 * 3 : Nat) : Int))) (q_mul rfl rfl rfl)) ?_
  refine s_q rfl rfl (q_as (i64_eq ((wrap_id (by omega) (by omega)).trans (by omega) : _ = ((a + (b - a) / 4 * 3 : Nat) : Int))) (q_add rfl rfl rfl)) ?_
  refine s_q rfl rfl (q_mv (.inr rfl) (is_sc rfl)) ?_
  refine s_nil (n_n (w_seq (w_seq (w_reg (s_q rfl rfl (q_mv (.inl rfl) (is_sc rfl)) ?_)))))
  refine s_q rfl rfl (q_as (bl_yes (show (8 : Int) ≤ ((b - a : Nat) : Int) by omega)) (q_geq rfl rfl rfl)) ?_
  refine s_nil (n_n (w_ifT rfl (w_seq (w_joinQ (fun env A => ∃ p q r s : Nat, (a ≤ p ∧ p < b) ∧ (a ≤ q ∧ q < b) ∧ (a ≤ r ∧ r < b) ∧ s ≤ 9 ∧ Binds env [(0, .hs id 0 n cap), (9, .hp k9 0), (10, i64 p), (11, i64 q), (12, i64 r)] ∧ A = AH.start (setH (setH h k9 [i64 (s : Nat)]) id (fls d ++ sp))) ?_ ?_))))
  · refine w_seq (w_reg (s_q rfl rfl (q_mv (.inl rfl) (is_sc rfl)) ?_))
    refine s_q rfl rfl (q_geq rfl rfl rfl) ?_
    refine s_nil (n_n (w_if (is_scb rfl) (fun h34 => ?_) (fun h34 => ?_)))
    · have h50 : 50 ≤ b - a := by have h' : (50 : Int) ≤ ((b - a : Nat) : Int) := of_decide_eq_true h34; omega
      refine w_seq (w_reg (s_q rfl rfl (q_mv (.inl rfl) (by first | exact is_im rfl | exact is_gs rfl | exact is_lit rfl | exact is_ms rfl | exact is_sc rfl | exact rfl)) ?_))
      refine s_q rfl rfl (q_mv (.inl rfl) (is_sc rfl)) ?_
      refine s_o rfl rfl (ao_callH rfl rfl rfl rfl (pf_medAdj (setH (setH h k9 [i64 (s0 : Nat)]) id (fls d ++ sp)) id cap n k9 d sp hn hn9 hne9 (setH_at _ _ _) s0 (by rw [setH_off hne9.symm, setH_at]) (by omega) a b hb (a + (b - a) / 4 * 1) (by omega) (by omega)) fun v37 Hv37 hv37 => ?_)
      obtain ⟨x1, s1, rfl, hx1, hs1, rfl⟩ := hv37
      rw [setH_comm hne9, setH_setH]
      refine s_q rfl rfl (q_mv (.inr rfl) (is_sc rfl)) ?_
      refine s_nil (n_n (w_seq (w_reg (s_q rfl rfl (q_mv (.inl rfl) (by first | exact is_im rfl | exact is_gs rfl | exact is_lit rfl | exact is_ms rfl | exact is_sc rfl | exact rfl)) ?_))))
      refine s_q rfl rfl (q_mv (.inl rfl) (is_sc rfl)) ?_
      refine s_o rfl rfl (ao_callH rfl rfl rfl rfl (pf_medAdj (setH (setH h k9 [i64 (s1 : Nat)]) id (fls d ++ sp)) id cap n k9 d sp hn hn9 hne9 (setH_at _ _ _) s1 (by rw [setH_off hne9.symm, setH_at]) (by omega) a b hb (a + (b - a) / 4 * 2) (by omega) (by omega)) fun v40 Hv40 hv40 => ?_)
      obtain ⟨x2, s2, rfl, hx2, hs2, rfl⟩ := hv40
      rw [setH_comm hne9, setH_setH]
      refine s_q rfl rfl (q_mv (.inr rfl) (is_sc rfl)) ?_
      refine s_nil (n_n (w_reg (s_q rfl rfl (q_mv (.inl rfl) (by first | exact is_im rfl | exact is_gs rfl | exact is_lit rfl | exact is_ms rfl | exact is_sc rfl | exact rfl)) ?_)))
      refine s_q rfl rfl (q_mv (.inl rfl) (is_sc rfl)) ?_
      refine s_o rfl rfl (ao_callH rfl rfl rfl rfl (pf_medAdj (setH (setH h k9 [i64 (s2 : Nat)]) id (fls d ++ sp)) id cap n k9 d sp hn hn9 hne9 (setH_at _ _ _) s2 (by rw [setH_off hne9.symm, setH_at]) (by omega) a b hb (a + (b - a) / 4 * 3) (by omega) (by omega)) fun v43 Hv43 hv43 => ?_)
      obtain ⟨x3, s3, rfl, hx3, hs3, rfl⟩ := hv43
      rw [setH_comm hne9, setH_setH]
      refine s_q rfl rfl (q_mv (.inr rfl) (is_sc rfl)) ?_
      refine s_nil (j_n ?_)
      exact ⟨x1, x2, x3, s3, hx1, hx2, hx3, by omega, ⟨rfl, rfl, rfl, rfl, rfl, trivial⟩, rfl⟩
    · refine w_skip (j_n ?_)
      exact ⟨_, _, _, s0, by omega, by omega, by omega, by omega, ⟨rfl, rfl, rfl, rfl, rfl, trivial⟩, rfl⟩
  · rintro env A ⟨p, q, r, s1, hp, hq, hr, hs1, hB, rfl⟩
    rw [hB.eq]; clear hB
    refine n_n (w_reg (s_q rfl rfl (q_mv (.inl rfl) (by first | exact is_im rfl | exact is_gs rfl | exact is_lit rfl | exact is_ms rfl | exact is_sc rfl | exact rfl)) ?_))
    refine s_q rfl rfl (q_mv (.inl rfl) (is_sc rfl)) ?_
    refine s_q rfl rfl (q_mv (.inl rfl) (is_sc rfl)) ?_
    refine s_q rfl rfl (q_mv (.inl rfl) (is_sc rfl)) ?_
    refine s_o rfl rfl (ao_callH rfl rfl rfl rfl (pf_median3 (setH (setH h k9 [i64 (s1 : Nat)]) id (fls d ++ sp)) id cap n k9 d sp hn hn9 hne9 (setH_at _ _ _) s1 (by rw [setH_off hne9.symm, setH_at]) (by omega) a b hb p q r hp hq hr) fun v48 Hv48 hv48 => ?_)
    obtain ⟨y, s2, rfl, hy, hs2, rfl⟩ := hv48
    rw [setH_comm hne9, setH_setH]
    refine s_q rfl rfl (q_mv (.inr rfl) (is_sc rfl)) ?_
    refine s_nil (n_n (w_seq (w_reg (s_q rfl rfl (q_loadH (d := i64 ((s2 : Nat) : Int)) rfl rfl (show Heap.get (setH (setH h k9 [i64 (s2 : Nat)]) id (fls d ++ sp)) k9 0 = some (i64 s2) by simp only [Heap.get, setH_off hne9.symm, setH_at]; rfl)) ?_))))
    refine s_nil (n_n (w_block (w_seq (w_reg (s_q rfl rfl (q_eql rfl rfl rfl) ?_)))))
    refine s_q rfl rfl (q_mv (.inr rfl) (is_sc rfl)) ?_
    refine s_nil (n_n (w_if (is_scb rfl) (fun h51 => ?_) (fun h51 => ?_)))
    · refine w_seq (w_reg (s_q rfl rfl (q_mv (.inl rfl) (is_sc rfl)) ?_))
      refine s_q rfl rfl (q_mv (.inr rfl) (is_sc rfl)) ?_
      refine s_q rfl rfl (q_mv (.inr rfl) (is_sc rfl)) ?_
      refine s_nil (n_n (w_ret (b_r ?_)))
      -- end 0
      refine r_r (ra_tmp (is_sc rfl) (ra_tmp (is_sc rfl) ra_nil)) (by exact (rfl : _ = D.tup [_, _])) (by exact rfl) (Sub.refl _) ?_
      exact ⟨_, y, _, rfl, hy, rfl, keep_new hk9n (Keep.refl _ _)⟩
    · refine w_seq (w_reg (s_q rfl rfl (q_eql rfl rfl rfl) ?_))
      refine s_q rfl rfl (q_mv (.inr rfl) (is_sc rfl)) ?_
      refine s_nil (n_n (w_if (is_scb rfl) (fun h54 => ?_) (fun h54 => ?_)))
      · refine w_seq (w_reg (s_q rfl rfl (q_mv (.inl rfl) (is_sc rfl)) ?_))
        refine s_q rfl rfl (q_mv (.inr rfl) (is_sc rfl)) ?_
        refine s_q rfl rfl (q_mv (.inr rfl) (is_sc rfl)) ?_
        refine s_nil (n_n (w_ret (b_r ?_)))
        -- end 1
        refine r_r (ra_tmp (is_sc rfl) (ra_tmp (is_sc rfl) ra_nil)) (by exact (rfl : _ = D.tup [_, _])) (by exact rfl) (Sub.refl _) ?_
        exact ⟨_, y, _, rfl, hy, rfl, keep_new hk9n (Keep.refl _ _)⟩
      · refine w_seq (w_reg (s_q rfl rfl (q_mv (.inl rfl) (is_sc rfl)) ?_))
        refine s_q rfl rfl (q_mv (.inr rfl) (is_sc rfl)) ?_
        refine s_q rfl rfl (q_mv (.inr rfl) (is_sc rfl)) ?_
        refine s_nil (n_n (w_ret (b_r ?_)))
        -- end 2
        refine r_r (ra_tmp (is_sc rfl) (ra_tmp (is_sc rfl) ra_nil)) (by exact (rfl : _ = D.tup [_, _])) (by exact rfl) (Sub.refl _) ?_
        exact ⟨_, y, _, rfl, hy, rfl, keep_new hk9n (Keep.refl _ _)⟩

end Go.Proofs.YtopgbalmdocboaaGreatDoor.Zz
namespace Go.Proofs.YtopgbalmdocboaaGreatDoor.Zz
open Go.Abs
set_option maxRecDepth 100000
set_option linter.unusedVariables false
set_option linter.unusedSimpArgs false
set_option maxHeartbeats 4000000
variable {G : Nat → D}
open Go.Sort

-- slices.partialInsertionSortOrdered[float64]
theorem pf_so_partial (h : Heap) (id cap n : Nat) (d : Array FF) (sp : List D) (hn : d.size = n) (hn9 : n ≤ 1000000) (a b : Nat) (hab : a < b) (hb : b ≤ n) : ACall Tryz.prog G 273 true [.hs id 0 n cap, i64 a, i64 b] (setH h id (fls d ++ sp)) (fun v h' => v = bl (partialInsertionSort ltQ d a b).2 ∧ h' = setH h id (fls (partialInsertionSort ltQ d a b).1 ++ sp)) := by
  obtain ⟨R, hR⟩ : ∃ R, partialInsertionSort ltQ d a b = R := ⟨_, rfl⟩
  rw [hR]
  refine ACall.intro rfl Tryz.func273 rfl (Nat.le_of_ble_eq_true rfl) rfl ?_
  refine w_seq (w_reg (s_q rfl rfl (q_mv (.inr rfl) (is_sc rfl)) ?_))
  refine s_nil (n_n (w_seq (w_reg (s_q rfl rfl (q_mv (.inl rfl) (is_sc rfl)) ?_))))
  refine s_q rfl rfl (q_as (i64_eq ((wrap_id (by omega) (by omega)).trans (by omega) : _ = ((a + 1 : Nat) : Int))) (q_add rfl rfl rfl)) ?_
  refine s_q rfl rfl (q_mv (.inr rfl) (is_sc rfl)) ?_
  refine s_nil (n_n (w_seq (w_seq (w_reg (s_q rfl rfl (q_mv (.inr rfl) (is_sc rfl)) ?_)))))
  refine s_nil (n_n (w_block ?_))
  refine w_loop (fun env A => ∃ (s i : Nat) (d' : Array FF), s ≤ 5 ∧ a + 1 ≤ i ∧ i ≤ b ∧ d'.size = n ∧ partialIns ltQ a b s i d' = R ∧ Binds env [(0, .hs id 0 n cap), (1, i64 a), (2, i64 b), (7, i64 i), (8, i64 ((5 - s : Nat) : Int))] ∧ A = AH.start (setH h id (fls d' ++ sp))) (fun env _ => 5 - ctr (env 8)) ?_ ?_
  · exact ⟨5, a + 1, d, Nat.le_refl _, Nat.le_refl _, by omega, hn, hR, ⟨rfl, rfl, rfl, rfl, rfl, trivial⟩, rfl⟩
  · rintro env A ⟨s, i0, d', hs5, hi1, hi2, hd', hT, hB, rfl⟩
    rw [hB.eq]; clear hB
    obtain ⟨I1, hI1⟩ : ∃ I1, scanSorted ltQ d' b i0 = I1 := ⟨_, rfl⟩
    refine w_seq (w_seq (w_reg (s_q rfl rfl (q_mv (.inl rfl) (is_sc rfl)) ?_)))
    refine s_q rfl rfl (q_lss rfl rfl rfl) ?_
    refine s_nil (n_n (w_if (is_scb rfl) (fun h14 => ?_) (fun h14 => ?_)))
    · have hs0 : 0 < s := by have h' : ((5 - s : Nat) : Int) < 5 := of_decide_eq_true h14; omega
      refine w_skip (n_n (w_seq (w_block (w_seq (w_join (fun env A => a + 1 ≤ I1 ∧ I1 ≤ b ∧ Binds env [(0, .hs id 0 n cap), (1, i64 a), (2, i64 b), (7, i64 I1), (8, i64 ((5 - s : Nat) : Int))] ∧ A = AH.start (setH h id (fls d' ++ sp))) ?_ ?_)))))
      · refine w_block ?_
        refine w_loop (fun env A => ∃ i : Nat, i0 ≤ i ∧ i ≤ b ∧ scanSorted ltQ d' b i = I1 ∧ Binds env [(0, .hs id 0 n cap), (1, i64 a), (2, i64 b), (7, i64 i), (8, i64 ((5 - s : Nat) : Int))] ∧ A = AH.start (setH h id (fls d' ++ sp))) (fun env _ => b - ctr (env 7)) ?_ ?_
        · exact ⟨i0, Nat.le_refl _, hi2, hI1, ⟨rfl, rfl, rfl, rfl, rfl, trivial⟩, rfl⟩
        · rintro env A ⟨i, hj1, hj2, hI, hB, rfl⟩
          rw [hB.eq]; clear hB
          refine w_seq (w_seq (w_draw [0, 0, 3, 7, 15, 15, 63, 127, 15, 15, 527, 1807, 3855, 8191, 16383, 32767] [0, 0, 0, 0, 0, 0, 0, 1, 0, 0, 0, 0, 1, 0, 0, 0] rfl ?_))
          refine d_q0 rfl rfl (q_mv (.inl rfl) (is_sc rfl)) ?_
          refine d_q0 rfl rfl (q_mv (.inl rfl) (is_sc rfl)) ?_
          refine d_q0 rfl rfl (q_lss rfl rfl rfl) ?_
          refine d_q0 rfl rfl (q_mv (.inl rfl) (is_sc rfl)) ?_
          refine d_split 20 (is_scb rfl) (fun h20 => ?_) (fun h20 => ?_)
          · have hlt : i < b := by have h' : (i : Int) < (b : Int) := of_decide_eq_true h20; omega
            refine d_q0 rfl rfl (q_mv (.inl rfl) (by first | exact is_im rfl | exact is_gs rfl | exact is_lit rfl | exact is_ms rfl | exact is_sc rfl | exact rfl)) ?_
            refine d_q0 rfl rfl (q_mv (.inl rfl) (is_sc rfl)) ?_
            refine d_q0 rfl rfl (q_indexHs rfl rfl rfl (by omega) (by omega)) ?_
            refine d_q1 rfl rfl (q_loadF (i := i) (d := d') rfl rfl rfl (by omega) (by omega)) ?_
            refine d_q0 rfl rfl (q_mv (.inl rfl) (by first | exact is_im rfl | exact is_gs rfl | exact is_lit rfl | exact is_ms rfl | exact is_sc rfl | exact rfl)) ?_
            refine d_q0 rfl rfl (q_mv (.inl rfl) (is_sc rfl)) ?_
            refine d_q0 rfl rfl (q_as (i64_eq ((wrap_id (by omega) (by omega)).trans (by omega) : _ = ((i - 1 : Nat) : Int))) (q_sub rfl rfl rfl)) ?_
            refine d_q0 rfl rfl (q_indexHs rfl rfl rfl (by omega) (by omega)) ?_
            refine d_q1 rfl rfl (q_loadF (i := i - 1) (d := d') rfl rfl rfl (by omega) (by omega)) ?_
            refine d_q0 rfl rfl (q_call rfl rfl rfl rfl (pf_so_Less _ _)) ?_
            refine d_q0 rfl rfl (q_not rfl rfl) ?_
            refine d_q0 rfl rfl (q_pickT rfl rfl (is_sc rfl)) ?_
            refine d_nil (n_n (w_if (is_scb rfl) (fun h32 => ?_) (fun h32 => ?_)))
            · have hls : (!ltQ d'[i]! d'[i - 1]!) = true := h32
              refine w_skip (n_n (w_block (w_reg (s_q rfl rfl (q_mv (.inl rfl) (is_sc rfl)) ?_))))
              refine s_q rfl rfl (q_as (i64_eq ((wrap_id (by omega) (by omega)).trans (by omega) : _ = ((i + 1 : Nat) : Int))) (q_add rfl rfl rfl)) ?_
              refine s_q rfl rfl (q_mv (.inr rfl) (is_sc rfl)) ?_
              refine s_nil (b_n (n_n ?_))
              refine ⟨⟨i + 1, by omega, by omega, by rw [← ss_go hlt hls]; exact hI, ⟨rfl, rfl, rfl, rfl, rfl, trivial⟩, rfl⟩, ?_⟩
              show b - (((i + 1 : Nat) : Int)).toNat < b - ((i : Nat) : Int).toNat
              omega
            · have hls : (!ltQ d'[i]! d'[i - 1]!) = false := h32
              have hst := ss_no (lt := ltQ) (d := d') (b := b) (fun h => by rw [hls] at h; simp at h)
              rw [hst] at hI
              refine w_exit (n_e (n_e (b_hit ?_)))
              subst hI
              exact ⟨rfl, by omega, hj2, ⟨rfl, rfl, rfl, rfl, rfl, trivial⟩, rfl⟩
          · have hlt : ¬ i < b := by have h' : ¬ (i : Int) < (b : Int) := of_decide_eq_false h20; omega
            have hst := ss_no (lt := ltQ) (d := d') (fun h => hlt h.1)
            rw [hst] at hI
            refine d_off rfl rfl ?_
            refine d_off rfl rfl ?_
            refine d_off rfl rfl ?_
            refine d_off rfl rfl ?_
            refine d_off rfl rfl ?_
            refine d_off rfl rfl ?_
            refine d_off rfl rfl ?_
            refine d_off rfl rfl ?_
            refine d_off rfl rfl ?_
            refine d_off rfl rfl ?_
            refine d_off rfl rfl ?_
            refine d_q0 rfl rfl (q_pickF rfl rfl (is_sc rfl)) ?_
            refine d_nil (n_n (w_ifF rfl (w_exit (n_e (n_e (b_hit ?_))))))
            subst hI
            exact ⟨rfl, by omega, hj2, ⟨rfl, rfl, rfl, rfl, rfl, trivial⟩, rfl⟩
      · rintro env A ⟨hI11, hI12, hB, rfl⟩
        rw [hB.eq]; clear hB
        refine n_n (w_seq (w_seq (w_reg (s_q rfl rfl (q_mv (.inl rfl) (is_sc rfl)) ?_))))
        refine s_q rfl rfl (q_mv (.inl rfl) (is_sc rfl)) ?_
        refine s_q rfl rfl (q_eql rfl rfl rfl) ?_
        refine s_nil (n_n (w_if (is_scb rfl) (fun h37 => ?_) (fun h37 => ?_)))
        · have hbb : I1 = b := by have h' : (I1 : Int) = (b : Int) := of_decide_eq_true h37; omega
          have hRe : R = (d', true) := by rw [← hT, ← show s - 1 + 1 = s by omega, pi_eq hI1, if_pos hbb]
          refine w_seq (w_reg (s_q rfl rfl (q_mv (.inr rfl) (is_sc rfl)) ?_))
          refine s_nil (n_n (w_ret (n_r (b_r (n_r (n_r (b_r (n_r ?_))))))))
          -- end 0
          refine r_r (ra_tmp (is_sc rfl) ra_nil) (by exact (is_sc rfl)) (by exact rfl) (Sub.refl _) ?_
          rw [hRe]; exact ⟨rfl, rfl⟩
        · have hnb : ¬ I1 = b := by have h' : ¬ (I1 : Int) = (b : Int) := of_decide_eq_false h37; omega
          refine w_skip (n_n (w_seq (w_seq (w_reg (s_q rfl rfl (q_mv (.inl rfl) (is_sc rfl)) ?_)))))
          refine s_q rfl rfl (q_mv (.inl rfl) (is_sc rfl)) ?_
          refine s_q rfl rfl (q_as (i64_eq ((wrap_id (by omega) (by omega)).trans (by omega) : _ = ((b - a : Nat) : Int))) (q_sub rfl rfl rfl)) ?_
          refine s_q rfl rfl (q_lss rfl rfl rfl) ?_
          refine s_nil (n_n (w_if (is_scb rfl) (fun h41 => ?_) (fun h41 => ?_)))
          · have h50 : b - a < 50 := by have h' : ((b - a : Nat) : Int) < 50 := of_decide_eq_true h41; omega
            have hRe : R = (d', false) := by rw [← hT, ← show s - 1 + 1 = s by omega, pi_eq hI1, if_neg hnb, if_pos h50]
            refine w_seq (w_reg (s_q rfl rfl (q_mv (.inr rfl) (is_sc rfl)) ?_))
            refine s_nil (n_n (w_ret (n_r (b_r (n_r (n_r (b_r (n_r ?_))))))))
            -- end 1
            refine r_r (ra_tmp (is_sc rfl) ra_nil) (by exact (is_sc rfl)) (by exact rfl) (Sub.refl _) ?_
            rw [hRe]; exact ⟨rfl, rfl⟩
          · have h50 : ¬ b - a < 50 := by have h' : ¬ ((b - a : Nat) : Int) < 50 := of_decide_eq_false h41; omega
            refine w_skip (n_n (w_seq (w_draw [0, 0, 0, 0, 8, 0, 0, 64, 224, 480, 0, 0, 3072, 7168, 16355, 32739, 65535, 131071] [0, 0, 0, 0, 0, 0, 0, 0, 0, 1, 0, 0, 0, 1, 0, 3, 0, 3] rfl ?_)))
            refine d_q0 rfl rfl (q_mv (.inl rfl) (by first | exact is_im rfl | exact is_gs rfl | exact is_lit rfl | exact is_ms rfl | exact is_sc rfl | exact rfl)) ?_
            refine d_q0 rfl rfl (q_mv (.inl rfl) (is_sc rfl)) ?_
            refine d_q0 rfl rfl (q_mv (.inl rfl) (by first | exact is_im rfl | exact is_gs rfl | exact is_lit rfl | exact is_ms rfl | exact is_sc rfl | exact rfl)) ?_
            refine d_q0 rfl rfl (q_mv (.inl rfl) (is_sc rfl)) ?_
            refine d_q0 rfl rfl (q_as (i64_eq ((wrap_id (by omega) (by omega)).trans (by omega) : _ = ((I1 - 1 : Nat) : Int))) (q_sub rfl rfl rfl)) ?_
            refine d_q0 rfl rfl (q_mv (.inl rfl) (by first | exact is_im rfl | exact is_gs rfl | exact is_lit rfl | exact is_ms rfl | exact is_sc rfl | exact rfl)) ?_
            refine d_q0 rfl rfl (q_mv (.inl rfl) (is_sc rfl)) ?_
            refine d_q0 rfl rfl (q_as (i64_eq ((wrap_id (by omega) (by omega)).trans (by omega) : _ = ((I1 - 1 : Nat) : Int))) (q_sub rfl rfl rfl)) ?_
            refine d_q0 rfl rfl (q_indexHs rfl rfl rfl (by omega) (by omega)) ?_
            refine d_q1 rfl rfl (q_loadF (i := I1 - 1) (d := d') rfl rfl rfl (by omega) (by omega)) ?_
            refine d_q0 rfl rfl (q_mv (.inl rfl) (by first | exact is_im rfl | exact is_gs rfl | exact is_lit rfl | exact is_ms rfl | exact is_sc rfl | exact rfl)) ?_
            refine d_q0 rfl rfl (q_mv (.inl rfl) (is_sc rfl)) ?_
            refine d_q0 rfl rfl (q_indexHs rfl rfl rfl (by omega) (by omega)) ?_
            refine d_q1 rfl rfl (q_loadF (i := I1) (d := d') rfl rfl rfl (by omega) (by omega)) ?_
            refine d_q0 rfl rfl (q_indexHs rfl rfl rfl (by omega) (by omega)) ?_
            refine d_u3 rfl rfl (as_storeF (i := I1) (d := d') (d'[I1 - 1]!) rfl rfl rfl rfl (by omega) (by first | omega | (simp; omega))) ?_
            refine d_q0 rfl rfl (q_indexHs rfl rfl rfl (by omega) (by omega)) ?_
            refine d_u3 rfl rfl (as_storeF (i := I1 - 1) (d := (d'.setIfInBounds I1 d'[I1 - 1]!)) (d'[I1]!) rfl rfl rfl rfl (by omega) (by first | omega | (simp; omega))) ?_
            refine d_nil (n_n (w_seq (w_seq (w_reg (s_q rfl rfl (q_mv (.inl rfl) (is_sc rfl)) ?_)))))
            refine s_q rfl rfl (q_mv (.inl rfl) (is_sc rfl)) ?_
            refine s_q rfl rfl (q_as (i64_eq ((wrap_id (by omega) (by omega)).trans (by omega) : _ = ((I1 - a : Nat) : Int))) (q_sub rfl rfl rfl)) ?_
            refine s_q rfl rfl (q_geq rfl rfl rfl) ?_
            refine s_nil (n_n (w_if (is_scb rfl) (fun h61 => ?_) (fun h61 => ?_)))
            · have h2a : I1 - a ≥ 2 := by have h' : ((2 : Nat) : Int) ≤ ((I1 - a : Nat) : Int) := of_decide_eq_true h61; omega
              generalize hE0 : (d'.setIfInBounds I1 d'[I1 - 1]!).setIfInBounds (I1 - 1) d'[I1]! = e1
              have hE : swp d' I1 (I1 - 1) = e1 := hE0
              have he1 : e1.size = n := by rw [← hE, size_swp]; exact hd'
              obtain ⟨D3, hD3⟩ : ∃ D3, shiftDown ltQ (I1 - 1) e1 = D3 := ⟨_, rfl⟩
              refine w_seq (w_reg (s_q rfl rfl (q_mv (.inl rfl) (is_sc rfl)) ?_))
              refine s_q rfl rfl (q_as (i64_eq ((wrap_id (by omega) (by omega)).trans (by omega) : _ = ((I1 - 1 : Nat) : Int))) (q_sub rfl rfl rfl)) ?_
              refine s_q rfl rfl (q_mv (.inr rfl) (is_sc rfl)) ?_
              refine s_nil (n_n (w_join (fun env A => D3.size = n ∧ Binds env [(0, .hs id 0 n cap), (1, i64 a), (2, i64 b), (7, i64 I1), (8, i64 ((5 - s : Nat) : Int))] ∧ A = AH.start (setH h id (fls D3 ++ sp))) ?_ ?_))
              · refine w_block ?_
                refine w_loop (fun env A => ∃ (j : Nat) (d3 : Array FF), j ≤ I1 ∧ d3.size = n ∧ shiftDown ltQ j d3 = D3 ∧ Binds env [(0, .hs id 0 n cap), (1, i64 a), (2, i64 b), (7, i64 I1), (8, i64 ((5 - s : Nat) : Int)), (9, i64 j)] ∧ A = AH.start (setH h id (fls d3 ++ sp))) (fun env _ => ctr (env 9)) ?_ ?_
                · exact ⟨I1 - 1, e1, by omega, he1, hD3, ⟨rfl, rfl, rfl, rfl, rfl, rfl, trivial⟩, rfl⟩
                · rintro env A ⟨j, d3, hj, hs3, hJ, hB, rfl⟩
                  rw [hB.eq]; clear hB
                  refine w_seq (w_seq (w_reg (s_q rfl rfl (q_mv (.inl rfl) (is_sc rfl)) ?_)))
                  refine s_q rfl rfl (q_geq rfl rfl rfl) ?_
                  refine s_nil (n_n (w_if (is_scb rfl) (fun h65 => ?_) (fun h65 => ?_)))
                  · have hj0 : 0 < j := by have h' : (1 : Int) ≤ (j : Int) := of_decide_eq_true h65; omega
                    refine w_skip (n_n (w_seq (w_block (w_seq (w_seq (w_draw [0, 0, 3, 7, 0, 0, 32, 112, 240, 511, 1023] [0, 0, 0, 1, 0, 0, 0, 0, 1, 0, 0] rfl ?_))))))
                    refine d_q0 rfl rfl (q_mv (.inl rfl) (by first | exact is_im rfl | exact is_gs rfl | exact is_lit rfl | exact is_ms rfl | exact is_sc rfl | exact rfl)) ?_
                    refine d_q0 rfl rfl (q_mv (.inl rfl) (is_sc rfl)) ?_
                    refine d_q0 rfl rfl (q_indexHs rfl rfl rfl (by omega) (by omega)) ?_
                    refine d_q1 rfl rfl (q_loadF (i := j) (d := d3) rfl rfl rfl (by omega) (by omega)) ?_
                    refine d_q0 rfl rfl (q_mv (.inl rfl) (by first | exact is_im rfl | exact is_gs rfl | exact is_lit rfl | exact is_ms rfl | exact is_sc rfl | exact rfl)) ?_
                    refine d_q0 rfl rfl (q_mv (.inl rfl) (is_sc rfl)) ?_
                    refine d_q0 rfl rfl (q_as (i64_eq ((wrap_id (by omega) (by omega)).trans (by omega) : _ = ((j - 1 : Nat) : Int))) (q_sub rfl rfl rfl)) ?_
                    refine d_q0 rfl rfl (q_indexHs rfl rfl rfl (by omega) (by omega)) ?_
                    refine d_q1 rfl rfl (q_loadF (i := j - 1) (d := d3) rfl rfl rfl (by omega) (by omega)) ?_
                    refine d_q0 rfl rfl (q_call rfl rfl rfl rfl (pf_so_Less _ _)) ?_
                    refine d_q0 rfl rfl (q_not rfl rfl) ?_
                    refine d_nil (n_n (w_if (is_scb rfl) (fun h78 => ?_) (fun h78 => ?_)))
                    · have hls : ltQ d3[j]! d3[j - 1]! = false := by simpa using h78
                      have hst := sd_no (lt := ltQ) (d := d3) (j := j) (fun h => by rw [hls] at h; simp at h)
                      rw [hst] at hJ
                      refine w_exit (n_e (b_miss rfl (n_e (n_e (b_hit ?_)))))
                      subst hJ
                      exact ⟨rfl, hs3, ⟨rfl, rfl, rfl, rfl, rfl, trivial⟩, rfl⟩
                    · have hls : ltQ d3[j]! d3[j - 1]! = true := by simpa using h78
                      refine w_skip (n_n (w_draw [0, 0, 0, 0, 8, 0, 0, 64, 224, 480, 0, 0, 3072, 7168, 16355, 32739, 65535, 131071] [0, 0, 0, 0, 0, 0, 0, 0, 0, 1, 0, 0, 0, 1, 0, 3, 0, 3] rfl ?_))
                      refine d_q0 rfl rfl (q_mv (.inl rfl) (by first | exact is_im rfl | exact is_gs rfl | exact is_lit rfl | exact is_ms rfl | exact is_sc rfl | exact rfl)) ?_
                      refine d_q0 rfl rfl (q_mv (.inl rfl) (is_sc rfl)) ?_
                      refine d_q0 rfl rfl (q_mv (.inl rfl) (by first | exact is_im rfl | exact is_gs rfl | exact is_lit rfl | exact is_ms rfl | exact is_sc rfl | exact rfl)) ?_
                      refine d_q0 rfl rfl (q_mv (.inl rfl) (is_sc rfl)) ?_
                      refine d_q0 rfl rfl (q_as (i64_eq ((wrap_id (by omega) (by omega)).trans (by omega) : _ = ((j - 1 : Nat) : Int))) (q_sub rfl rfl rfl)) ?_
                      refine d_q0 rfl rfl (q_mv (.inl rfl) (by first | exact is_im rfl | exact is_gs rfl | exact is_lit rfl | exact is_ms rfl | exact is_sc rfl | exact rfl)) ?_
                      refine d_q0 rfl rfl (q_mv (.inl rfl) (is_sc rfl)) ?_
                      refine d_q0 rfl rfl (q_as (i64_eq ((wrap_id (by omega) (by omega)).trans (by omega) : _ = ((j - 1 : Nat) : Int))) (q_sub rfl rfl rfl)) ?_
                      refine d_q0 rfl rfl (q_indexHs rfl rfl rfl (by omega) (by omega)) ?_
                      refine d_q1 rfl rfl (q_loadF (i := j - 1) (d := d3) rfl rfl rfl (by omega) (by omega)) ?_
                      refine d_q0 rfl rfl (q_mv (.inl rfl) (by first | exact is_im rfl | exact is_gs rfl | exact is_lit rfl | exact is_ms rfl | exact is_sc rfl | exact rfl)) ?_
                      refine d_q0 rfl rfl (q_mv (.inl rfl) (is_sc rfl)) ?_
                      refine d_q0 rfl rfl (q_indexHs rfl rfl rfl (by omega) (by omega)) ?_
                      refine d_q1 rfl rfl (q_loadF (i := j) (d := d3) rfl rfl rfl (by omega) (by omega)) ?_
                      refine d_q0 rfl rfl (q_indexHs rfl rfl rfl (by omega) (by omega)) ?_
                      refine d_u3 rfl rfl (as_storeF (i := j) (d := d3) (d3[j - 1]!) rfl rfl rfl rfl (by omega) (by first | omega | (simp; omega))) ?_
                      refine d_q0 rfl rfl (q_indexHs rfl rfl rfl (by omega) (by omega)) ?_
                      refine d_u3 rfl rfl (as_storeF (i := j - 1) (d := (d3.setIfInBounds j d3[j - 1]!)) (d3[j]!) rfl rfl rfl rfl (by omega) (by first | omega | (simp; omega))) ?_
                      refine d_nil (b_n (n_n (w_reg (s_q rfl rfl (q_mv (.inl rfl) (is_sc rfl)) ?_))))
                      refine s_q rfl rfl (q_as (i64_eq ((wrap_id (by omega) (by omega)).trans (by omega) : _ = ((j - 1 : Nat) : Int))) (q_sub rfl rfl rfl)) ?_
                      refine s_q rfl rfl (q_mv (.inr rfl) (is_sc rfl)) ?_
                      refine s_nil (n_n ?_)
                      refine ⟨⟨j - 1, swp d3 j (j - 1), by omega, by rw [size_swp]; exact hs3, by rw [← sd_go hj0 hls]; exact hJ, ⟨rfl, rfl, rfl, rfl, rfl, rfl, trivial⟩, rfl⟩, ?_⟩
                      show (((j - 1 : Nat) : Int)).toNat < ((j : Nat) : Int).toNat
                      omega
                  · have hj0 : ¬ 0 < j := by have h' : ¬ (1 : Int) ≤ (j : Int) := of_decide_eq_false h65; omega
                    have hst := sd_no (lt := ltQ) (d := d3) (fun h => hj0 h.1)
                    rw [hst] at hJ
                    refine w_exit (n_e (n_e (b_hit ?_)))
                    subst hJ
                    exact ⟨rfl, hs3, ⟨rfl, rfl, rfl, rfl, rfl, trivial⟩, rfl⟩
              · rintro env A ⟨hs3D, hB, rfl⟩
                rw [hB.eq]; clear hB
                refine n_n (w_seq (w_reg (s_q rfl rfl (q_mv (.inl rfl) (is_sc rfl)) ?_)))
                refine s_q rfl rfl (q_mv (.inl rfl) (is_sc rfl)) ?_
                refine s_q rfl rfl (q_as (i64_eq ((wrap_id (by omega) (by omega)).trans (by omega) : _ = ((b - I1 : Nat) : Int))) (q_sub rfl rfl rfl)) ?_
                refine s_q rfl rfl (q_geq rfl rfl rfl) ?_
                refine s_nil (n_n (w_if (is_scb rfl) (fun h98 => ?_) (fun h98 => ?_)))
                · have h2b : b - I1 ≥ 2 := by have h' : ((2 : Nat) : Int) ≤ ((b - I1 : Nat) : Int) := of_decide_eq_true h98; omega
                  obtain ⟨D4, hD4⟩ : ∃ D4, shiftUp ltQ b (I1 + 1) D3 = D4 := ⟨_, rfl⟩
                  refine w_seq (w_reg (s_q rfl rfl (q_mv (.inl rfl) (is_sc rfl)) ?_))
                  refine s_q rfl rfl (q_as (i64_eq ((wrap_id (by omega) (by omega)).trans (by omega) : _ = ((I1 + 1 : Nat) : Int))) (q_add rfl rfl rfl)) ?_
                  refine s_q rfl rfl (q_mv (.inr rfl) (is_sc rfl)) ?_
                  refine s_nil (n_n (w_join (fun env A => D4.size = n ∧ Binds env [(0, .hs id 0 n cap), (1, i64 a), (2, i64 b), (7, i64 I1), (8, i64 ((5 - s : Nat) : Int))] ∧ A = AH.start (setH h id (fls D4 ++ sp))) ?_ ?_))
                  · refine w_block ?_
                    refine w_loop (fun env A => ∃ (j : Nat) (d4 : Array FF), 1 ≤ j ∧ j ≤ b ∧ d4.size = n ∧ shiftUp ltQ b j d4 = D4 ∧ Binds env [(0, .hs id 0 n cap), (1, i64 a), (2, i64 b), (7, i64 I1), (8, i64 ((5 - s : Nat) : Int)), (10, i64 j)] ∧ A = AH.start (setH h id (fls d4 ++ sp))) (fun env _ => b - ctr (env 10)) ?_ ?_
                    · exact ⟨I1 + 1, D3, by omega, by omega, hs3D, hD4, ⟨rfl, rfl, rfl, rfl, rfl, rfl, trivial⟩, rfl⟩
                    · rintro env A ⟨j, d4, hj, hj2, hs4, hJ, hB, rfl⟩
                      rw [hB.eq]; clear hB
                      refine w_seq (w_seq (w_reg (s_q rfl rfl (q_mv (.inl rfl) (is_sc rfl)) ?_)))
                      refine s_q rfl rfl (q_mv (.inl rfl) (is_sc rfl)) ?_
                      refine s_q rfl rfl (q_lss rfl rfl rfl) ?_
                      refine s_nil (n_n (w_if (is_scb rfl) (fun h103 => ?_) (fun h103 => ?_)))
                      · have hlt : j < b := by have h' : (j : Int) < (b : Int) := of_decide_eq_true h103; omega
                        refine w_skip (n_n (w_seq (w_block (w_seq (w_seq (w_draw [0, 0, 3, 7, 0, 0, 32, 112, 240, 511, 1023] [0, 0, 0, 1, 0, 0, 0, 0, 1, 0, 0] rfl ?_))))))
                        refine d_q0 rfl rfl (q_mv (.inl rfl) (by first | exact is_im rfl | exact is_gs rfl | exact is_lit rfl | exact is_ms rfl | exact is_sc rfl | exact rfl)) ?_
                        refine d_q0 rfl rfl (q_mv (.inl rfl) (is_sc rfl)) ?_
                        refine d_q0 rfl rfl (q_indexHs rfl rfl rfl (by omega) (by omega)) ?_
                        refine d_q1 rfl rfl (q_loadF (i := j) (d := d4) rfl rfl rfl (by omega) (by omega)) ?_
                        refine d_q0 rfl rfl (q_mv (.inl rfl) (by first | exact is_im rfl | exact is_gs rfl | exact is_lit rfl | exact is_ms rfl | exact is_sc rfl | exact rfl)) ?_
                        refine d_q0 rfl rfl (q_mv (.inl rfl) (is_sc rfl)) ?_
                        refine d_q0 rfl rfl (q_as (i64_eq ((wrap_id (by omega) (by omega)).trans (by omega) : _ = ((j - 1 : Nat) : Int))) (q_sub rfl rfl rfl)) ?_
                        refine d_q0 rfl rfl (q_indexHs rfl rfl rfl (by omega) (by omega)) ?_
                        refine d_q1 rfl rfl (q_loadF (i := j - 1) (d := d4) rfl rfl rfl (by omega) (by omega)) ?_
                        refine d_q0 rfl rfl (q_call rfl rfl rfl rfl (pf_so_Less _ _)) ?_
                        refine d_q0 rfl rfl (q_not rfl rfl) ?_
                        refine d_nil (n_n (w_if (is_scb rfl) (fun h116 => ?_) (fun h116 => ?_)))
                        · have hls : ltQ d4[j]! d4[j - 1]! = false := by simpa using h116
                          have hst := su_no (lt := ltQ) (d := d4) (j := j) (b := b) (fun h => by rw [hls] at h; simp at h)
                          rw [hst] at hJ
                          refine w_exit (n_e (b_miss rfl (n_e (n_e (b_hit ?_)))))
                          subst hJ
                          exact ⟨rfl, hs4, ⟨rfl, rfl, rfl, rfl, rfl, trivial⟩, rfl⟩
                        · have hls : ltQ d4[j]! d4[j - 1]! = true := by simpa using h116
                          refine w_skip (n_n (w_draw [0, 0, 0, 0, 8, 0, 0, 64, 224, 480, 0, 0, 3072, 7168, 16355, 32739, 65535, 131071] [0, 0, 0, 0, 0, 0, 0, 0, 0, 1, 0, 0, 0, 1, 0, 3, 0, 3] rfl ?_))
                          refine d_q0 rfl rfl (q_mv (.inl rfl) (by first | exact is_im rfl | exact is_gs rfl | exact is_lit rfl | exact is_ms rfl | exact is_sc rfl | exact rfl)) ?_
                          refine d_q0 rfl rfl (q_mv (.inl rfl) (is_sc rfl)) ?_
                          refine d_q0 rfl rfl (q_mv (.inl rfl) (by first | exact is_im rfl | exact is_gs rfl | exact is_lit rfl | exact is_ms rfl | exact is_sc rfl | exact rfl)) ?_
                          refine d_q0 rfl rfl (q_mv (.inl rfl) (is_sc rfl)) ?_
                          refine d_q0 rfl rfl (q_as (i64_eq ((wrap_id (by omega) (by omega)).trans (by omega) : _ = ((j - 1 : Nat) : Int))) (q_sub rfl rfl rfl)) ?_
                          refine d_q0 rfl rfl (q_mv (.inl rfl) (by first | exact is_im rfl | exact is_gs rfl | exact is_lit rfl | exact is_ms rfl | exact is_sc rfl | exact rfl)) ?_
                          refine d_q0 rfl rfl (q_mv (.inl rfl) (is_sc rfl)) ?_
                          refine d_q0 rfl rfl (q_as (i64_eq ((wrap_id (by omega) (by omega)).trans (by omega) : _ = ((j - 1 : Nat) : Int))) (q_sub rfl rfl rfl)) ?_
                          refine d_q0 rfl rfl (q_indexHs rfl rfl rfl (by omega) (by omega)) ?_
                          refine d_q1 rfl rfl (q_loadF (i := j - 1) (d := d4) rfl rfl rfl (by omega) (by omega)) ?_
                          refine d_q0 rfl rfl (q_mv (.inl rfl) (by first | exact is_im rfl | exact is_gs rfl | exact is_lit rfl | exact is_ms rfl | exact is_sc rfl | exact rfl)) ?_
                          refine d_q0 rfl rfl (q_mv (.inl rfl) (is_sc rfl)) ?_
                          refine d_q0 rfl rfl (q_indexHs rfl rfl rfl (by omega) (by omega)) ?_
                          refine d_q1 rfl rfl (q_loadF (i := j) (d := d4) rfl rfl rfl (by omega) (by omega)) ?_
                          refine d_q0 rfl rfl (q_indexHs rfl rfl rfl (by omega) (by omega)) ?_
                          refine d_u3 rfl rfl (as_storeF (i := j) (d := d4) (d4[j - 1]!) rfl rfl rfl rfl (by omega) (by first | omega | (simp; omega))) ?_
                          refine d_q0 rfl rfl (q_indexHs rfl rfl rfl (by omega) (by omega)) ?_
                          refine d_u3 rfl rfl (as_storeF (i := j - 1) (d := (d4.setIfInBounds j d4[j - 1]!)) (d4[j]!) rfl rfl rfl rfl (by omega) (by first | omega | (simp; omega))) ?_
                          refine d_nil (b_n (n_n (w_reg (s_q rfl rfl (q_mv (.inl rfl) (is_sc rfl)) ?_))))
                          refine s_q rfl rfl (q_as (i64_eq ((wrap_id (by omega) (by omega)).trans (by omega) : _ = ((j + 1 : Nat) : Int))) (q_add rfl rfl rfl)) ?_
                          refine s_q rfl rfl (q_mv (.inr rfl) (is_sc rfl)) ?_
                          refine s_nil (n_n ?_)
                          refine ⟨⟨j + 1, swp d4 j (j - 1), by omega, by omega, by rw [size_swp]; exact hs4, by rw [← su_go hlt hls]; exact hJ, ⟨rfl, rfl, rfl, rfl, rfl, rfl, trivial⟩, rfl⟩, ?_⟩
                          show b - (((j + 1 : Nat) : Int)).toNat < b - ((j : Nat) : Int).toNat
                          omega
                      · have hlt : ¬ j < b := by have h' : ¬ (j : Int) < (b : Int) := of_decide_eq_false h103; omega
                        have hst := su_no (lt := ltQ) (d := d4) (fun h => hlt h.1)
                        rw [hst] at hJ
                        refine w_exit (n_e (n_e (b_hit ?_)))
                        subst hJ
                        exact ⟨rfl, hs4, ⟨rfl, rfl, rfl, rfl, rfl, trivial⟩, rfl⟩
                  · rintro env A ⟨hs4D, hB, rfl⟩
                    rw [hB.eq]; clear hB
                    refine b_n (n_n (w_reg (s_q rfl rfl (q_mv (.inl rfl) (is_sc rfl)) ?_)))
                    refine s_q rfl rfl (q_as (i64_eq (wrap_id (by omega) (by omega) : _ = ((5 - s : Nat) : Int) + 1)) (q_add rfl rfl rfl)) ?_
                    refine s_q rfl rfl (q_mv (.inr rfl) (is_sc rfl)) ?_
                    refine s_nil (n_n ?_)
                    have hstep := pi_eq (lt := ltQ) (a := a) (s := s - 1) hI1
                    rw [show s - 1 + 1 = s by omega, if_neg hnb, if_neg h50, if_pos h2b, if_pos h2a, hE, hD3, hD4] at hstep
                    refine ⟨⟨s - 1, I1, D4, by omega, by omega, by omega, by assumption, by rw [← hstep]; exact hT, ⟨rfl, rfl, rfl, rfl, i64_eq (by omega), trivial⟩, rfl⟩, ?_⟩
                    show 5 - ((((5 - s : Nat) : Int)) + 1).toNat < 5 - ((5 - s : Nat) : Int).toNat
                    omega
                · have h2b : ¬ b - I1 ≥ 2 := by have h' : ¬ ((2 : Nat) : Int) ≤ ((b - I1 : Nat) : Int) := of_decide_eq_false h98; omega
                  refine w_skip (b_n (n_n (w_reg (s_q rfl rfl (q_mv (.inl rfl) (is_sc rfl)) ?_))))
                  refine s_q rfl rfl (q_as (i64_eq (wrap_id (by omega) (by omega) : _ = ((5 - s : Nat) : Int) + 1)) (q_add rfl rfl rfl)) ?_
                  refine s_q rfl rfl (q_mv (.inr rfl) (is_sc rfl)) ?_
                  refine s_nil (n_n ?_)
                  have hstep := pi_eq (lt := ltQ) (a := a) (s := s - 1) hI1
                  rw [show s - 1 + 1 = s by omega, if_neg hnb, if_neg h50, if_neg h2b, if_pos h2a, hE, hD3] at hstep
                  refine ⟨⟨s - 1, I1, D3, by omega, by omega, by omega, by assumption, by rw [← hstep]; exact hT, ⟨rfl, rfl, rfl, rfl, i64_eq (by omega), trivial⟩, rfl⟩, ?_⟩
                  show 5 - ((((5 - s : Nat) : Int)) + 1).toNat < 5 - ((5 - s : Nat) : Int).toNat
                  omega
            · have h2a : ¬ I1 - a ≥ 2 := by have h' : ¬ ((2 : Nat) : Int) ≤ ((I1 - a : Nat) : Int) := of_decide_eq_false h61; omega
              generalize hE0 : (d'.setIfInBounds I1 d'[I1 - 1]!).setIfInBounds (I1 - 1) d'[I1]! = D3
              have hD3 : swp d' I1 (I1 - 1) = D3 := hE0
              have hs3D : D3.size = n := by rw [← hD3, size_swp]; exact hd'
              refine w_skip (n_n (w_seq (w_reg (s_q rfl rfl (q_mv (.inl rfl) (is_sc rfl)) ?_))))
              refine s_q rfl rfl (q_mv (.inl rfl) (is_sc rfl)) ?_
              refine s_q rfl rfl (q_as (i64_eq ((wrap_id (by omega) (by omega)).trans (by omega) : _ = ((b - I1 : Nat) : Int))) (q_sub rfl rfl rfl)) ?_
              refine s_q rfl rfl (q_geq rfl rfl rfl) ?_
              refine s_nil (n_n (w_if (is_scb rfl) (fun h98 => ?_) (fun h98 => ?_)))
              · have h2b : b - I1 ≥ 2 := by have h' : ((2 : Nat) : Int) ≤ ((b - I1 : Nat) : Int) := of_decide_eq_true h98; omega
                obtain ⟨D4, hD4⟩ : ∃ D4, shiftUp ltQ b (I1 + 1) D3 = D4 := ⟨_, rfl⟩
                refine w_seq (w_reg (s_q rfl rfl (q_mv (.inl rfl) (is_sc rfl)) ?_))
                refine s_q rfl rfl (q_as (i64_eq ((wrap_id (by omega) (by omega)).trans (by omega) : _ = ((I1 + 1 : Nat) : Int))) (q_add rfl rfl rfl)) ?_
                refine s_q rfl rfl (q_mv (.inr rfl) (is_sc rfl)) ?_
                refine s_nil (n_n (w_join (fun env A => D4.size = n ∧ Binds env [(0, .hs id 0 n cap), (1, i64 a), (2, i64 b), (7, i64 I1), (8, i64 ((5 - s : Nat) : Int))] ∧ A = AH.start (setH h id (fls D4 ++ sp))) ?_ ?_))
                · refine w_block ?_
                  refine w_loop (fun env A => ∃ (j : Nat) (d4 : Array FF), 1 ≤ j ∧ j ≤ b ∧ d4.size = n ∧ shiftUp ltQ b j d4 = D4 ∧ Binds env [(0, .hs id 0 n cap), (1, i64 a), (2, i64 b), (7, i64 I1), (8, i64 ((5 - s : Nat) : Int)), (10, i64 j)] ∧ A = AH.start (setH h id (fls d4 ++ sp))) (fun env _ => b - ctr (env 10)) ?_ ?_
                  · exact ⟨I1 + 1, D3, by omega, by omega, hs3D, hD4, ⟨rfl, rfl, rfl, rfl, rfl, rfl, trivial⟩, rfl⟩
                  · rintro env A ⟨j, d4, hj, hj2, hs4, hJ, hB, rfl⟩
                    rw [hB.eq]; clear hB
                    refine w_seq (w_seq (w_reg (s_q rfl rfl (q_mv (.inl rfl) (is_sc rfl)) ?_)))
                    refine s_q rfl rfl (q_mv (.inl rfl) (is_sc rfl)) ?_
                    refine s_q rfl rfl (q_lss rfl rfl rfl) ?_
                    refine s_nil (n_n (w_if (is_scb rfl) (fun h103 => ?_) (fun h103 => ?_)))
                    · have hlt : j < b := by have h' : (j : Int) < (b : Int) := of_decide_eq_true h103; omega
                      refine w_skip (n_n (w_seq (w_block (w_seq (w_seq (w_draw [0, 0, 3, 7, 0, 0, 32, 112, 240, 511, 1023] [0, 0, 0, 1, 0, 0, 0, 0, 1, 0, 0] rfl ?_))))))
                      refine d_q0 rfl rfl (q_mv (.inl rfl) (by first | exact is_im rfl | exact is_gs rfl | exact is_lit rfl | exact is_ms rfl | exact is_sc rfl | exact rfl)) ?_
                      refine d_q0 rfl rfl (q_mv (.inl rfl) (is_sc rfl)) ?_
                      refine d_q0 rfl rfl (q_indexHs rfl rfl rfl (by omega) (by omega)) ?_
                      refine d_q1 rfl rfl (q_loadF (i := j) (d := d4) rfl rfl rfl (by omega) (by omega)) ?_
                      refine d_q0 rfl rfl (q_mv (.inl rfl) (by first | exact is_im rfl | exact is_gs rfl | exact is_lit rfl | exact is_ms rfl | exact is_sc rfl | exact rfl)) ?_
                      refine d_q0 rfl rfl (q_mv (.inl rfl) (is_sc rfl)) ?_
                      refine d_q0 rfl rfl (q_as (i64_eq ((wrap_id (by omega) (by omega)).trans (by omega) : _ = ((j - 1 : Nat) : Int))) (q_sub rfl rfl rfl)) ?_
                      refine d_q0 rfl rfl (q_indexHs rfl rfl rfl (by omega) (by omega)) ?_
                      refine d_q1 rfl rfl (q_loadF (i := j - 1) (d := d4) rfl rfl rfl (by omega) (by omega)) ?_
                      refine d_q0 rfl rfl (q_call rfl rfl rfl rfl (pf_so_Less _ _)) ?_
                      refine d_q0 rfl rfl (q_not rfl rfl) ?_
                      refine d_nil (n_n (w_if (is_scb rfl) (fun h116 => ?_) (fun h116 => ?_)))
                      · have hls : ltQ d4[j]! d4[j - 1]! = false := by simpa using h116
                        have hst := su_no (lt := ltQ) (d := d4) (j := j) (b := b) (fun h => by rw [hls] at h; simp at h)
                        rw [hst] at hJ
                        refine w_exit (n_e (b_miss rfl (n_e (n_e (b_hit ?_)))))
                        subst hJ
                        exact ⟨rfl, hs4, ⟨rfl, rfl, rfl, rfl, rfl, trivial⟩, rfl⟩
                      · have hls : ltQ d4[j]! d4[j - 1]! = true := by simpa using h116
                        refine w_skip (n_n (w_draw [0, 0, 0, 0, 8, 0, 0, 64, 224, 480, 0, 0, 3072, 7168, 16355, 32739, 65535, 131071] [0, 0, 0, 0, 0, 0, 0, 0, 0, 1, 0, 0, 0, 1, 0, 3, 0, 3] rfl ?_))
                        refine d_q0 rfl rfl (q_mv (.inl rfl) (by first | exact is_im rfl | exact is_gs rfl | exact is_lit rfl | exact is_ms rfl | exact is_sc rfl | exact rfl)) ?_
                        refine d_q0 rfl rfl (q_mv (.inl rfl) (is_sc rfl)) ?_
                        refine d_q0 rfl rfl (q_mv (.inl rfl) (by first | exact is_im rfl | exact is_gs rfl | exact is_lit rfl | exact is_ms rfl | exact is_sc rfl | exact rfl)) ?_
                        refine d_q0 rfl rfl (q_mv (.inl rfl) (is_sc rfl)) ?_
                        refine d_q0 rfl rfl (q_as (i64_eq ((wrap_id (by omega) (by omega)).trans (by omega) : _ = ((j - 1 : Nat) : Int))) (q_sub rfl rfl rfl)) ?_
                        refine d_q0 rfl rfl (q_mv (.inl rfl) (by first | exact is_im rfl | exact is_gs rfl | exact is_lit rfl | exact is_ms rfl | exact is_sc rfl | exact rfl)) ?_
                        refine d_q0 rfl rfl (q_mv (.inl rfl) (is_sc rfl)) ?_
                        refine d_q0 rfl rfl (q_as (i64_eq ((wrap_id (by omega) (by omega)).trans (by omega) : _ = ((j - 1 : Nat) : Int))) (q_sub rfl rfl rfl)) ?_
                        refine d_q0 rfl rfl (q_indexHs rfl rfl rfl (by omega) (by omega)) ?_
                        refine d_q1 rfl rfl (q_loadF (i := j - 1) (d := d4) rfl rfl rfl (by omega) (by omega)) ?_
                        refine d_q0 rfl rfl (q_mv (.inl rfl) (by first | exact is_im rfl | exact is_gs rfl | exact is_lit rfl | exact is_ms rfl | exact is_sc rfl | exact rfl)) ?_
                        refine d_q0 rfl rfl (q_mv (.inl rfl) (is_sc rfl)) ?_
                        refine d_q0 rfl rfl (q_indexHs rfl rfl rfl (by omega) (by omega)) ?_
                        refine d_q1 rfl rfl (q_loadF (i := j) (d := d4) rfl rfl rfl (by omega) (by omega)) ?_
                        refine d_q0 rfl rfl (q_indexHs rfl rfl rfl (by omega) (by omega)) ?_
                        refine d_u3 rfl rfl (as_storeF (i := j) (d := d4) (d4[j - 1]!) rfl rfl rfl rfl (by omega) (by first | omega | (simp; omega))) ?_
                        refine d_q0 rfl rfl (q_indexHs rfl rfl rfl (by omega) (by omega)) ?_
                        refine d_u3 rfl rfl (as_storeF (i := j - 1) (d := (d4.setIfInBounds j d4[j - 1]!)) (d4[j]!) rfl rfl rfl rfl (by omega) (by first | omega | (simp; omega))) ?_
                        refine d_nil (b_n (n_n (w_reg (s_q rfl rfl (q_mv (.inl rfl) (is_sc rfl)) ?_))))
                        refine s_q rfl rfl (q_as (i64_eq ((wrap_id (by omega) (by omega)).trans (by omega) : _ = ((j + 1 : Nat) : Int))) (q_add rfl rfl rfl)) ?_
                        refine s_q rfl rfl (q_mv (.inr rfl) (is_sc rfl)) ?_
                        refine s_nil (n_n ?_)
                        refine ⟨⟨j + 1, swp d4 j (j - 1), by omega, by omega, by rw [size_swp]; exact hs4, by rw [← su_go hlt hls]; exact hJ, ⟨rfl, rfl, rfl, rfl, rfl, rfl, trivial⟩, rfl⟩, ?_⟩
                        show b - (((j + 1 : Nat) : Int)).toNat < b - ((j : Nat) : Int).toNat
                        omega
                    · have hlt : ¬ j < b := by have h' : ¬ (j : Int) < (b : Int) := of_decide_eq_false h103; omega
                      have hst := su_no (lt := ltQ) (d := d4) (fun h => hlt h.1)
                      rw [hst] at hJ
                      refine w_exit (n_e (n_e (b_hit ?_)))
                      subst hJ
                      exact ⟨rfl, hs4, ⟨rfl, rfl, rfl, rfl, rfl, trivial⟩, rfl⟩
                · rintro env A ⟨hs4D, hB, rfl⟩
                  rw [hB.eq]; clear hB
                  refine b_n (n_n (w_reg (s_q rfl rfl (q_mv (.inl rfl) (is_sc rfl)) ?_)))
                  refine s_q rfl rfl (q_as (i64_eq (wrap_id (by omega) (by omega) : _ = ((5 - s : Nat) : Int) + 1)) (q_add rfl rfl rfl)) ?_
                  refine s_q rfl rfl (q_mv (.inr rfl) (is_sc rfl)) ?_
                  refine s_nil (n_n ?_)
                  have hstep := pi_eq (lt := ltQ) (a := a) (s := s - 1) hI1
                  rw [show s - 1 + 1 = s by omega, if_neg hnb, if_neg h50, if_pos h2b, if_neg h2a, hD3, hD4] at hstep
                  refine ⟨⟨s - 1, I1, D4, by omega, by omega, by omega, by assumption, by rw [← hstep]; exact hT, ⟨rfl, rfl, rfl, rfl, i64_eq (by omega), trivial⟩, rfl⟩, ?_⟩
                  show 5 - ((((5 - s : Nat) : Int)) + 1).toNat < 5 - ((5 - s : Nat) : Int).toNat
                  omega
              · have h2b : ¬ b - I1 ≥ 2 := by have h' : ¬ ((2 : Nat) : Int) ≤ ((b - I1 : Nat) : Int) := of_decide_eq_false h98; omega
                refine w_skip (b_n (n_n (w_reg (s_q rfl rfl (q_mv (.inl rfl) (is_sc rfl)) ?_))))
                refine s_q rfl rfl (q_as (i64_eq (wrap_id (by omega) (by omega) : _ = ((5 - s : Nat) : Int) + 1)) (q_add rfl rfl rfl)) ?_
                refine s_q rfl rfl (q_mv (.inr rfl) (is_sc rfl)) ?_
                refine s_nil (n_n ?_)
                have hstep := pi_eq (lt := ltQ) (a := a) (s := s - 1) hI1
                rw [show s - 1 + 1 = s by omega, if_neg hnb, if_neg h50, if_neg h2b, if_neg h2a, hD3] at hstep
                refine ⟨⟨s - 1, I1, D3, by omega, by omega, by omega, by assumption, by rw [← hstep]; exact hT, ⟨rfl, rfl, rfl, rfl, i64_eq (by omega), trivial⟩, rfl⟩, ?_⟩
                show 5 - ((((5 - s : Nat) : Int)) + 1).toNat < 5 - ((5 - s : Nat) : Int).toNat
                omega
    · have hs0 : s = 0 := by have h' : ¬ ((5 - s : Nat) : Int) < 5 := of_decide_eq_false h14; omega
      subst hs0
      refine w_exit (n_e (n_e (b_hit (n_n (w_seq (w_reg (s_q rfl rfl (q_mv (.inr rfl) (is_sc rfl)) ?_)))))))
      refine s_nil (n_n (w_ret ?_))
      -- end 2
      refine r_r (ra_tmp (is_sc rfl) ra_nil) (by exact (is_sc rfl)) (by exact rfl) (Sub.refl _) ?_
      rw [← hT]; exact ⟨rfl, rfl⟩

end Go.Proofs.YtopgbalmdocboaaGreatDoor.Zz
