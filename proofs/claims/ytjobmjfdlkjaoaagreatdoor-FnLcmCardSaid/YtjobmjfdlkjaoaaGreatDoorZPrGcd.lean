/- Walks of the functions, printed by program: each theorem says what one function answers. -/
import Derived.Test.YtjobmjfdlkjaoaaGreatDoorZX1
import Derived.Test.YtjobmjfdlkjaoaaGreatDoorZGcd
namespace Go.Proofs.YtjobmjfdlkjaoaaGreatDoor.Zz
open Go.Abs
set_option maxRecDepth 100000
set_option linter.unusedVariables false
set_option linter.unusedSimpArgs false
set_option maxHeartbeats 4000000
variable {G : Nat → D}

-- pub-tallysheet/pub/excelize.gcd
theorem pf_gcd (ba bb a b : Nat) (ha : Fy 0 ba (a : Int)) (hb : Fy 0 bb (b : Int)) (ha1 : 1 ≤ a) (hb1 : 1 ≤ b) (ha2 : a ≤ 1000000000) (hb2 : b ≤ 1000000000) : PC Tryz.prog G 161 [fl ba, fl bb] (fun v => ∃ r, v = fl r ∧ Fy 0 r ((Nat.gcd a b : Nat) : Int)) := by
  have za : fcmp .eql .f64 (truncF ba) 0 = false := by rw [fcmp_eq (fy_trunc ha).whole fx_zero]; exact decide_eq_false (Int.mul_ne_zero (by omega) (by have := unit_pos; omega))
  have zb : fcmp .eql .f64 (truncF bb) 0 = false := by rw [fcmp_eq (fy_trunc hb).whole fx_zero]; exact decide_eq_false (Int.mul_ne_zero (by omega) (by have := unit_pos; omega))
  refine PC.intro rfl Tryz.func161 rfl (Nat.le_of_ble_eq_true rfl) rfl ?_
  refine w_seq (w_reg (s_q rfl rfl (q_mv (.inr rfl) (is_sc rfl)) ?_))
  refine s_nil (n_n (w_seq (w_reg (s_q rfl rfl (q_mv (.inl rfl) (is_sc rfl)) ?_))))
  refine s_q rfl rfl (q_call rfl rfl rfl rfl (pf_Trunc _ _ ha.whole)) ?_
  refine s_q rfl rfl (q_mv (.inl rfl) (is_sc rfl)) ?_
  refine s_q rfl rfl (q_call rfl rfl rfl rfl (pf_Trunc _ _ hb.whole)) ?_
  refine s_q rfl rfl (q_mv (.inr rfl) (is_sc rfl)) ?_
  refine s_q rfl rfl (q_mv (.inr rfl) (is_sc rfl)) ?_
  refine s_nil (n_n (w_seq (w_seq (w_reg (s_q rfl rfl (q_mv (.inl rfl) (is_sc rfl)) ?_)))))
  refine s_q rfl rfl (q_fcmpV rfl rfl rfl rfl za) ?_
  refine s_nil (n_n (w_ifF rfl (w_skip (n_n (w_seq (w_seq (w_reg (s_q rfl rfl (q_mv (.inl rfl) (is_sc rfl)) ?_))))))))
  refine s_q rfl rfl (q_fcmpV rfl rfl rfl rfl zb) ?_
  refine s_nil (n_n (w_ifF rfl (w_skip (n_n (w_seq (w_block ?_))))))
  refine w_loop (fun env A => ∃ x y bx bz : Nat, 1 ≤ x ∧ 1 ≤ y ∧ x ≤ 1000000000 ∧ y ≤ 1000000000 ∧ Fy 0 bx (x : Int) ∧ Fy 0 bz (y : Int) ∧ Nat.gcd x y = Nat.gcd a b ∧ Binds env [(0, fl bx), (1, fl bz)] ∧ A = AH.start noHeap) (fun env _ => ctrF (env 0) + ctrF (env 1)) ?_ ?_
  · exact ⟨a, b, _, _, ha1, hb1, ha2, hb2, fy_trunc ha, fy_trunc hb, rfl, ⟨rfl, rfl, trivial⟩, rfl⟩
  · rintro env A ⟨x, y, bx, bz, hx1, hy1, hx2, hy2, hx, hy, hg, hB, rfl⟩
    rw [hB.eq]; clear hB
    obtain ⟨ce, cl, _, cg, _⟩ := Fy.cmp hx hy
    have hne : fcmp .neq .f64 bx bz = decide (¬ (x : Int) = y) := by rw [fcmp_ne, ce]; simp
    refine w_seq (w_seq (w_reg (s_q rfl rfl (q_mv (.inl rfl) (is_sc rfl)) ?_)))
    refine s_q rfl rfl (q_mv (.inl rfl) (is_sc rfl)) ?_
    refine s_q rfl rfl (q_fcmpV rfl rfl rfl rfl hne) ?_
    refine s_nil (n_n (w_if (is_scb rfl) (fun h17 => ?_) (fun h17 => ?_)))
    · have n17 := of_decide_eq_true h17
      refine w_skip (n_n (w_block (w_seq (w_reg (s_q rfl rfl (q_mv (.inl rfl) (is_sc rfl)) ?_)))))
      refine s_q rfl rfl (q_mv (.inl rfl) (is_sc rfl)) ?_
      refine s_q rfl rfl (q_fcmpV rfl rfl rfl rfl cg) ?_
      refine s_nil (n_n (w_if (is_scb rfl) (fun h20 => ?_) (fun h20 => ?_)))
      · have n20 : y < x := by have := of_decide_eq_true h20; omega
        obtain ⟨r, hr, hry⟩ := Fy.sub (k := 0) (by omega) hx hy (by omega)
        refine w_reg (s_q rfl rfl (q_mv (.inl rfl) (is_sc rfl)) ?_)
        refine s_q rfl rfl (q_mv (.inl rfl) (is_sc rfl)) ?_
        refine s_q rfl rfl (q_farith rfl rfl rfl hr) ?_
        refine s_q rfl rfl (q_mv (.inr rfl) (is_sc rfl)) ?_
        refine s_nil (b_n (n_n ?_))
        have hr2 : Fy 0 r ((x - y : Nat) : Int) := by rw [Int.natCast_sub (by omega)]; exact hry
        refine ⟨⟨x - y, y, r, bz, by omega, hy1, by omega, hy2, hr2, hy, (gcd_sub (by omega)).trans hg, ⟨rfl, rfl, trivial⟩, rfl⟩, ?_⟩
        show valF r + valF bz < valF bx + valF bz
        rw [valF_eq hr2, valF_eq hx, valF_eq hy]; omega
      · have n20 : x < y := by have := of_decide_eq_false h20; omega
        obtain ⟨r, hr, hry⟩ := Fy.sub (k := 0) (by omega) hy hx (by omega)
        refine w_reg (s_q rfl rfl (q_mv (.inl rfl) (is_sc rfl)) ?_)
        refine s_q rfl rfl (q_mv (.inl rfl) (is_sc rfl)) ?_
        refine s_q rfl rfl (q_farith rfl rfl rfl hr) ?_
        refine s_q rfl rfl (q_mv (.inr rfl) (is_sc rfl)) ?_
        refine s_nil (b_n (n_n ?_))
        have hr2 : Fy 0 r ((y - x : Nat) : Int) := by rw [Int.natCast_sub (by omega)]; exact hry
        refine ⟨⟨x, y - x, bx, r, hx1, by omega, hx2, by omega, hx, hr2, (gcd_sub' (by omega)).trans hg, ⟨rfl, rfl, trivial⟩, rfl⟩, ?_⟩
        show valF bx + valF r < valF bx + valF bz
        rw [valF_eq hr2, valF_eq hx, valF_eq hy]; omega
    · have n17 : x = y := by have := of_decide_eq_false h17; omega
      refine w_exit (n_e (n_e (b_hit (n_n (w_seq (w_reg (s_q rfl rfl (q_mv (.inl rfl) (is_sc rfl)) ?_)))))))
      refine s_q rfl rfl (q_mv (.inr rfl) (is_sc rfl)) ?_
      refine s_nil (n_n (w_ret ?_))
      -- end 0
      refine r_r (ra_tmp (is_sc rfl) ra_nil) (by exact (is_sc rfl)) (by exact rfl) sub_no ?_
      subst n17
      rw [Nat.gcd_self] at hg
      exact ⟨_, rfl, by rw [← hg]; exact hx⟩


-- pub-tallysheet/pub/excelize.lcm
theorem pf_lcm (ba bb a b : Nat) (ha : Fy 0 ba (a : Int)) (hb : Fy 0 bb (b : Int)) (ha1 : 1 ≤ a) (hb1 : 1 ≤ b) (ha2 : a ≤ 1000000) (hb2 : b ≤ 1000) : PC Tryz.prog G 72 [fl ba, fl bb] (fun v => ∃ r, v = fl r ∧ Fy 0 r ((a / Nat.gcd a b * b : Nat) : Int) ∧ r < 2 ^ 64) := by
  have za : fcmp .eql .f64 (truncF ba) 0 = false := by rw [fcmp_eq (fy_trunc ha).whole fx_zero]; exact decide_eq_false (Int.mul_ne_zero (by omega) (by have := unit_pos; omega))
  have zb : fcmp .eql .f64 (truncF bb) 0 = false := by rw [fcmp_eq (fy_trunc hb).whole fx_zero]; exact decide_eq_false (Int.mul_ne_zero (by omega) (by have := unit_pos; omega))
  have hq := lcm_le ha1 ha2 hb1 hb2
  have hab : 1 ≤ a * b ∧ a * b ≤ 1000000000 := ⟨Nat.mul_le_mul ha1 hb1, Nat.mul_le_mul ha2 hb2⟩
  obtain ⟨m, hm, hmy⟩ := Fy.mul (k := 0) (l := 0) (by omega) (fy_trunc ha) (fy_trunc hb) (by rw [← Int.natCast_mul]; omega)
  rw [← Int.natCast_mul] at hmy
  refine PC.intro rfl Tryz.func72 rfl (Nat.le_of_ble_eq_true rfl) rfl ?_
  refine w_seq (w_reg (s_q rfl rfl (q_mv (.inr rfl) (is_sc rfl)) ?_))
  refine s_nil (n_n (w_seq (w_reg (s_q rfl rfl (q_mv (.inl rfl) (is_sc rfl)) ?_))))
  refine s_q rfl rfl (q_call rfl rfl rfl rfl (pf_Trunc _ _ ha.whole)) ?_
  refine s_q rfl rfl (q_mv (.inr rfl) (is_sc rfl)) ?_
  refine s_nil (n_n (w_seq (w_reg (s_q rfl rfl (q_mv (.inl rfl) (is_sc rfl)) ?_))))
  refine s_q rfl rfl (q_call rfl rfl rfl rfl (pf_Trunc _ _ hb.whole)) ?_
  refine s_q rfl rfl (q_mv (.inr rfl) (is_sc rfl)) ?_
  refine s_nil (n_n (w_seq (w_seq (w_reg (s_q rfl rfl (q_mv (.inl rfl) (is_sc rfl)) ?_)))))
  refine s_q rfl rfl (q_fcmpV rfl rfl rfl rfl za) ?_
  refine s_q rfl rfl (q_mv (.inl rfl) (is_sc rfl)) ?_
  refine s_off rfl rfl ?_
  refine s_off rfl rfl ?_
  refine s_q rfl rfl (q_pickF rfl rfl (is_sc rfl)) ?_
  refine s_nil (n_n (w_ifF rfl (w_skip (n_n (w_seq (w_reg (s_q rfl rfl (q_mv (.inl rfl) (is_sc rfl)) ?_)))))))
  refine s_q rfl rfl (q_mv (.inl rfl) (is_sc rfl)) ?_
  refine s_q rfl rfl (q_farith rfl rfl rfl hm) ?_
  refine s_q rfl rfl (q_mv (.inl rfl) (is_sc rfl)) ?_
  refine s_q rfl rfl (q_mv (.inl rfl) (is_sc rfl)) ?_
  refine s_o rfl rfl (ao_call rfl rfl rfl rfl (pf_gcd _ _ a b (fy_trunc ha) (fy_trunc hb) ha1 hb1 (by omega) (by omega)) fun vg hvg => ?_)
  obtain ⟨g, rfl, hg⟩ := hvg
  obtain ⟨q, hqq, hqy⟩ := Fy.div (k := 0) (l := 0) (j := 0) (by omega) (by omega) (by omega) hmy hg (q := ((a / Nat.gcd a b * b : Nat) : Int)) (by have := hq.2.2.2.1; omega) (by simp only [Nat.pow_zero, Int.natCast_one, Int.mul_one]; rw [← Int.natCast_mul, lcm_mul]) (by have := hq.2.1; omega)
  refine s_q rfl rfl (q_farith rfl rfl rfl hqq) ?_
  refine s_q rfl rfl (q_mv (.inr rfl) (is_sc rfl)) ?_
  refine s_nil (n_n (w_ret ?_))
  -- end 0
  refine r_r (ra_tmp (is_sc rfl) ra_nil) (by exact (is_sc rfl)) (by exact rfl) sub_no ?_
  exact ⟨_, rfl, hqy, bits_lt hqq⟩

end Go.Proofs.YtjobmjfdlkjaoaaGreatDoor.Zz
