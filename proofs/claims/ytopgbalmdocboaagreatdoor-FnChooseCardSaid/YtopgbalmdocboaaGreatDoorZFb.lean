/- Walks of the functions, printed by program, and the logic behind them: each theorem says what one function or one step answers. -/
import Derived.Test.YtopgbalmdocboaaGreatDoorZFa
import Derived.Test.YtopgbalmdocboaaGreatDoorZWL
import Derived.Test.YtopgbalmdocboaaGreatDoorZFmt
import Derived.Test.YtopgbalmdocboaaGreatDoorZHs
namespace Go.Proofs.YtopgbalmdocboaaGreatDoor.Zz
open Go.Abs
set_option maxRecDepth 100000
set_option linter.unusedVariables false
set_option linter.unusedSimpArgs false
set_option maxHeartbeats 4000000
variable {G : Nat → D}

/-- What the library's tables hold. -/
structure Tabs (G : Nat → D) : Prop where
  pow : ∃ cs, G 12 = .pin cs 0 ∧ ∀ p, 5 ≤ p → p ≤ 17 → cs[(p + 348) * 2]? = some (w64 (hiOf p)) ∧ cs[(p + 348) * 2 + 1]? = some (w64 0)
  ten : ∃ cs, G 9 = .pin cs 0 ∧ ∀ i, i < 20 → cs[i]? = some (w64 (10 ^ i : Nat))


-- internal/strconv.prescale
theorem pf_prescale (h : Heap) (k p : Nat) (e lp : Int) (hk : Heap.len h k = some 3) (T : Tabs G) (hp1 : 5 ≤ p) (hp2 : p ≤ 17) (he : -1000 ≤ e ∧ e ≤ 1000) (hlp : -1000 ≤ lp ∧ lp ≤ 1000) : ACall Tryz.prog G 311 true [.hp k 0, i64 e, i64 p, i64 lp] h (fun _ h' => h' = Heap.put (Heap.put (Heap.put h k 0 (w64 (hiOf p))) k 1 (w64 0)) k 2 (i64 (-(e + lp + 3)))) := by
  obtain ⟨cs, hG, ht⟩ := T.pow
  obtain ⟨t1, t2⟩ := ht p hp1 hp2
  have l1 := fun dd => len_put' (d := dd) hk (show 0 < 3 by omega)
  have l2 := fun dd => len_put' (h := Heap.put h k 0 (w64 (hiOf p))) (d := dd) ((l1 _ k).trans hk) (show 1 < 3 by omega)
  refine ACall.intro rfl Tryz.func311 rfl (Nat.le_of_ble_eq_true rfl) rfl ?_
  refine w_seq (w_reg (s_q rfl rfl (q_mv (.inl rfl) (by first | exact is_box rfl | exact is_hp rfl | exact is_pin rfl | exact is_sc rfl | exact rfl)) ?_))
  refine s_q rfl rfl (q_mv (.inl rfl) (is_sc rfl)) ?_
  refine s_q rfl rfl (q_as (i64_eq ((wrap_id (by omega) (by omega)).trans (by omega) : _ = (p : Int) + 348)) (q_sub rfl rfl rfl)) ?_
  refine s_q rfl rfl (q_indexArr (i := (p : Int) + 348) rfl hG (by exact rfl) (by omega) (by show (p : Int) + 348 < ((696 : Nat) : Int); omega) (by exact rfl)) ?_
  refine s_q rfl rfl (q_field rfl rfl (by exact rfl)) ?_
  refine s_q rfl rfl (q_loadPin rfl rfl (by show cs[_]? = _; rw [show 0 + ((p : Int) + 348).toNat * 2 + 0 = (p + 348) * 2 + 0 by omega]; exact t1)) ?_
  refine s_q rfl rfl (q_nil rfl rfl rfl) ?_
  refine s_q rfl rfl (q_field rfl rfl (by exact rfl)) ?_
  refine s_u rfl rfl (as_storeP (off := 0) (d := w64 (hiOf p)) rfl rfl rfl hk (by decide) rfl rfl rfl) ?_
  refine s_nil (n_n (w_seq (w_reg (s_q rfl rfl (q_mv (.inl rfl) (by first | exact is_box rfl | exact is_hp rfl | exact is_pin rfl | exact is_sc rfl | exact rfl)) ?_))))
  refine s_q rfl rfl (q_mv (.inl rfl) (is_sc rfl)) ?_
  refine s_q rfl rfl (q_as (i64_eq ((wrap_id (by omega) (by omega)).trans (by omega) : _ = (p : Int) + 348)) (q_sub rfl rfl rfl)) ?_
  refine s_q rfl rfl (q_indexArr (i := (p : Int) + 348) rfl hG (by exact rfl) (by omega) (by show (p : Int) + 348 < ((696 : Nat) : Int); omega) (by exact rfl)) ?_
  refine s_q rfl rfl (q_field rfl rfl (by exact rfl)) ?_
  refine s_q rfl rfl (q_loadPin rfl rfl (by show cs[_]? = _; rw [show 0 + ((p : Int) + 348).toNat * 2 + 1 = (p + 348) * 2 + 1 by omega]; exact t2)) ?_
  refine s_q rfl rfl (q_nil rfl rfl rfl) ?_
  refine s_q rfl rfl (q_field rfl rfl (by exact rfl)) ?_
  refine s_u rfl rfl (as_storeP (off := 1) (d := w64 0) rfl rfl rfl ((l1 _ k).trans hk) (by decide) rfl rfl rfl) ?_
  refine s_nil (n_n (w_reg (s_q rfl rfl (q_mv (.inl rfl) (by first | exact is_box rfl | exact is_hp rfl | exact is_pin rfl | exact is_sc rfl | exact rfl)) ?_)))
  refine s_q rfl rfl (q_mv (.inl rfl) (is_sc rfl)) ?_
  refine s_q rfl rfl (q_mv (.inl rfl) (is_sc rfl)) ?_
  refine s_q rfl rfl (q_as (i64_eq (wrap_id (by omega) (by omega) : _ = e + lp)) (q_add rfl rfl rfl)) ?_
  refine s_q rfl rfl (q_as (i64_eq (wrap_id (by omega) (by omega) : _ = e + lp + 3)) (q_add rfl rfl rfl)) ?_
  refine s_q rfl rfl (q_as (i64_eq ((wrap_id (by omega) (by omega)).trans (by omega) : _ = -(e + lp + 3))) (q_neg rfl rfl)) ?_
  refine s_q rfl rfl (q_nil rfl rfl rfl) ?_
  refine s_q rfl rfl (q_field rfl rfl (by exact rfl)) ?_
  refine s_u rfl rfl (as_storeP (off := 2) (d := i64 (-(e + lp + 3))) rfl rfl rfl ((l2 _ k).trans ((l1 _ k).trans hk)) (by decide) rfl rfl rfl) ?_
  refine s_nil ?_
  -- end 0
  refine r_n ra_nil (by exact (rfl : _ = D.tup [])) (by exact rfl) (Sub.refl _) ?_
  rfl


-- internal/strconv.uscale
theorem pf_uscale (h : Heap) (k x H s : Nat) (hx : x < 2 ^ 64) (hH : H < 2 ^ 64) (hs : s < 64) (g0 : Heap.get h k 0 = some (w64 H)) (g1 : Heap.get h k 1 = some (w64 0)) (g2 : Heap.get h k 2 = some (i64 s)) : ACall Tryz.prog G 313 true [w64 x, .hp k 0] h (fun v h' => v = w64 (usc x H s : Nat) ∧ h' = h) := by
  obtain ⟨hi, hhi⟩ : ∃ hi, x * H / 2 ^ 64 = hi := ⟨_, rfl⟩
  obtain ⟨mid, hmid⟩ : ∃ mid, x * H % 2 ^ 64 = mid := ⟨_, rfl⟩
  have hprod : x * H = hi * 2 ^ 64 + mid := by omega
  have hm : mid < 2 ^ 64 := by omega
  have hib : hi < 2 ^ 64 := by rw [← hhi]; exact Nat.div_lt_of_lt_mul (Nat.mul_lt_mul'' hx hH)
  have hqb : hi / 2 ^ s < 2 ^ 64 := Nat.lt_of_le_of_lt (Nat.div_le_self _ _) hib
  obtain ⟨q1, q2⟩ := usc_hi (s := s) hprod hm
  have hmul := pf_Mul64 (G := G) x H hx hH
  rw [hhi, hmid] at hmul
  have hmul0 : PF Tryz.prog G 345 [w64 x, w64 0] (.tup [w64 0, w64 0]) := by
    have := pf_Mul64 (G := G) x 0 hx (by omega)
    rw [Nat.mul_zero] at this; exact this
  refine ACall.intro rfl Tryz.func313 rfl (Nat.le_of_ble_eq_true rfl) rfl ?_
  refine w_seq (w_reg (s_q rfl rfl (q_mv (.inr rfl) (is_sc rfl)) ?_))
  refine s_nil (n_n (w_seq (w_reg (s_q rfl rfl (q_mv (.inl rfl) (is_sc rfl)) ?_))))
  refine s_q rfl rfl (q_mv (.inl rfl) (by first | exact is_box rfl | exact is_hp rfl | exact is_pin rfl | exact is_sc rfl | exact rfl)) ?_
  refine s_q rfl rfl (q_nil rfl rfl rfl) ?_
  refine s_q rfl rfl (q_field rfl rfl (by exact rfl)) ?_
  refine s_q rfl rfl (q_loadH rfl rfl (d := w64 H) (by exact g0)) ?_
  refine s_q rfl rfl (q_call rfl rfl rfl rfl hmul) ?_
  refine s_q rfl rfl (q_mv (.inl rfl) (by first | exact (rfl : _ = D.tup [_, _]) | exact rfl)) ?_
  refine s_q rfl rfl (q_extract rfl rfl rfl) ?_
  refine s_q rfl rfl (q_extract rfl rfl rfl) ?_
  refine s_q rfl rfl (q_mv (.inr rfl) (is_sc rfl)) ?_
  refine s_q rfl rfl (q_mv (.inr rfl) (is_sc rfl)) ?_
  refine s_nil (n_n (w_seq (w_reg (s_q rfl rfl (q_mv (.inl rfl) (by first | exact is_box rfl | exact is_hp rfl | exact is_pin rfl | exact is_sc rfl | exact rfl)) ?_))))
  refine s_q rfl rfl (q_nil rfl rfl rfl) ?_
  refine s_q rfl rfl (q_field rfl rfl (by exact rfl)) ?_
  refine s_q rfl rfl (q_loadH rfl rfl (d := i64 s) (by exact g2)) ?_
  refine s_q rfl rfl (q_as (i64_eq (and63 hs)) (q_and rfl rfl rfl)) ?_
  refine s_q rfl rfl (q_mv (.inr rfl) (is_sc rfl)) ?_
  refine s_nil (n_n (w_seq (w_seq (w_reg (s_q rfl rfl (q_mv (.inl rfl) (is_sc rfl)) ?_)))))
  refine s_q rfl rfl (q_mv (.inl rfl) (is_sc rfl)) ?_
  refine s_q rfl rfl (q_as (u64_eq (shr_nat hi s 64 (by omega))) (q_shr rfl rfl rfl (Int.natCast_nonneg _))) ?_
  refine s_q rfl rfl (q_mv (.inl rfl) (is_sc rfl)) ?_
  refine s_q rfl rfl (q_as (u64_eq (shl_nat (hi / 2 ^ s) s (by omega) (Nat.lt_of_le_of_lt (Nat.div_mul_le_self _ _) hib))) (q_shl rfl rfl rfl (Int.natCast_nonneg _))) ?_
  refine s_q rfl rfl (q_mv (.inl rfl) (is_sc rfl)) ?_
  refine s_q rfl rfl (q_neq rfl rfl rfl) ?_
  refine s_nil (n_n (w_if (is_scb rfl) (fun h30 => ?_) (fun h30 => ?_)))
  · have he : 1 ≤ hi % 2 ^ s := cut_yes (by have := of_decide_eq_true h30; omega)
    refine w_seq (w_reg (s_q rfl rfl (q_mv (.inl rfl) (is_sc rfl)) ?_))
    refine s_q rfl rfl (q_mv (.inl rfl) (is_sc rfl)) ?_
    refine s_q rfl rfl (q_as (u64_eq (shr_nat hi s 64 (by omega))) (q_shr rfl rfl rfl (Int.natCast_nonneg _))) ?_
    refine s_q rfl rfl (q_as (u64_eq (or_low (x := hi / 2 ^ s) (y := 1) hqb (by omega))) (q_or rfl rfl rfl)) ?_
    refine s_q rfl rfl (q_mv (.inr rfl) (is_sc rfl)) ?_
    refine s_nil (n_n (w_ret (n_r ?_)))
    -- end 0
    refine r_r (ra_tmp (is_sc rfl) ra_nil) (by exact (is_sc rfl)) (by exact rfl) (Sub.refl _) ?_
    refine ⟨?_, rfl⟩
    rw [show usc x H s = hi / 2 ^ s ||| 1 by unfold usc; rw [q1, q2, if_pos (by omega)]]
  · have he : hi % 2 ^ s = 0 := cut_no (by have := of_decide_eq_false h30; omega)
    rw [he, Nat.zero_mul, Nat.zero_add] at q2
    have hor : IntKind.u64.wrap ((BitVec.ofInt IntKind.u64.bits ((hi / 2 ^ s : Nat) : Int) ||| BitVec.ofInt IntKind.u64.bits (if decide ((1 : Int) < (mid : Int)) = true then 1 else 0)).toNat : Int) = ((usc x H s : Nat) : Int) := by
      unfold usc
      rw [q1, q2]
      by_cases hm1 : 1 < mid
      · rw [if_pos (decide_eq_true (by omega)), if_pos hm1]; exact or_low (x := hi / 2 ^ s) (y := 1) hqb (by omega)
      · rw [if_neg (by rw [decide_eq_false (by omega)]; simp), if_neg hm1]; exact or_low (x := hi / 2 ^ s) (y := 0) hqb (by omega)
    refine w_skip (n_n (w_seq (w_reg (s_q rfl rfl (q_mv (.inl rfl) (is_sc rfl)) ?_))))
    refine s_q rfl rfl (q_mv (.inl rfl) (by first | exact is_box rfl | exact is_hp rfl | exact is_pin rfl | exact is_sc rfl | exact rfl)) ?_
    refine s_q rfl rfl (q_nil rfl rfl rfl) ?_
    refine s_q rfl rfl (q_field rfl rfl (by exact rfl)) ?_
    refine s_q rfl rfl (q_loadH rfl rfl (d := w64 0) (by exact g1)) ?_
    refine s_q rfl rfl (q_call rfl rfl rfl rfl hmul0) ?_
    refine s_q rfl rfl (q_mv (.inl rfl) (by first | exact (rfl : _ = D.tup [_, _]) | exact rfl)) ?_
    refine s_q rfl rfl (q_extract rfl rfl rfl) ?_
    refine s_q rfl rfl (q_extract rfl rfl rfl) ?_
    refine s_q rfl rfl (q_mv (.inr rfl) (is_sc rfl)) ?_
    refine s_q rfl rfl (q_mv (.inr rfl) (is_sc rfl)) ?_
    refine s_nil (n_n (w_seq (w_reg (s_q rfl rfl (q_mv (.inl rfl) (is_sc rfl)) ?_))))
    refine s_q rfl rfl (q_mv (.inl rfl) (is_sc rfl)) ?_
    refine s_q rfl rfl (q_mv (.inl rfl) (is_sc rfl)) ?_
    refine s_q rfl rfl (q_as (bl_no (show ¬ (mid : Int) < 0 by omega)) (q_lss rfl rfl rfl)) ?_
    refine s_q rfl rfl (q_call rfl rfl rfl rfl (pf_b2u _)) ?_
    refine s_q rfl rfl (q_as (u64_eq (show _ = (hi : Int) by exact (congrArg _ (by simp)).trans (w64_id hib))) (q_sub rfl rfl rfl)) ?_
    refine s_q rfl rfl (q_mv (.inr rfl) (is_sc rfl)) ?_
    refine s_nil (n_n (w_seq (w_draw [0, 0, 3, 0, 0, 24, 56, 120, 255, 511] [0, 0, 0, 0, 0, 0, 0, 0, 0, 0] rfl ?_)))
    refine d_q0 rfl rfl (q_mv (.inl rfl) (is_sc rfl)) ?_
    refine d_q0 rfl rfl (q_mv (.inl rfl) (is_sc rfl)) ?_
    refine d_q0 rfl rfl (q_as (u64_eq (shr_nat hi s 64 (by omega))) (q_shr rfl rfl rfl (Int.natCast_nonneg _))) ?_
    refine d_q0 rfl rfl (q_mv (.inl rfl) (is_sc rfl)) ?_
    refine d_q0 rfl rfl (q_mv (.inl rfl) (is_sc rfl)) ?_
    refine d_q0 rfl rfl (q_as (u64_eq (show _ = (mid : Int) by exact (congrArg _ (by simp)).trans (w64_id hm))) (q_sub rfl rfl rfl)) ?_
    refine d_q0 rfl rfl (q_gtr rfl rfl rfl) ?_
    refine d_q0 rfl rfl (q_call rfl rfl rfl rfl (pf_b2u _)) ?_
    refine d_q0 rfl rfl (q_as (u64_eq hor) (q_or rfl rfl rfl)) ?_
    refine d_q0 rfl rfl (q_mv (.inr rfl) (is_sc rfl)) ?_
    refine d_nil (n_n (w_ret ?_))
    -- end 1
    refine r_r (ra_tmp (is_sc rfl) ra_nil) (by exact (is_sc rfl)) (by exact rfl) (Sub.refl _) ?_
    exact ⟨rfl, rfl⟩

end Go.Proofs.YtopgbalmdocboaaGreatDoor.Zz
