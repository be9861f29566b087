/- Walks of the functions, printed by program, and the logic behind them: each theorem says what one function or one step answers. -/
import Derived.Test.YtopgbalmdocboaaGreatDoorZI
import Derived.Test.YtopgbalmdocboaaGreatDoorZFmt
import Derived.Test.YtopgbalmdocboaaGreatDoorZHs
namespace Go.Proofs.YtopgbalmdocboaaGreatDoor.Zz
open Go.Abs
set_option maxRecDepth 100000
set_option linter.unusedVariables false
set_option linter.unusedSimpArgs false
set_option maxHeartbeats 4000000
variable {G : Nat → D}

-- internal/strconv.bool2[int]
theorem pf_b2i (c : Bool) : PF Tryz.prog G 319 [bl c] (i64 (if c then 1 else 0)) := by
  refine PC.intro rfl Tryz.func319 rfl (Nat.le_of_ble_eq_true rfl) rfl ?_
  refine w_seq (w_reg (s_q rfl rfl (q_mv (.inr rfl) (is_sc rfl)) ?_))
  refine s_nil (n_n (w_seq (w_seq (w_reg (s_q rfl rfl (q_mv (.inl rfl) (is_sc rfl)) ?_)))))
  refine s_nil (n_n (w_if (is_scb rfl) (fun h3 => ?_) (fun h3 => ?_)))
  · refine w_seq (w_reg (s_q rfl rfl (q_mv (.inr rfl) (is_sc rfl)) ?_))
    refine s_nil (n_n (w_ret (n_r ?_)))
    -- end 0
    refine r_r (ra_tmp (is_sc rfl) ra_nil) (by exact (is_sc rfl)) (by exact rfl) sub_no ?_
    obtain rfl : c = true := h3
    rfl
  · refine w_skip (n_n (w_seq (w_reg (s_q rfl rfl (q_mv (.inr rfl) (is_sc rfl)) ?_))))
    refine s_nil (n_n (w_ret ?_))
    -- end 1
    refine r_r (ra_tmp (is_sc rfl) ra_nil) (by exact (is_sc rfl)) (by exact rfl) sub_no ?_
    obtain rfl : c = false := h3
    rfl


-- internal/strconv.bool2[uint64]
theorem pf_b2u (c : Bool) : PF Tryz.prog G 338 [bl c] (w64 (if c then 1 else 0)) := by
  refine PC.intro rfl Tryz.func338 rfl (Nat.le_of_ble_eq_true rfl) rfl ?_
  refine w_seq (w_reg (s_q rfl rfl (q_mv (.inr rfl) (is_sc rfl)) ?_))
  refine s_nil (n_n (w_seq (w_seq (w_reg (s_q rfl rfl (q_mv (.inl rfl) (is_sc rfl)) ?_)))))
  refine s_nil (n_n (w_if (is_scb rfl) (fun h3 => ?_) (fun h3 => ?_)))
  · refine w_seq (w_reg (s_q rfl rfl (q_mv (.inr rfl) (is_sc rfl)) ?_))
    refine s_nil (n_n (w_ret (n_r ?_)))
    -- end 0
    refine r_r (ra_tmp (is_sc rfl) ra_nil) (by exact (is_sc rfl)) (by exact rfl) sub_no ?_
    obtain rfl : c = true := h3
    rfl
  · refine w_skip (n_n (w_seq (w_reg (s_q rfl rfl (q_mv (.inr rfl) (is_sc rfl)) ?_))))
    refine s_nil (n_n (w_ret ?_))
    -- end 1
    refine r_r (ra_tmp (is_sc rfl) ra_nil) (by exact (is_sc rfl)) (by exact rfl) sub_no ?_
    obtain rfl : c = false := h3
    rfl


-- internal/strconv.log10Pow2
theorem pf_log10 (x : Int) (h : -2000 ≤ x ∧ x ≤ 2000) : PF Tryz.prog G 291 [i64 x] (i64 (x * 78913 / 262144)) := by
  refine PC.intro rfl Tryz.func291 rfl (Nat.le_of_ble_eq_true rfl) rfl ?_
  refine w_seq (w_reg (s_q rfl rfl (q_mv (.inr rfl) (is_sc rfl)) ?_))
  refine s_nil (n_n (w_seq (w_reg (s_q rfl rfl (q_mv (.inl rfl) (is_sc rfl)) ?_))))
  refine s_q rfl rfl (q_as (i64_eq (wrap_id (by omega) (by omega) : _ = x * 78913)) (q_mul rfl rfl rfl)) ?_
  refine s_q rfl rfl (q_as (i64_eq (show ((x * 78913)).fdiv (2 ^ min ((18 : Int).toNat) IntKind.i64.bits) = (x * 78913) / 262144 by show ((x * 78913)).fdiv (2 ^ 18) = _; rw [Int.fdiv_eq_ediv_of_nonneg _ (show (0 : Int) ≤ 2 ^ 18 by decide)]; rfl)) (q_shr rfl rfl rfl (by decide))) ?_
  refine s_q rfl rfl (q_mv (.inr rfl) (is_sc rfl)) ?_
  refine s_nil (n_n (w_ret ?_))
  -- end 0
  refine r_r (ra_tmp (is_sc rfl) ra_nil) (by exact (is_sc rfl)) (by exact rfl) sub_no ?_
  rfl


-- internal/strconv.log2Pow10
theorem pf_log2 (x : Int) (h : -2000 ≤ x ∧ x ≤ 2000) : PF Tryz.prog G 312 [i64 x] (i64 (x * 108853 / 32768)) := by
  refine PC.intro rfl Tryz.func312 rfl (Nat.le_of_ble_eq_true rfl) rfl ?_
  refine w_seq (w_reg (s_q rfl rfl (q_mv (.inr rfl) (is_sc rfl)) ?_))
  refine s_nil (n_n (w_seq (w_reg (s_q rfl rfl (q_mv (.inl rfl) (is_sc rfl)) ?_))))
  refine s_q rfl rfl (q_as (i64_eq (wrap_id (by omega) (by omega) : _ = x * 108853)) (q_mul rfl rfl rfl)) ?_
  refine s_q rfl rfl (q_as (i64_eq (show ((x * 108853)).fdiv (2 ^ min ((15 : Int).toNat) IntKind.i64.bits) = (x * 108853) / 32768 by show ((x * 108853)).fdiv (2 ^ 15) = _; rw [Int.fdiv_eq_ediv_of_nonneg _ (show (0 : Int) ≤ 2 ^ 15 by decide)]; rfl)) (q_shr rfl rfl rfl (by decide))) ?_
  refine s_q rfl rfl (q_mv (.inr rfl) (is_sc rfl)) ?_
  refine s_nil (n_n (w_ret ?_))
  -- end 0
  refine r_r (ra_tmp (is_sc rfl) ra_nil) (by exact (is_sc rfl)) (by exact rfl) sub_no ?_
  rfl


-- internal/strconv.skewed
theorem pf_skewed (x : Int) (h : -2000 ≤ x ∧ x ≤ 2000) : PF Tryz.prog G 310 [i64 x] (i64 ((x * 631305 - 261663) / 2097152)) := by
  refine PC.intro rfl Tryz.func310 rfl (Nat.le_of_ble_eq_true rfl) rfl ?_
  refine w_seq (w_reg (s_q rfl rfl (q_mv (.inr rfl) (is_sc rfl)) ?_))
  refine s_nil (n_n (w_seq (w_reg (s_q rfl rfl (q_mv (.inl rfl) (is_sc rfl)) ?_))))
  refine s_q rfl rfl (q_as (i64_eq (wrap_id (by omega) (by omega) : _ = x * 631305)) (q_mul rfl rfl rfl)) ?_
  refine s_q rfl rfl (q_as (i64_eq (wrap_id (by omega) (by omega) : _ = x * 631305 - 261663)) (q_sub rfl rfl rfl)) ?_
  refine s_q rfl rfl (q_as (i64_eq (show ((x * 631305 - 261663)).fdiv (2 ^ min ((21 : Int).toNat) IntKind.i64.bits) = (x * 631305 - 261663) / 2097152 by show ((x * 631305 - 261663)).fdiv (2 ^ 21) = _; rw [Int.fdiv_eq_ediv_of_nonneg _ (show (0 : Int) ≤ 2 ^ 21 by decide)]; rfl)) (q_shr rfl rfl rfl (by decide))) ?_
  refine s_q rfl rfl (q_mv (.inr rfl) (is_sc rfl)) ?_
  refine s_nil (n_n (w_ret ?_))
  -- end 0
  refine r_r (ra_tmp (is_sc rfl) ra_nil) (by exact (is_sc rfl)) (by exact rfl) sub_no ?_
  rfl


-- (internal/strconv.unrounded).nudge
-- (internal/strconv.unrounded).ceil
theorem pf_ceil (u : Nat) (h : u < 18446744073709551612) : PF Tryz.prog G 315 [w64 u] (w64 ((u + 3) / 4 : Nat)) := by
  refine PC.intro rfl Tryz.func315 rfl (Nat.le_of_ble_eq_true rfl) rfl ?_
  refine w_seq (w_reg (s_q rfl rfl (q_mv (.inr rfl) (is_sc rfl)) ?_))
  refine s_nil (n_n (w_seq (w_reg (s_q rfl rfl (q_mv (.inl rfl) (is_sc rfl)) ?_))))
  refine s_q rfl rfl (q_as (u64_eq (show _ = ((u + 3 : Nat) : Int) by exact (congrArg _ (by omega)).trans (w64_id (by omega)))) (q_add rfl rfl rfl)) ?_
  refine s_q rfl rfl (q_as (u64_eq (shr_nat (u + 3) 2 64 (by omega))) (q_shr rfl rfl rfl (by decide))) ?_
  refine s_q rfl rfl (q_mv (.inr rfl) (is_sc rfl)) ?_
  refine s_nil (n_n (w_ret ?_))
  -- end 0
  refine r_r (ra_tmp (is_sc rfl) ra_nil) (by exact (is_sc rfl)) (by exact rfl) sub_no ?_
  rfl


-- (internal/strconv.unrounded).floor
theorem pf_floorU (u : Nat) (h : u < 18446744073709551612) : PF Tryz.prog G 316 [w64 u] (w64 (u / 4 : Nat)) := by
  refine PC.intro rfl Tryz.func316 rfl (Nat.le_of_ble_eq_true rfl) rfl ?_
  refine w_seq (w_reg (s_q rfl rfl (q_mv (.inr rfl) (is_sc rfl)) ?_))
  refine s_nil (n_n (w_seq (w_reg (s_q rfl rfl (q_mv (.inl rfl) (is_sc rfl)) ?_))))
  refine s_q rfl rfl (q_as (u64_eq (show _ = ((u : Nat) : Int) by exact (congrArg _ (by omega)).trans (w64_id (by omega)))) (q_add rfl rfl rfl)) ?_
  refine s_q rfl rfl (q_as (u64_eq (shr_nat u 2 64 (by omega))) (q_shr rfl rfl rfl (by decide))) ?_
  refine s_q rfl rfl (q_mv (.inr rfl) (is_sc rfl)) ?_
  refine s_nil (n_n (w_ret ?_))
  -- end 0
  refine r_r (ra_tmp (is_sc rfl) ra_nil) (by exact (is_sc rfl)) (by exact rfl) sub_no ?_
  rfl


-- math/bits.Mul64
theorem pf_Mul64 (x y : Nat) (hx : x < 2 ^ 64) (hy : y < 2 ^ 64) : PF Tryz.prog G 345 [w64 x, w64 y] (.tup [w64 (x * y / 2 ^ 64 : Nat), w64 (x * y % 2 ^ 64 : Nat)]) := by
  have hX : x = x / 2 ^ 32 * 4294967296 + x % 2 ^ 32 := by omega
  have hY : y = y / 2 ^ 32 * 4294967296 + y % 2 ^ 32 := by omega
  have hP := mul_halves x y _ _ _ _ hX hY
  have b0 := half_le (a := x % 2 ^ 32) (b := y % 2 ^ 32) (by omega) (by omega)
  have b1 := half_le (a := x / 2 ^ 32) (b := y % 2 ^ 32) (by omega) (by omega)
  have b2 := half_le (a := x % 2 ^ 32) (b := y / 2 ^ 32) (by omega) (by omega)
  have b3 := half_le (a := x / 2 ^ 32) (b := y / 2 ^ 32) (by omega) (by omega)
  obtain ⟨pa, ha⟩ : ∃ pa, x % 2 ^ 32 * (y % 2 ^ 32) = pa := ⟨_, rfl⟩
  obtain ⟨pb, hb⟩ : ∃ pb, x / 2 ^ 32 * (y % 2 ^ 32) = pb := ⟨_, rfl⟩
  obtain ⟨pc, hc⟩ : ∃ pc, x % 2 ^ 32 * (y / 2 ^ 32) = pc := ⟨_, rfl⟩
  obtain ⟨pd, hd⟩ : ∃ pd, x / 2 ^ 32 * (y / 2 ^ 32) = pd := ⟨_, rfl⟩
  rw [ha, hb, hc, hd] at hP
  rw [ha] at b0; rw [hb] at b1; rw [hc] at b2; rw [hd] at b3
  refine PC.intro rfl Tryz.func345 rfl (Nat.le_of_ble_eq_true rfl) rfl ?_
  refine w_seq (w_reg (s_q rfl rfl (q_mv (.inr rfl) (is_sc rfl)) ?_))
  refine s_q rfl rfl (q_mv (.inr rfl) (is_sc rfl)) ?_
  refine s_nil (n_n (w_seq (w_reg (s_q rfl rfl (q_mv (.inl rfl) (is_sc rfl)) ?_))))
  refine s_q rfl rfl (q_as (u64_eq (and_low (x := x) (hx) 32 (by omega) _ (by decide))) (q_and rfl rfl rfl)) ?_
  refine s_q rfl rfl (q_mv (.inr rfl) (is_sc rfl)) ?_
  refine s_nil (n_n (w_seq (w_reg (s_q rfl rfl (q_mv (.inl rfl) (is_sc rfl)) ?_))))
  refine s_q rfl rfl (q_as (u64_eq (shr_nat (x) 32 64 (by omega))) (q_shr rfl rfl rfl (by decide))) ?_
  refine s_q rfl rfl (q_mv (.inr rfl) (is_sc rfl)) ?_
  refine s_nil (n_n (w_seq (w_reg (s_q rfl rfl (q_mv (.inl rfl) (is_sc rfl)) ?_))))
  refine s_q rfl rfl (q_as (u64_eq (and_low (x := y) (hy) 32 (by omega) _ (by decide))) (q_and rfl rfl rfl)) ?_
  refine s_q rfl rfl (q_mv (.inr rfl) (is_sc rfl)) ?_
  refine s_nil (n_n (w_seq (w_reg (s_q rfl rfl (q_mv (.inl rfl) (is_sc rfl)) ?_))))
  refine s_q rfl rfl (q_as (u64_eq (shr_nat (y) 32 64 (by omega))) (q_shr rfl rfl rfl (by decide))) ?_
  refine s_q rfl rfl (q_mv (.inr rfl) (is_sc rfl)) ?_
  refine s_nil (n_n (w_seq (w_reg (s_q rfl rfl (q_mv (.inl rfl) (is_sc rfl)) ?_))))
  refine s_q rfl rfl (q_mv (.inl rfl) (is_sc rfl)) ?_
  refine s_q rfl rfl (q_as (u64_eq (show _ = ((pa : Nat) : Int) by rw [← Int.natCast_mul, ha]; exact w64_id (by omega))) (q_mul rfl rfl rfl)) ?_
  refine s_q rfl rfl (q_mv (.inr rfl) (is_sc rfl)) ?_
  refine s_nil (n_n (w_seq (w_reg (s_q rfl rfl (q_mv (.inl rfl) (is_sc rfl)) ?_))))
  refine s_q rfl rfl (q_mv (.inl rfl) (is_sc rfl)) ?_
  refine s_q rfl rfl (q_as (u64_eq (show _ = ((pb : Nat) : Int) by rw [← Int.natCast_mul, hb]; exact w64_id (by omega))) (q_mul rfl rfl rfl)) ?_
  refine s_q rfl rfl (q_mv (.inl rfl) (is_sc rfl)) ?_
  refine s_q rfl rfl (q_as (u64_eq (shr_nat (pa) 32 64 (by omega))) (q_shr rfl rfl rfl (by decide))) ?_
  refine s_q rfl rfl (q_as (u64_eq (show _ = ((pb + pa / 2 ^ 32 : Nat) : Int) by rw [← Int.natCast_add]; exact w64_id (by omega))) (q_add rfl rfl rfl)) ?_
  refine s_q rfl rfl (q_mv (.inr rfl) (is_sc rfl)) ?_
  refine s_nil (n_n (w_seq (w_reg (s_q rfl rfl (q_mv (.inl rfl) (is_sc rfl)) ?_))))
  refine s_q rfl rfl (q_as (u64_eq (and_low (x := pb + pa / 2 ^ 32) (by omega) 32 (by omega) _ (by decide))) (q_and rfl rfl rfl)) ?_
  refine s_q rfl rfl (q_mv (.inr rfl) (is_sc rfl)) ?_
  refine s_nil (n_n (w_seq (w_reg (s_q rfl rfl (q_mv (.inl rfl) (is_sc rfl)) ?_))))
  refine s_q rfl rfl (q_as (u64_eq (shr_nat (pb + pa / 2 ^ 32) 32 64 (by omega))) (q_shr rfl rfl rfl (by decide))) ?_
  refine s_q rfl rfl (q_mv (.inr rfl) (is_sc rfl)) ?_
  refine s_nil (n_n (w_seq (w_reg (s_q rfl rfl (q_mv (.inl rfl) (is_sc rfl)) ?_))))
  refine s_q rfl rfl (q_mv (.inl rfl) (is_sc rfl)) ?_
  refine s_q rfl rfl (q_mv (.inl rfl) (is_sc rfl)) ?_
  refine s_q rfl rfl (q_as (u64_eq (show _ = ((pc : Nat) : Int) by rw [← Int.natCast_mul, hc]; exact w64_id (by omega))) (q_mul rfl rfl rfl)) ?_
  refine s_q rfl rfl (q_as (u64_eq (show _ = (((pb + pa / 2 ^ 32) % 2 ^ 32 + pc : Nat) : Int) by rw [← Int.natCast_add]; exact w64_id (by omega))) (q_add rfl rfl rfl)) ?_
  refine s_q rfl rfl (q_mv (.inr rfl) (is_sc rfl)) ?_
  refine s_nil (n_n (w_seq (w_reg (s_q rfl rfl (q_mv (.inl rfl) (is_sc rfl)) ?_))))
  refine s_q rfl rfl (q_mv (.inl rfl) (is_sc rfl)) ?_
  refine s_q rfl rfl (q_as (u64_eq (show _ = ((pd : Nat) : Int) by rw [← Int.natCast_mul, hd]; exact w64_id (by omega))) (q_mul rfl rfl rfl)) ?_
  refine s_q rfl rfl (q_mv (.inl rfl) (is_sc rfl)) ?_
  refine s_q rfl rfl (q_as (u64_eq (show _ = ((pd + (pb + pa / 2 ^ 32) / 2 ^ 32 : Nat) : Int) by rw [← Int.natCast_add]; exact w64_id (by omega))) (q_add rfl rfl rfl)) ?_
  refine s_q rfl rfl (q_mv (.inl rfl) (is_sc rfl)) ?_
  refine s_q rfl rfl (q_as (u64_eq (shr_nat ((pb + pa / 2 ^ 32) % 2 ^ 32 + pc) 32 64 (by omega))) (q_shr rfl rfl rfl (by decide))) ?_
  refine s_q rfl rfl (q_as (u64_eq (show _ = ((x * y / 2 ^ 64 : Nat) : Int) by rw [← Int.natCast_add, w64_id (by omega)]; congr 1; omega)) (q_add rfl rfl rfl)) ?_
  refine s_q rfl rfl (q_mv (.inr rfl) (is_sc rfl)) ?_
  refine s_nil (n_n (w_seq (w_reg (s_q rfl rfl (q_mv (.inl rfl) (is_sc rfl)) ?_))))
  refine s_q rfl rfl (q_mv (.inl rfl) (is_sc rfl)) ?_
  refine s_q rfl rfl (q_as (u64_eq (show _ = ((x * y % 2 ^ 64 : Nat) : Int) by rw [← Int.natCast_mul]; exact w64_mod _)) (q_mul rfl rfl rfl)) ?_
  refine s_q rfl rfl (q_mv (.inr rfl) (is_sc rfl)) ?_
  refine s_nil (n_n (w_ret ?_))
  -- end 0
  refine r_r (ra_tmp (is_sc rfl) (ra_tmp (is_sc rfl) ra_nil)) (by exact (rfl : _ = D.tup [_, _])) (by exact rfl) sub_no ?_
  rfl

end Go.Proofs.YtopgbalmdocboaaGreatDoor.Zz
