/- Walks of the functions, printed by program, and the logic behind them: each theorem says what one function or one step answers. -/
import Derived.Test.YtopgbalmdocboaaGreatDoorZFb
import Derived.Test.YtopgbalmdocboaaGreatDoorZFmt
import Derived.Test.YtopgbalmdocboaaGreatDoorZHs
namespace Go.Proofs.YtopgbalmdocboaaGreatDoor.Zz
open Go.Abs
set_option maxRecDepth 100000
set_option linter.unusedVariables false
set_option linter.unusedSimpArgs false
set_option maxHeartbeats 4000000
variable {G : Nat → D}

-- (internal/strconv.unrounded).nudge
theorem pf_nudge0 (u : Nat) (h : u < 2 ^ 64) : PF Tryz.prog G 314 [w64 u, i64 0] (w64 u) := by
  refine PC.intro rfl Tryz.func314 rfl (Nat.le_of_ble_eq_true rfl) rfl ?_
  refine w_seq (w_reg (s_q rfl rfl (q_mv (.inr rfl) (is_sc rfl)) ?_))
  refine s_nil (n_n (w_seq (w_reg (s_q rfl rfl (q_mv (.inl rfl) (is_sc rfl)) ?_))))
  refine s_q rfl rfl (q_mv (.inl rfl) (is_sc rfl)) ?_
  refine s_q rfl rfl (q_cii rfl rfl) ?_
  refine s_q rfl rfl (q_as (u64_eq (show _ = (u : Int) by exact (congrArg _ (by simp [IntKind.wrap, IntKind.signed, IntKind.bits])).trans (w64_id h))) (q_add rfl rfl rfl)) ?_
  refine s_q rfl rfl (q_mv (.inr rfl) (is_sc rfl)) ?_
  refine s_nil (n_n (w_ret ?_))
  -- end 0
  refine r_r (ra_tmp (is_sc rfl) ra_nil) (by exact (is_sc rfl)) (by exact rfl) sub_no ?_
  rfl


-- internal/strconv.shortFloat[float64]
theorem pf_short (a L m : Nat) (hL : L ≤ 40) (hL1 : 2 ^ L ≤ a) (hL3 : a < 2 ^ (L + 1)) (hm : m = a * 2 ^ (63 - L)) (T : Tabs G) : PF Tryz.prog G 296 [w64 m, i64 ((L : Int) - 67)] (.tup [w64 (a * (10 ^ plS a L / 16) / 10 : Nat), i64 (-((plS a L : Int) - 1))]) := by
  have hpw : 2 ^ L * 2 ^ (63 - L) = 2 ^ 63 := by rw [← Nat.pow_add]; congr 1; omega
  have hm1 : 2 ^ 63 ≤ m := by rw [hm, ← hpw]; exact Nat.mul_le_mul_right _ hL1
  obtain ⟨c, hc⟩ : ∃ c, m = c * 2 ^ 23 := ⟨a * 2 ^ (40 - L), by rw [hm, Nat.mul_assoc, ← Nat.pow_add]; congr 2; omega⟩
  have hm2 : m < 2 ^ 64 := by
    have h1 : a * 2 ^ (63 - L) < 2 ^ (L + 1) * 2 ^ (63 - L) := Nat.mul_lt_mul_of_pos_right hL3 (Nat.two_pow_pos _)
    rw [← Nat.pow_add, show L + 1 + (63 - L) = 64 by omega] at h1
    omega
  have hc1 : m + 1024 < 2 ^ 64 := by omega
  have ha0 : 0 < a := Nat.lt_of_lt_of_le (Nat.two_pow_pos L) hL1
  have ho : IntKind.i64.wrap ((BitVec.ofInt IntKind.i64.bits ((m / 2 ^ 11 : Nat) : Int) &&& BitVec.ofInt IntKind.i64.bits 1).toNat : Int) = 0 := and1_even (by omega) (by rw [hc]; omega)
  have hs := sh_pl hL a
  have hpl : plS a L = if m = 2 ^ 63 then pOf2 L else pOf L := by rw [hm]; rfl
  obtain ⟨p, hp⟩ : ∃ p, plS a L = p := ⟨_, rfl⟩
  rw [hp] at hs hpl
  have hp1 := hs.p1
  have hp2 := hs.p2
  obtain ⟨X, hX⟩ : ∃ X, X = a * (10 ^ p / 16) := ⟨_, rfl⟩
  have hmx := sh_max hs hm hX
  have hmn1 := sh_min hs hm hX ha0 1024 (by omega) (by omega)
  have hmn2 := sh_min hs hm hX ha0 512 (by omega) (by omega)
  have hten : X % 10 = 0 := by rw [hX, Nat.mul_mod, hs.ten]; simp
  have hXb := sh_bound hs hm hX hm2
  have hlp := lp_eq p
  obtain ⟨hs4, hs64, hslp⟩ := hs.s
  have hsh : shOf L p = 64 - L - lpOf p := rfl
  have hHl := hs.hl
  have hlg := pf_log2 (G := G) (p : Int) (by omega)
  rw [hlp] at hlg
  rw [hp, ← hX]
  obtain ⟨lp, hlpe⟩ : ∃ lp, lpOf p = lp := ⟨_, rfl⟩
  rw [hlpe] at hlg hsh hslp
  obtain ⟨sh, hshe⟩ : ∃ sh, shOf L p = sh := ⟨_, rfl⟩
  rw [hshe] at hsh hmx hmn1 hmn2 hs4 hs64
  obtain ⟨H, hHe⟩ : ∃ H, hiOf p = H := ⟨_, rfl⟩
  rw [hHe] at hmx hmn1 hmn2 hHl
  obtain ⟨ux, hux⟩ : ∃ u, usc (m + 1024) H sh = u := ⟨_, rfl⟩
  rw [hux] at hmx
  refine PC.intro rfl Tryz.func296 rfl (Nat.le_of_ble_eq_true rfl) rfl ?_
  refine w_seq (w_reg (s_q rfl rfl (q_mv (.inr rfl) (is_sc rfl)) ?_))
  refine s_q rfl rfl (q_mv (.inr rfl) (is_sc rfl)) ?_
  refine s_nil (n_n (w_seq (w_reg (s_q rfl rfl (q_mv (.inr rfl) (is_sc rfl)) ?_))))
  refine s_q rfl rfl (q_mv (.inr rfl) (is_sc rfl)) ?_
  refine s_nil (n_n (w_seq (w_seq (w_reg (s_q rfl rfl (q_mul rfl rfl rfl) ?_)))))
  refine s_nil (n_n (w_block (w_seq (w_reg (s_q rfl rfl (q_as (bl_no (show ¬ (IntKind.u64.wrap (8 * 8)) = 32 by decide)) (q_eql rfl rfl rfl)) ?_)))))
  refine s_q rfl rfl (q_mv (.inr rfl) (is_sc rfl)) ?_
  refine s_nil (n_n (w_ifF rfl (w_seq (w_reg (s_q rfl rfl (q_as (bl_yes (show (IntKind.u64.wrap (8 * 8)) = 64 by decide)) (q_eql rfl rfl rfl)) ?_)))))
  refine s_q rfl rfl (q_mv (.inr rfl) (is_sc rfl)) ?_
  refine s_nil (n_n (w_ifT rfl (w_seq (w_reg (s_q rfl rfl (q_mv (.inr rfl) (is_sc rfl)) ?_)))))
  refine s_nil (n_n (w_reg (s_q rfl rfl (q_mv (.inr rfl) (is_sc rfl)) ?_)))
  refine s_nil (b_n (n_n (w_seq (w_reg (s_q rfl rfl (q_mv (.inr rfl) (is_sc rfl)) ?_)))))
  refine s_q rfl rfl (q_mv (.inr rfl) (is_sc rfl)) ?_
  refine s_nil (n_n (w_seq (w_reg (s_q rfl rfl (q_mv (.inr rfl) (is_sc rfl)) ?_))))
  refine s_nil (n_n (w_seq (w_reg (s_q rfl rfl (q_mv (.inl rfl) (is_sc rfl)) ?_))))
  refine s_q rfl rfl (q_as (i64_eq (by decide : _ = (11 : Int))) (q_sub rfl rfl rfl)) ?_
  refine s_q rfl rfl (q_mv (.inr rfl) (is_sc rfl)) ?_
  refine s_nil (n_n (w_seq (w_seq (w_reg (s_q rfl rfl (q_mv (.inl rfl) (is_sc rfl)) ?_)))))
  refine s_q rfl rfl (q_eql rfl rfl rfl) ?_
  refine s_q rfl rfl (q_mv (.inl rfl) (is_sc rfl)) ?_
  refine s_split 24 (is_scb rfl) (fun h24 => ?_) (fun h24 => ?_)
  · have hpe : p = pOf2 L := by rw [hpl, if_pos (by have := of_decide_eq_true h24; omega)]
    obtain ⟨un, hun⟩ : ∃ u, usc (m - 512) H sh = u := ⟨_, rfl⟩
    have hmn : un ≤ 4 * X - 1 := by rw [← hun]; exact hmn2
    have hmd : m - 512 < 2 ^ 64 := by omega
    refine s_q rfl rfl (q_mv (.inl rfl) (is_sc rfl)) ?_
    refine s_q rfl rfl (q_mv (.inl rfl) (is_sc rfl)) ?_
    refine s_q rfl rfl (q_as (bl_yes (show (-1085 : Int) < (L : Int) - 67 by omega)) (q_gtr rfl rfl rfl)) ?_
    refine s_q rfl rfl (q_pickT rfl rfl (is_sc rfl)) ?_
    refine s_nil (n_n (w_ifT rfl (w_seq (w_reg (s_q rfl rfl (q_mv (.inl rfl) (is_sc rfl)) ?_)))))
    refine s_q rfl rfl (q_mv (.inl rfl) (is_sc rfl)) ?_
    refine s_q rfl rfl (q_as (i64_eq ((wrap_id (by omega) (by omega)).trans (by omega) : _ = (L : Int) - 56)) (q_add rfl rfl rfl)) ?_
    refine s_q rfl rfl (q_call rfl rfl rfl rfl (pf_skewed _ (by omega))) ?_
    refine s_q rfl rfl (q_as (i64_eq (show _ = (p : Int) by rw [hpe, ← pOf2_eq hL]; exact (wrap_id (by omega) (by omega)).trans (by omega))) (q_neg rfl rfl)) ?_
    refine s_q rfl rfl (q_mv (.inr rfl) (is_sc rfl)) ?_
    refine s_nil (n_n (w_seq (w_reg (s_q rfl rfl (q_mv (.inl rfl) (is_sc rfl)) ?_))))
    refine s_q rfl rfl (q_mv (.inl rfl) (is_sc rfl)) ?_
    refine s_q rfl rfl (q_sub rfl rfl rfl) ?_
    refine s_q rfl rfl (q_as (u64_eq (by decide : _ = (512 : Int))) (q_shl rfl rfl rfl (by decide))) ?_
    refine s_q rfl rfl (q_as (u64_eq (show _ = ((m - 512 : Nat) : Int) by exact (congrArg _ (by omega)).trans (w64_id (by omega)))) (q_sub rfl rfl rfl)) ?_
    refine s_q rfl rfl (q_mv (.inr rfl) (is_sc rfl)) ?_
    refine s_nil (n_n (w_seq (w_reg (s_q rfl rfl (q_mv (.inl rfl) (is_sc rfl)) ?_))))
    refine s_q rfl rfl (q_mv (.inl rfl) (is_sc rfl)) ?_
    refine s_q rfl rfl (q_sub rfl rfl rfl) ?_
    refine s_q rfl rfl (q_as (u64_eq (by decide : _ = (1024 : Int))) (q_shl rfl rfl rfl (by decide))) ?_
    refine s_q rfl rfl (q_as (u64_eq (show _ = ((m + 1024 : Nat) : Int) by exact (congrArg _ (by omega)).trans (w64_id (by omega)))) (q_add rfl rfl rfl)) ?_
    refine s_q rfl rfl (q_mv (.inr rfl) (is_sc rfl)) ?_
    refine s_nil (n_n (w_reg (s_q rfl rfl (q_mv (.inl rfl) (is_sc rfl)) ?_)))
    refine s_q rfl rfl (q_mv (.inl rfl) (is_sc rfl)) ?_
    refine s_q rfl rfl (q_as (u64_eq (shr_nat m 11 64 (by omega))) (q_shr rfl rfl rfl (by decide))) ?_
    refine s_q rfl rfl (q_as (i64_eq (wrap_id (by omega) (by omega) : _ = ((m / 2 ^ 11 : Nat) : Int))) (q_cii rfl rfl)) ?_
    refine s_q rfl rfl (q_as (i64_eq ho) (q_and rfl rfl rfl)) ?_
    refine s_q rfl rfl (q_mv (.inr rfl) (is_sc rfl)) ?_
    refine s_nil (n_n (w_seq (w_reg (s_o rfl rfl (ao_allocH rfl fun k12 hk12 => ?_)))))
    have hk12' : noHeap k12 = none := rfl
    have hlen : Heap.len (Heap.add noHeap k12 [.sc (.int .u64 0), .sc (.int .u64 0), .sc (.int .i64 0)]) k12 = some 3 := by simp [Heap.len, Heap.add]
    refine s_nil (n_n (w_seq (w_reg (s_q rfl rfl (q_mv (.inl rfl) (is_sc rfl)) ?_))))
    refine s_q rfl rfl (q_mv (.inl rfl) (is_sc rfl)) ?_
    refine s_q rfl rfl (q_mv (.inl rfl) (is_sc rfl)) ?_
    refine s_q rfl rfl (q_call rfl rfl rfl rfl hlg) ?_
    refine s_o rfl rfl (ao_callH rfl rfl rfl rfl (pf_prescale _ k12 p _ lp hlen T hp1 hp2 (by omega) (by omega)) fun v101 Hv101 hv101 => ?_)
    replace hv101 : Hv101 = Heap.put (Heap.put (Heap.put (Heap.add noHeap k12 [.sc (.int .u64 0), .sc (.int .u64 0), .sc (.int .i64 0)]) k12 0 (w64 (hiOf p))) k12 1 (w64 0)) k12 2 (i64 (-((L : Int) - 67 + lp + 3))) := hv101
    have hg := scal_get (p := p) (e := (L : Int) - 67) (lp := lp) hlen
    rw [← hv101, hHe] at hg
    have hg2 : -((L : Int) - 67 + lp + 3) = (sh : Int) := by omega
    rw [hg2] at hg
    obtain ⟨g0, g1, g2⟩ := hg
    clear hv101
    refine s_nil (n_n (w_seq (w_reg (s_q rfl rfl (q_mv (.inl rfl) (is_sc rfl)) ?_))))
    refine s_o rfl rfl (ao_callH rfl rfl rfl rfl (pf_uscale _ k12 _ H sh hmd hHl.2 hs64 (by exact g0) (by exact g1) (by exact g2)) fun v103 Hv103 hv103 => ?_)
    obtain ⟨rfl, rfl⟩ := hv103
    rw [hun]
    refine s_q rfl rfl (q_mv (.inl rfl) (is_sc rfl)) ?_
    refine s_q rfl rfl (q_call rfl rfl rfl rfl (pf_nudge0 _ (by omega))) ?_
    refine s_q rfl rfl (q_call rfl rfl rfl rfl (pf_ceil un (by omega))) ?_
    refine s_q rfl rfl (q_mv (.inr rfl) (is_sc rfl)) ?_
    refine s_nil (n_n (w_seq (w_reg (s_q rfl rfl (q_mv (.inl rfl) (is_sc rfl)) ?_))))
    refine s_o rfl rfl (ao_callH rfl rfl rfl rfl (pf_uscale _ k12 _ H sh hc1 hHl.2 hs64 (by exact g0) (by exact g1) (by exact g2)) fun v108 Hv108 hv108 => ?_)
    obtain ⟨rfl, rfl⟩ := hv108
    rw [hux]
    refine s_q rfl rfl (q_mv (.inl rfl) (is_sc rfl)) ?_
    refine s_q rfl rfl (q_as (i64_eq (by decide : _ = (0 : Int))) (q_neg rfl rfl)) ?_
    refine s_q rfl rfl (q_call rfl rfl rfl rfl (pf_nudge0 _ (by omega))) ?_
    refine s_q rfl rfl (q_call rfl rfl rfl rfl (pf_floorU ux (by omega))) ?_
    refine s_q rfl rfl (q_mv (.inr rfl) (is_sc rfl)) ?_
    refine s_nil (n_n (w_seq (w_seq (w_reg (s_q rfl rfl (q_mv (.inl rfl) (is_sc rfl)) ?_)))))
    refine s_q rfl rfl (q_as (u64_eq (show IntKind.u64.wrap (((ux / 4 : Nat) : Int).tdiv 10) = ((X / 10 : Nat) : Int) by rw [Int.tdiv_eq_ediv_of_nonneg (by omega)]; exact (congrArg _ (by omega)).trans (w64_id (by omega)))) (q_quo rfl rfl rfl (by decide))) ?_
    refine s_q rfl rfl (q_mv (.inr rfl) (is_sc rfl)) ?_
    refine s_nil (n_n (w_seq (w_reg (s_q rfl rfl (q_mv (.inl rfl) (is_sc rfl)) ?_))))
    refine s_q rfl rfl (q_as (u64_eq (show IntKind.u64.wrap (((X / 10 : Nat) : Int) * 10) = (X : Int) by exact (congrArg _ (by omega)).trans (w64_id (by omega)))) (q_mul rfl rfl rfl)) ?_
    refine s_q rfl rfl (q_mv (.inl rfl) (is_sc rfl)) ?_
    refine s_q rfl rfl (q_as (bl_yes (show (((un + 3) / 4 : Nat) : Int) ≤ (X : Int) by omega)) (q_geq rfl rfl rfl)) ?_
    refine s_nil (n_n (w_ifT rfl (w_seq (w_reg (s_q rfl rfl (q_mv (.inl rfl) (is_sc rfl)) ?_)))))
    refine s_q rfl rfl (q_mv (.inl rfl) (is_sc rfl)) ?_
    refine s_q rfl rfl (q_as (i64_eq (wrap_id (by omega) (by omega) : _ = (p : Int) - 1)) (q_sub rfl rfl rfl)) ?_
    refine s_q rfl rfl (q_as (i64_eq ((wrap_id (by omega) (by omega)).trans (by omega) : _ = -((p : Int) - 1))) (q_neg rfl rfl)) ?_
    refine s_q rfl rfl (q_mv (.inr rfl) (is_sc rfl)) ?_
    refine s_q rfl rfl (q_mv (.inr rfl) (is_sc rfl)) ?_
    refine s_nil (n_n (w_ret (n_r ?_)))
    -- end 0
    refine r_r (ra_tmp (is_sc rfl) (ra_tmp (is_sc rfl) ra_nil)) (by exact (rfl : _ = D.tup [_, _])) (by exact rfl) sub_no ?_
    rfl
  · have hpe : p = pOf L := by rw [hpl, if_neg (by have := of_decide_eq_false h24; omega)]
    obtain ⟨un, hun⟩ : ∃ u, usc (m - 1024) H sh = u := ⟨_, rfl⟩
    have hmn : un ≤ 4 * X - 1 := by rw [← hun]; exact hmn1
    have hmd : m - 1024 < 2 ^ 64 := by omega
    refine s_off rfl rfl ?_
    refine s_off rfl rfl ?_
    refine s_off rfl rfl ?_
    refine s_q rfl rfl (q_pickF rfl rfl (is_sc rfl)) ?_
    refine s_nil (n_n (w_ifF rfl (w_seq (w_reg (s_q rfl rfl (q_mv (.inl rfl) (is_sc rfl)) ?_)))))
    refine s_q rfl rfl (q_mv (.inl rfl) (is_sc rfl)) ?_
    refine s_q rfl rfl (q_as (bl_yes (show (-1085 : Int) ≤ (L : Int) - 67 by omega)) (q_geq rfl rfl rfl)) ?_
    refine s_nil (n_n (w_ifT rfl (w_seq (w_reg (s_q rfl rfl (q_mv (.inl rfl) (is_sc rfl)) ?_)))))
    refine s_q rfl rfl (q_mv (.inl rfl) (is_sc rfl)) ?_
    refine s_q rfl rfl (q_as (i64_eq ((wrap_id (by omega) (by omega)).trans (by omega) : _ = (L : Int) - 56)) (q_add rfl rfl rfl)) ?_
    refine s_q rfl rfl (q_call rfl rfl rfl rfl (pf_log10 _ (by omega))) ?_
    refine s_q rfl rfl (q_as (i64_eq (show _ = (p : Int) by rw [hpe, ← pOf_eq hL]; exact (wrap_id (by omega) (by omega)).trans (by omega))) (q_neg rfl rfl)) ?_
    refine s_q rfl rfl (q_mv (.inr rfl) (is_sc rfl)) ?_
    refine s_nil (n_n (w_seq (w_reg (s_q rfl rfl (q_mv (.inl rfl) (is_sc rfl)) ?_))))
    refine s_q rfl rfl (q_mv (.inl rfl) (is_sc rfl)) ?_
    refine s_q rfl rfl (q_sub rfl rfl rfl) ?_
    refine s_q rfl rfl (q_as (u64_eq (by decide : _ = (1024 : Int))) (q_shl rfl rfl rfl (by decide))) ?_
    refine s_q rfl rfl (q_as (u64_eq (show _ = ((m - 1024 : Nat) : Int) by exact (congrArg _ (by omega)).trans (w64_id (by omega)))) (q_sub rfl rfl rfl)) ?_
    refine s_q rfl rfl (q_mv (.inr rfl) (is_sc rfl)) ?_
    refine s_nil (n_n (w_seq (w_reg (s_q rfl rfl (q_mv (.inl rfl) (is_sc rfl)) ?_))))
    refine s_q rfl rfl (q_mv (.inl rfl) (is_sc rfl)) ?_
    refine s_q rfl rfl (q_sub rfl rfl rfl) ?_
    refine s_q rfl rfl (q_as (u64_eq (by decide : _ = (1024 : Int))) (q_shl rfl rfl rfl (by decide))) ?_
    refine s_q rfl rfl (q_as (u64_eq (show _ = ((m + 1024 : Nat) : Int) by exact (congrArg _ (by omega)).trans (w64_id (by omega)))) (q_add rfl rfl rfl)) ?_
    refine s_q rfl rfl (q_mv (.inr rfl) (is_sc rfl)) ?_
    refine s_nil (n_n (w_reg (s_q rfl rfl (q_mv (.inl rfl) (is_sc rfl)) ?_)))
    refine s_q rfl rfl (q_mv (.inl rfl) (is_sc rfl)) ?_
    refine s_q rfl rfl (q_as (u64_eq (shr_nat m 11 64 (by omega))) (q_shr rfl rfl rfl (by decide))) ?_
    refine s_q rfl rfl (q_as (i64_eq (wrap_id (by omega) (by omega) : _ = ((m / 2 ^ 11 : Nat) : Int))) (q_cii rfl rfl)) ?_
    refine s_q rfl rfl (q_as (i64_eq ho) (q_and rfl rfl rfl)) ?_
    refine s_q rfl rfl (q_mv (.inr rfl) (is_sc rfl)) ?_
    refine s_nil (n_n (w_seq (w_reg (s_o rfl rfl (ao_allocH rfl fun k12 hk12 => ?_)))))
    have hk12' : noHeap k12 = none := rfl
    have hlen : Heap.len (Heap.add noHeap k12 [.sc (.int .u64 0), .sc (.int .u64 0), .sc (.int .i64 0)]) k12 = some 3 := by simp [Heap.len, Heap.add]
    refine s_nil (n_n (w_seq (w_reg (s_q rfl rfl (q_mv (.inl rfl) (is_sc rfl)) ?_))))
    refine s_q rfl rfl (q_mv (.inl rfl) (is_sc rfl)) ?_
    refine s_q rfl rfl (q_mv (.inl rfl) (is_sc rfl)) ?_
    refine s_q rfl rfl (q_call rfl rfl rfl rfl hlg) ?_
    refine s_o rfl rfl (ao_callH rfl rfl rfl rfl (pf_prescale _ k12 p _ lp hlen T hp1 hp2 (by omega) (by omega)) fun v101 Hv101 hv101 => ?_)
    replace hv101 : Hv101 = Heap.put (Heap.put (Heap.put (Heap.add noHeap k12 [.sc (.int .u64 0), .sc (.int .u64 0), .sc (.int .i64 0)]) k12 0 (w64 (hiOf p))) k12 1 (w64 0)) k12 2 (i64 (-((L : Int) - 67 + lp + 3))) := hv101
    have hg := scal_get (p := p) (e := (L : Int) - 67) (lp := lp) hlen
    rw [← hv101, hHe] at hg
    have hg2 : -((L : Int) - 67 + lp + 3) = (sh : Int) := by omega
    rw [hg2] at hg
    obtain ⟨g0, g1, g2⟩ := hg
    clear hv101
    refine s_nil (n_n (w_seq (w_reg (s_q rfl rfl (q_mv (.inl rfl) (is_sc rfl)) ?_))))
    refine s_o rfl rfl (ao_callH rfl rfl rfl rfl (pf_uscale _ k12 _ H sh hmd hHl.2 hs64 (by exact g0) (by exact g1) (by exact g2)) fun v103 Hv103 hv103 => ?_)
    obtain ⟨rfl, rfl⟩ := hv103
    rw [hun]
    refine s_q rfl rfl (q_mv (.inl rfl) (is_sc rfl)) ?_
    refine s_q rfl rfl (q_call rfl rfl rfl rfl (pf_nudge0 _ (by omega))) ?_
    refine s_q rfl rfl (q_call rfl rfl rfl rfl (pf_ceil un (by omega))) ?_
    refine s_q rfl rfl (q_mv (.inr rfl) (is_sc rfl)) ?_
    refine s_nil (n_n (w_seq (w_reg (s_q rfl rfl (q_mv (.inl rfl) (is_sc rfl)) ?_))))
    refine s_o rfl rfl (ao_callH rfl rfl rfl rfl (pf_uscale _ k12 _ H sh hc1 hHl.2 hs64 (by exact g0) (by exact g1) (by exact g2)) fun v108 Hv108 hv108 => ?_)
    obtain ⟨rfl, rfl⟩ := hv108
    rw [hux]
    refine s_q rfl rfl (q_mv (.inl rfl) (is_sc rfl)) ?_
    refine s_q rfl rfl (q_as (i64_eq (by decide : _ = (0 : Int))) (q_neg rfl rfl)) ?_
    refine s_q rfl rfl (q_call rfl rfl rfl rfl (pf_nudge0 _ (by omega))) ?_
    refine s_q rfl rfl (q_call rfl rfl rfl rfl (pf_floorU ux (by omega))) ?_
    refine s_q rfl rfl (q_mv (.inr rfl) (is_sc rfl)) ?_
    refine s_nil (n_n (w_seq (w_seq (w_reg (s_q rfl rfl (q_mv (.inl rfl) (is_sc rfl)) ?_)))))
    refine s_q rfl rfl (q_as (u64_eq (show IntKind.u64.wrap (((ux / 4 : Nat) : Int).tdiv 10) = ((X / 10 : Nat) : Int) by rw [Int.tdiv_eq_ediv_of_nonneg (by omega)]; exact (congrArg _ (by omega)).trans (w64_id (by omega)))) (q_quo rfl rfl rfl (by decide))) ?_
    refine s_q rfl rfl (q_mv (.inr rfl) (is_sc rfl)) ?_
    refine s_nil (n_n (w_seq (w_reg (s_q rfl rfl (q_mv (.inl rfl) (is_sc rfl)) ?_))))
    refine s_q rfl rfl (q_as (u64_eq (show IntKind.u64.wrap (((X / 10 : Nat) : Int) * 10) = (X : Int) by exact (congrArg _ (by omega)).trans (w64_id (by omega)))) (q_mul rfl rfl rfl)) ?_
    refine s_q rfl rfl (q_mv (.inl rfl) (is_sc rfl)) ?_
    refine s_q rfl rfl (q_as (bl_yes (show (((un + 3) / 4 : Nat) : Int) ≤ (X : Int) by omega)) (q_geq rfl rfl rfl)) ?_
    refine s_nil (n_n (w_ifT rfl (w_seq (w_reg (s_q rfl rfl (q_mv (.inl rfl) (is_sc rfl)) ?_)))))
    refine s_q rfl rfl (q_mv (.inl rfl) (is_sc rfl)) ?_
    refine s_q rfl rfl (q_as (i64_eq (wrap_id (by omega) (by omega) : _ = (p : Int) - 1)) (q_sub rfl rfl rfl)) ?_
    refine s_q rfl rfl (q_as (i64_eq ((wrap_id (by omega) (by omega)).trans (by omega) : _ = -((p : Int) - 1))) (q_neg rfl rfl)) ?_
    refine s_q rfl rfl (q_mv (.inr rfl) (is_sc rfl)) ?_
    refine s_q rfl rfl (q_mv (.inr rfl) (is_sc rfl)) ?_
    refine s_nil (n_n (w_ret (n_r ?_)))
    -- end 1
    refine r_r (ra_tmp (is_sc rfl) (ra_tmp (is_sc rfl) ra_nil)) (by exact (rfl : _ = D.tup [_, _])) (by exact rfl) sub_no ?_
    rfl

end Go.Proofs.YtopgbalmdocboaaGreatDoor.Zz
