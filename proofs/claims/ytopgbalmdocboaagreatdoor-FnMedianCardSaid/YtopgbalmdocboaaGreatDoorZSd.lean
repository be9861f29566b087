/- Walks of the functions, printed by program, and the logic behind them: each theorem says what one function or one step answers. -/
import Derived.Test.YtopgbalmdocboaaGreatDoorZSa
import Derived.Test.YtopgbalmdocboaaGreatDoorZSrt
import Derived.Shelf.Abstract
import Derived.Shelf.Small.Bits
import Derived.Test.YtopgbalmdocboaaGreatDoorZSb
import Derived.Test.YtopgbalmdocboaaGreatDoorZSc
namespace Go.Proofs.YtopgbalmdocboaaGreatDoor.Zz
open Go.Abs
set_option maxRecDepth 100000
set_option linter.unusedVariables false
set_option linter.unusedSimpArgs false
set_option maxHeartbeats 4000000
variable {G : Nat → D}
open Go.Sort

def Tryz.lays129s_ren : Go.Shelf.Ren := ⟨fun | 129 => 278 | n => n, fun | 53 => 235 | 3 => 3 | 4 => 4 | 46 => 62 | 5 => 5 | 9 => 9 | n => n, fun | n => n⟩
theorem Tryz.lays129s : Go.Proofs.Lays.n129 Tryz.prog Tryz.lays129s_ren where
  mixed := by kernel_rfl
  f129 := Tryz.func278.trans (congrArg some (by kernel_rfl))
  t3 := Tryz.underlying3
  a3 := Tryz.isAgg3
  z3 := Tryz.sizeOf3
  v3 := Tryz.zeroValue3
  t4 := Tryz.underlying4
  a4 := Tryz.isAgg4
  z4 := Tryz.sizeOf4
  v4 := Tryz.zeroValue4
  t5 := Tryz.underlying5
  a5 := Tryz.isAgg5
  z5 := Tryz.sizeOf5
  v5 := Tryz.zeroValue5
  t9 := Tryz.underlying9
  a9 := Tryz.isAgg9
  z9 := Tryz.sizeOf9
  v9 := Tryz.zeroValue9
  t46 := Tryz.underlying62
  a46 := Tryz.isAgg62
  z46 := Tryz.sizeOf62
  v46 := Tryz.zeroValue62
  t53 := Tryz.underlying235
  a53 := Tryz.isAgg235
  z53 := Tryz.sizeOf235
  v53 := Tryz.zeroValue235
theorem pf_Len64s (x : Nat) (h : x < 2 ^ 64) : PF Tryz.prog G 278 [w64 x] (i64 (Lib.bitLen x : Nat)) :=
  pf_shelf fun g Prot w cargs hr ha => by
    simp only [repL] at ha
    obtain ⟨v, r, rfl, h1, rfl⟩ := ha
    simp only [rep] at h1
    subst h1
    refine (Any.bits_Len64 Tryz.lays129s (x : Int) w (by omega) (by omega)).mono fun e w' ⟨h2, h3⟩ => ⟨_, h2, by rw [h3]; exact Go.RowKit.Below.refl _ _, ?_⟩
    simp only [rep, Int.toNat_natCast]


-- math/bits.Len
theorem pf_so_Len (x : Nat) (h : x < 2 ^ 64) : PF Tryz.prog G 248 [w64 x] (i64 (Lib.bitLen x : Nat)) := by
  refine PC.intro rfl Tryz.func248 rfl (Nat.le_of_ble_eq_true rfl) rfl ?_
  refine w_seq (w_reg (s_q rfl rfl (q_mv (.inr rfl) (is_sc rfl)) ?_))
  refine s_nil (n_n (w_seq (w_ifF rfl (w_skip (n_n (w_seq (w_reg (s_q rfl rfl (q_mv (.inl rfl) (is_sc rfl)) ?_))))))))
  refine s_q rfl rfl (q_call rfl rfl rfl rfl (pf_Len64s _ (by omega))) ?_
  refine s_q rfl rfl (q_mv (.inr rfl) (is_sc rfl)) ?_
  refine s_nil (n_n (w_ret ?_))
  -- end 0
  refine r_r (ra_tmp (is_sc rfl) ra_nil) (by exact (is_sc rfl)) (by exact rfl) sub_no ?_
  rfl


-- slices.nextPowerOfTwo
theorem pf_nextPow (x : Nat) (h0 : 0 < x) (h : x ≤ 1000000) : PF Tryz.prog G 303 [i64 x] (w64 (2 ^ Lib.bitLen x : Nat)) := by
  have hb := bitLen_two h0 (by omega)
  have hb2 := Lib.bitLen_le x 64 (Nat.le_refl _) (by omega)
  refine PC.intro rfl Tryz.func303 rfl (Nat.le_of_ble_eq_true rfl) rfl ?_
  refine w_seq (w_reg (s_q rfl rfl (q_mv (.inr rfl) (is_sc rfl)) ?_))
  refine s_nil (n_n (w_seq (w_reg (s_q rfl rfl (q_mv (.inl rfl) (is_sc rfl)) ?_))))
  refine s_q rfl rfl (q_as (u64_eq (show IntKind.u64.wrap ((x : Nat) : Int) = ((x : Nat) : Int) from w64_id (by omega))) (q_cii rfl rfl)) ?_
  refine s_q rfl rfl (q_call rfl rfl rfl rfl (pf_so_Len _ (by omega))) ?_
  refine s_q rfl rfl (q_as (u64_eq ((shl_nat 1 (Lib.bitLen x) hb2 (by omega)).trans (by rw [Nat.one_mul]))) (q_shl rfl rfl rfl (Int.natCast_nonneg _))) ?_
  refine s_q rfl rfl (q_mv (.inr rfl) (is_sc rfl)) ?_
  refine s_nil (n_n (w_ret ?_))
  -- end 0
  refine r_r (ra_tmp (is_sc rfl) ra_nil) (by exact (is_sc rfl)) (by exact rfl) sub_no ?_
  rfl


-- (*slices.xorshift).Next
theorem pf_so_Next (h : Heap) (c : Nat) (r : Int) (hc : h c = some [(.sc (.int .u64 r))]) : ACall Tryz.prog G 304 true [.hp c 0] h (fun v h' => ∃ x : Int, v = (.sc (.int .u64 x)) ∧ h' = setH h c [(.sc (.int .u64 x))]) := by
  obtain ⟨x1, hx1⟩ : ∃ x1, IntKind.u64.wrap ((BitVec.ofInt IntKind.u64.bits r ^^^ BitVec.ofInt IntKind.u64.bits (IntKind.u64.wrap (r * 2 ^ min ((13 : Int).toNat) IntKind.u64.bits))).toNat : Int) = x1 := ⟨_, rfl⟩
  obtain ⟨x2, hx2⟩ : ∃ x2, IntKind.u64.wrap ((BitVec.ofInt IntKind.u64.bits x1 ^^^ BitVec.ofInt IntKind.u64.bits ((x1).fdiv (2 ^ min ((7 : Int).toNat) IntKind.u64.bits))).toNat : Int) = x2 := ⟨_, rfl⟩
  obtain ⟨x3, hx3⟩ : ∃ x3, IntKind.u64.wrap ((BitVec.ofInt IntKind.u64.bits x2 ^^^ BitVec.ofInt IntKind.u64.bits (IntKind.u64.wrap (x2 * 2 ^ min ((17 : Int).toNat) IntKind.u64.bits))).toNat : Int) = x3 := ⟨_, rfl⟩
  refine ACall.intro rfl Tryz.func304 rfl (Nat.le_of_ble_eq_true rfl) rfl ?_
  refine w_seq (w_reg (s_q rfl rfl (q_mv (.inr rfl) (is_sc rfl)) ?_))
  refine s_nil (n_n (w_seq (w_draw [0, 1, 3, 0, 8, 24, 56, 127, 255, 511] [0, 0, 1, 0, 0, 1, 0, 0, 0, 3] rfl ?_)))
  refine d_q0 rfl rfl (q_mv (.inl rfl) (by first | exact is_box rfl | exact is_hp rfl | exact is_pin rfl | exact is_sc rfl | exact rfl)) ?_
  refine d_q0 rfl rfl (q_nil rfl rfl rfl) ?_
  refine d_q1 rfl rfl (q_loadH (d := .sc (.int .u64 _)) rfl rfl (show Heap.get h c 0 = some (.sc (.int .u64 r)) by simp [Heap.get, hc])) ?_
  refine d_q0 rfl rfl (q_mv (.inl rfl) (by first | exact is_box rfl | exact is_hp rfl | exact is_pin rfl | exact is_sc rfl | exact rfl)) ?_
  refine d_q0 rfl rfl (q_nil rfl rfl rfl) ?_
  refine d_q1 rfl rfl (q_loadH (d := .sc (.int .u64 _)) rfl rfl (show Heap.get h c 0 = some (.sc (.int .u64 r)) by simp [Heap.get, hc])) ?_
  refine d_q0 rfl rfl (q_shl rfl rfl rfl (by decide)) ?_
  refine d_q0 rfl rfl (q_as (u64_eq hx1) (q_xor rfl rfl rfl)) ?_
  refine d_q0 rfl rfl (q_nil rfl rfl rfl) ?_
  refine d_u3 rfl rfl (as_storeP (k := c) (off := 0) (n := 1) (d := .sc (.int .u64 x1)) rfl rfl rfl (show Heap.len h c = some 1 by simp [Heap.len, hc]) (by omega) rfl rfl rfl) ?_
  rw [show ({ AH.start h with h := Heap.put (AH.start h).h c 0 (.sc (.int .u64 x1)) } : AH) = AH.start (setH h c [.sc (.int .u64 x1)]) from congrArg AH.start (by rw [show (AH.start h).h = h from rfl, put_one (show h c = some [_] from hc)])]
  refine d_nil (n_n (w_seq (w_draw [0, 1, 3, 0, 8, 24, 56, 127, 255, 511] [0, 0, 1, 0, 0, 1, 0, 0, 0, 3] rfl ?_)))
  refine d_q0 rfl rfl (q_mv (.inl rfl) (by first | exact is_box rfl | exact is_hp rfl | exact is_pin rfl | exact is_sc rfl | exact rfl)) ?_
  refine d_q0 rfl rfl (q_nil rfl rfl rfl) ?_
  refine d_q1 rfl rfl (q_loadH (d := .sc (.int .u64 _)) rfl rfl (by exact (show Heap.get (setH h c [.sc (.int .u64 x1)]) c 0 = some (.sc (.int .u64 x1)) by simp [Heap.get, setH_at]))) ?_
  refine d_q0 rfl rfl (q_mv (.inl rfl) (by first | exact is_box rfl | exact is_hp rfl | exact is_pin rfl | exact is_sc rfl | exact rfl)) ?_
  refine d_q0 rfl rfl (q_nil rfl rfl rfl) ?_
  refine d_q1 rfl rfl (q_loadH (d := .sc (.int .u64 _)) rfl rfl (by exact (show Heap.get (setH h c [.sc (.int .u64 x1)]) c 0 = some (.sc (.int .u64 x1)) by simp [Heap.get, setH_at]))) ?_
  refine d_q0 rfl rfl (q_shr rfl rfl rfl (by decide)) ?_
  refine d_q0 rfl rfl (q_as (u64_eq hx2) (q_xor rfl rfl rfl)) ?_
  refine d_q0 rfl rfl (q_nil rfl rfl rfl) ?_
  refine d_u3 rfl rfl (as_storeP (k := c) (off := 0) (n := 1) (d := .sc (.int .u64 x2)) rfl rfl rfl (show Heap.len (setH h c [.sc (.int .u64 x1)]) c = some 1 by simp [Heap.len, setH_at]) (by omega) rfl rfl rfl) ?_
  rw [show ({ AH.start (setH h c [.sc (.int .u64 x1)]) with h := Heap.put (AH.start (setH h c [.sc (.int .u64 x1)])).h c 0 (.sc (.int .u64 x2)) } : AH) = AH.start (setH h c [.sc (.int .u64 x2)]) from congrArg AH.start (by rw [show (AH.start (setH h c [.sc (.int .u64 x1)])).h = (setH h c [.sc (.int .u64 x1)]) from rfl, put_one (show (setH h c [.sc (.int .u64 x1)]) c = some [_] from setH_at _ _ _)]; rw [setH_setH])]
  refine d_nil (n_n (w_seq (w_draw [0, 1, 3, 0, 8, 24, 56, 127, 255, 511] [0, 0, 1, 0, 0, 1, 0, 0, 0, 3] rfl ?_)))
  refine d_q0 rfl rfl (q_mv (.inl rfl) (by first | exact is_box rfl | exact is_hp rfl | exact is_pin rfl | exact is_sc rfl | exact rfl)) ?_
  refine d_q0 rfl rfl (q_nil rfl rfl rfl) ?_
  refine d_q1 rfl rfl (q_loadH (d := .sc (.int .u64 _)) rfl rfl (by exact (show Heap.get (setH h c [.sc (.int .u64 x2)]) c 0 = some (.sc (.int .u64 x2)) by simp [Heap.get, setH_at]))) ?_
  refine d_q0 rfl rfl (q_mv (.inl rfl) (by first | exact is_box rfl | exact is_hp rfl | exact is_pin rfl | exact is_sc rfl | exact rfl)) ?_
  refine d_q0 rfl rfl (q_nil rfl rfl rfl) ?_
  refine d_q1 rfl rfl (q_loadH (d := .sc (.int .u64 _)) rfl rfl (by exact (show Heap.get (setH h c [.sc (.int .u64 x2)]) c 0 = some (.sc (.int .u64 x2)) by simp [Heap.get, setH_at]))) ?_
  refine d_q0 rfl rfl (q_shl rfl rfl rfl (by decide)) ?_
  refine d_q0 rfl rfl (q_as (u64_eq hx3) (q_xor rfl rfl rfl)) ?_
  refine d_q0 rfl rfl (q_nil rfl rfl rfl) ?_
  refine d_u3 rfl rfl (as_storeP (k := c) (off := 0) (n := 1) (d := .sc (.int .u64 x3)) rfl rfl rfl (show Heap.len (setH h c [.sc (.int .u64 x2)]) c = some 1 by simp [Heap.len, setH_at]) (by omega) rfl rfl rfl) ?_
  rw [show ({ AH.start (setH h c [.sc (.int .u64 x2)]) with h := Heap.put (AH.start (setH h c [.sc (.int .u64 x2)])).h c 0 (.sc (.int .u64 x3)) } : AH) = AH.start (setH h c [.sc (.int .u64 x3)]) from congrArg AH.start (by rw [show (AH.start (setH h c [.sc (.int .u64 x2)])).h = (setH h c [.sc (.int .u64 x2)]) from rfl, put_one (show (setH h c [.sc (.int .u64 x2)]) c = some [_] from setH_at _ _ _)]; rw [setH_setH])]
  refine d_nil (n_n (w_seq (w_reg (s_q rfl rfl (q_mv (.inl rfl) (by first | exact is_box rfl | exact is_hp rfl | exact is_pin rfl | exact is_sc rfl | exact rfl)) ?_))))
  refine s_q rfl rfl (q_nil rfl rfl rfl) ?_
  refine s_q rfl rfl (q_loadH (d := .sc (.int .u64 _)) rfl rfl (by exact (show Heap.get (setH h c [.sc (.int .u64 x3)]) c 0 = some (.sc (.int .u64 x3)) by simp [Heap.get, setH_at]))) ?_
  refine s_q rfl rfl (q_mv (.inr rfl) (is_sc rfl)) ?_
  refine s_nil (n_n (w_ret ?_))
  -- end 0
  refine r_r (ra_tmp (is_sc rfl) ra_nil) (by exact (is_sc rfl)) (by exact rfl) (Sub.refl _) ?_
  exact ⟨x3, rfl, rfl⟩


-- slices.breakPatternsOrdered[float64]
theorem pf_break (h : Heap) (id cap n : Nat) (d : Array FF) (sp : List D) (hn : d.size = n) (hn9 : n ≤ 1000000) (a b : Nat) (hab : 12 < b - a) (hb : b ≤ n) : ACall Tryz.prog G 270 true [.hs id 0 n cap, i64 a, i64 b] (setH h id (fls d ++ sp)) (fun v h' => ∃ (h2 : Heap) (d2 : Array FF), h' = setH h2 id (fls d2 ++ sp) ∧ PermIn a b d d2 ∧ Keep h h2 []) := by
  have hb2 := bitLen_two (x := b - a) (by omega) (by omega)
  have hb0 := Nat.two_pow_pos (Lib.bitLen (b - a))
  refine ACall.intro rfl Tryz.func270 rfl (Nat.le_of_ble_eq_true rfl) rfl ?_
  refine w_seq (w_reg (s_q rfl rfl (q_mv (.inl rfl) (is_sc rfl)) ?_))
  refine s_q rfl rfl (q_mv (.inl rfl) (is_sc rfl)) ?_
  refine s_q rfl rfl (q_as (i64_eq ((wrap_id (by omega) (by omega)).trans (by omega) : _ = ((b - a : Nat) : Int))) (q_sub rfl rfl rfl)) ?_
  refine s_q rfl rfl (q_mv (.inr rfl) (is_sc rfl)) ?_
  refine s_nil (n_n (w_seq (w_reg (s_q rfl rfl (q_mv (.inl rfl) (is_sc rfl)) ?_))))
  refine s_q rfl rfl (q_as (bl_yes (show (8 : Int) ≤ ((b - a : Nat) : Int) by omega)) (q_geq rfl rfl rfl)) ?_
  refine s_nil (n_n (w_ifT rfl (w_seq (w_reg (s_q rfl rfl (q_mv (.inl rfl) (is_sc rfl)) ?_)))))
  refine s_q rfl rfl (q_as (u64_eq (show IntKind.u64.wrap ((b - a : Nat) : Int) = ((b - a : Nat) : Int) from w64_id (by omega))) (q_cii rfl rfl)) ?_
  refine s_o rfl rfl (ao_allocH rfl fun k7 hk7 => ?_)
  obtain ⟨hne7, hk7n⟩ := fresh_off hk7
  refine s_u rfl rfl (as_storeP (k := k7) (off := 0) (n := 1) rfl rfl rfl (by simp [Heap.len, AH.hset]) (by omega) rfl rfl rfl) ?_
  rw [show ∀ v, ({ AH.hset (AH.start (setH h id (fls d ++ sp))) k7 (List.map D.sc [Value.int .u64 0]) with h := Heap.put (AH.hset (AH.start (setH h id (fls d ++ sp))) k7 (List.map D.sc [Value.int .u64 0])).h k7 0 v } : AH) = AH.start (setH (setH h k7 [v]) id (fls d ++ sp)) from fun v => congrArg AH.start (put_new hne7)]
  refine s_nil (n_n (w_seq (w_reg (s_q rfl rfl (q_mv (.inl rfl) (is_sc rfl)) ?_))))
  refine s_q rfl rfl (q_call rfl rfl rfl rfl (pf_nextPow _ (by omega) (by omega))) ?_
  refine s_q rfl rfl (q_mv (.inr rfl) (is_sc rfl)) ?_
  refine s_nil (n_n (w_seq (w_reg (s_q rfl rfl (q_mv (.inl rfl) (is_sc rfl)) ?_))))
  refine s_q rfl rfl (q_mv (.inl rfl) (is_sc rfl)) ?_
  refine s_q rfl rfl (q_as (i64_eq (show IntKind.i64.wrap (((b - a : Nat) : Int).tdiv 4) = (((b - a) / 4 : Nat) : Int) by rw [Int.tdiv_eq_ediv_of_nonneg (by omega)]; exact (wrap_id (by omega) (by omega)).trans (by omega))) (q_quo rfl rfl rfl (by decide))) ?_
  refine s_q rfl rfl (q_as (i64_eq ((wrap_id (by omega) (by omega)).trans (by omega) : _ = (((b - a) / 4 * 2 : Nat) : Int))) (q_mul rfl rfl rfl)) ?_
  refine s_q rfl rfl (q_as (i64_eq ((wrap_id (by omega) (by omega)).trans (by omega) : _ = ((a + (b - a) / 4 * 2 : Nat) : Int))) (q_add rfl rfl rfl)) ?_
  refine s_q rfl rfl (q_as (i64_eq ((wrap_id (by omega) (by omega)).trans (by omega) : _ = ((a + (b - a) / 4 * 2 - 1 : Nat) : Int))) (q_sub rfl rfl rfl)) ?_
  refine s_q rfl rfl (q_mv (.inr rfl) (is_sc rfl)) ?_
  refine s_nil (n_n (w_block ?_))
  obtain ⟨m, hm⟩ : ∃ m, 2 ^ Lib.bitLen (b - a) = m := ⟨_, rfl⟩
  rw [hm] at hb2
  rw [hm]
  refine w_loop (fun env A => ∃ (i : Nat) (h2 : Heap) (d2 : Array FF) (r : Int), a + (b - a) / 4 * 2 - 1 ≤ i ∧ i ≤ a + (b - a) / 4 * 2 + 2 ∧ d2.size = n ∧ PermIn a b d d2 ∧ h2 k7 = some [(.sc (.int .u64 r))] ∧ Keep h h2 [] ∧ Binds env [(0, .hs id 0 n cap), (1, i64 a), (6, i64 ((b - a : Nat) : Int)), (7, .hp k7 0), (8, w64 (m : Nat)), (9, i64 i)] ∧ A = AH.start (setH h2 id (fls d2 ++ sp))) (fun env _ => a + (b - a) / 4 * 2 + 2 - ctr (env 9)) ?_ ?_
  · exact ⟨_, _, d, _, Nat.le_refl _, by omega, hn, permIn_refl _ _ _, setH_at _ _ _, keep_new hk7n (Keep.refl _ _), ⟨rfl, rfl, rfl, rfl, rfl, rfl, trivial⟩, rfl⟩
  · rintro env A ⟨i, h2, d2, r, hi1, hi2, hd2, hp2, hr7, hK2, hB, rfl⟩
    rw [hB.eq]; clear hB
    refine w_seq (w_seq (w_reg (s_q rfl rfl (q_mv (.inl rfl) (is_sc rfl)) ?_)))
    refine s_q rfl rfl (q_mv (.inl rfl) (is_sc rfl)) ?_
    refine s_q rfl rfl (q_mv (.inl rfl) (is_sc rfl)) ?_
    refine s_q rfl rfl (q_as (i64_eq (show IntKind.i64.wrap (((b - a : Nat) : Int).tdiv 4) = (((b - a) / 4 : Nat) : Int) by rw [Int.tdiv_eq_ediv_of_nonneg (by omega)]; exact (wrap_id (by omega) (by omega)).trans (by omega))) (q_quo rfl rfl rfl (by decide))) ?_
    refine s_q rfl rfl (q_as (i64_eq ((wrap_id (by omega) (by omega)).trans (by omega) : _ = (((b - a) / 4 * 2 : Nat) : Int))) (q_mul rfl rfl rfl)) ?_
    refine s_q rfl rfl (q_as (i64_eq ((wrap_id (by omega) (by omega)).trans (by omega) : _ = ((a + (b - a) / 4 * 2 : Nat) : Int))) (q_add rfl rfl rfl)) ?_
    refine s_q rfl rfl (q_as (i64_eq ((wrap_id (by omega) (by omega)).trans (by omega) : _ = ((a + (b - a) / 4 * 2 + 1 : Nat) : Int))) (q_add rfl rfl rfl)) ?_
    refine s_q rfl rfl (q_leq rfl rfl rfl) ?_
    refine s_nil (n_n (w_if (is_scb rfl) (fun h33 => ?_) (fun h33 => ?_)))
    · have hi3 : i ≤ a + (b - a) / 4 * 2 + 1 := by have h' : (i : Int) ≤ ((a + (b - a) / 4 * 2 + 1 : Nat) : Int) := of_decide_eq_true h33; omega
      refine w_skip (n_n (w_seq (w_block (w_seq (w_reg (s_o rfl rfl (ao_callH rfl rfl rfl rfl (pf_so_Next (setH h2 id (fls d2 ++ sp)) k7 r (by rw [setH_off hne7]; exact hr7)) fun v36 Hv36 hv36 => ?_)))))))
      obtain ⟨r2, rfl, rfl⟩ := hv36
      rw [setH_comm hne7.symm]
      obtain ⟨z, hz1, hz⟩ := and_mask r2 (m := m - 1) (by omega)
      refine s_q rfl rfl (q_mv (.inl rfl) (is_sc rfl)) ?_
      refine s_q rfl rfl (q_as (u64_eq (show _ = ((m - 1 : Nat) : Int) by exact (congrArg IntKind.u64.wrap (by omega : _ = ((m - 1 : Nat) : Int))).trans (w64_id (by omega)))) (q_sub rfl rfl rfl)) ?_
      refine s_q rfl rfl (q_as (u64_eq hz) (q_and rfl rfl rfl)) ?_
      refine s_q rfl rfl (q_as (i64_eq ((wrap_id (by omega) (by omega)) : _ = ((z : Nat) : Int))) (q_cii rfl rfl)) ?_
      refine s_q rfl rfl (q_mv (.inr rfl) (is_sc rfl)) ?_
      refine s_nil (n_n (w_seq (w_joinQ (fun env A => ∃ o2 : Nat, o2 < b - a ∧ Binds env [(0, .hs id 0 n cap), (1, i64 a), (6, i64 ((b - a : Nat) : Int)), (7, .hp k7 0), (8, w64 (m : Nat)), (9, i64 i), (10, i64 o2)] ∧ A = AH.start (setH (setH h2 k7 [(.sc (.int .u64 r2))]) id (fls d2 ++ sp))) ?_ ?_)))
      · refine w_seq (w_reg (s_q rfl rfl (q_mv (.inl rfl) (is_sc rfl)) ?_))
        refine s_q rfl rfl (q_mv (.inl rfl) (is_sc rfl)) ?_
        refine s_q rfl rfl (q_geq rfl rfl rfl) ?_
        refine s_nil (n_n (w_if (is_scb rfl) (fun h43 => ?_) (fun h43 => ?_)))
        · have hz3 : b - a ≤ z := by have h' : ((b - a : Nat) : Int) ≤ (z : Int) := of_decide_eq_true h43; omega
          refine w_reg (s_q rfl rfl (q_mv (.inl rfl) (is_sc rfl)) ?_)
          refine s_q rfl rfl (q_mv (.inl rfl) (is_sc rfl)) ?_
          refine s_q rfl rfl (q_as (i64_eq ((wrap_id (by omega) (by omega)).trans (by omega) : _ = ((z - (b - a) : Nat) : Int))) (q_sub rfl rfl rfl)) ?_
          refine s_q rfl rfl (q_mv (.inr rfl) (is_sc rfl)) ?_
          refine s_nil (j_n ?_)
          exact ⟨z - (b - a), by omega, ⟨rfl, rfl, rfl, rfl, rfl, rfl, rfl, trivial⟩, rfl⟩
        · have hz3 : ¬ b - a ≤ z := by have h' : ¬ ((b - a : Nat) : Int) ≤ (z : Int) := of_decide_eq_false h43; omega
          refine w_skip (j_n ?_)
          exact ⟨z, by omega, ⟨rfl, rfl, rfl, rfl, rfl, rfl, rfl, trivial⟩, rfl⟩
      · rintro env A ⟨o2, ho2, hB, rfl⟩
        rw [hB.eq]; clear hB
        refine n_n (w_draw [0, 0, 0, 0, 0, 24, 0, 0, 0, 384, 960, 1984, 0, 0, 12288, 28672, 65475, 131011, 262143, 524287] [0, 0, 0, 0, 0, 0, 0, 0, 0, 0, 0, 1, 0, 0, 0, 1, 0, 3, 0, 3] rfl ?_)
        refine d_q0 rfl rfl (q_mv (.inl rfl) (by first | exact is_im rfl | exact is_gs rfl | exact is_lit rfl | exact is_ms rfl | exact is_sc rfl | exact rfl)) ?_
        refine d_q0 rfl rfl (q_mv (.inl rfl) (is_sc rfl)) ?_
        refine d_q0 rfl rfl (q_mv (.inl rfl) (by first | exact is_im rfl | exact is_gs rfl | exact is_lit rfl | exact is_ms rfl | exact is_sc rfl | exact rfl)) ?_
        refine d_q0 rfl rfl (q_mv (.inl rfl) (is_sc rfl)) ?_
        refine d_q0 rfl rfl (q_mv (.inl rfl) (is_sc rfl)) ?_
        refine d_q0 rfl rfl (q_as (i64_eq ((wrap_id (by omega) (by omega)).trans (by omega) : _ = ((a + o2 : Nat) : Int))) (q_add rfl rfl rfl)) ?_
        refine d_q0 rfl rfl (q_mv (.inl rfl) (by first | exact is_im rfl | exact is_gs rfl | exact is_lit rfl | exact is_ms rfl | exact is_sc rfl | exact rfl)) ?_
        refine d_q0 rfl rfl (q_mv (.inl rfl) (is_sc rfl)) ?_
        refine d_q0 rfl rfl (q_mv (.inl rfl) (is_sc rfl)) ?_
        refine d_q0 rfl rfl (q_as (i64_eq ((wrap_id (by omega) (by omega)).trans (by omega) : _ = ((a + o2 : Nat) : Int))) (q_add rfl rfl rfl)) ?_
        refine d_q0 rfl rfl (q_indexHs rfl rfl rfl (by omega) (by omega)) ?_
        refine d_q1 rfl rfl (q_loadF (i := a + o2) (d := d2) rfl rfl rfl (by omega) (by omega)) ?_
        refine d_q0 rfl rfl (q_mv (.inl rfl) (by first | exact is_im rfl | exact is_gs rfl | exact is_lit rfl | exact is_ms rfl | exact is_sc rfl | exact rfl)) ?_
        refine d_q0 rfl rfl (q_mv (.inl rfl) (is_sc rfl)) ?_
        refine d_q0 rfl rfl (q_indexHs rfl rfl rfl (by omega) (by omega)) ?_
        refine d_q1 rfl rfl (q_loadF (i := i) (d := d2) rfl rfl rfl (by omega) (by omega)) ?_
        refine d_q0 rfl rfl (q_indexHs rfl rfl rfl (by omega) (by omega)) ?_
        refine d_u3 rfl rfl (as_storeF (i := i) (d := d2) (d2[a + o2]!) rfl rfl rfl rfl (by omega) (by first | omega | (simp; omega))) ?_
        refine d_q0 rfl rfl (q_indexHs rfl rfl rfl (by omega) (by omega)) ?_
        refine d_u3 rfl rfl (as_storeF (i := a + o2) (d := (d2.setIfInBounds i d2[a + o2]!)) (d2[i]!) rfl rfl rfl rfl (by omega) (by first | omega | (simp; omega))) ?_
        refine d_nil (b_n (n_n (w_reg (s_q rfl rfl (q_mv (.inl rfl) (is_sc rfl)) ?_))))
        refine s_q rfl rfl (q_as (i64_eq ((wrap_id (by omega) (by omega)).trans (by omega) : _ = ((i + 1 : Nat) : Int))) (q_add rfl rfl rfl)) ?_
        refine s_q rfl rfl (q_mv (.inr rfl) (is_sc rfl)) ?_
        refine s_nil (n_n ?_)
        refine ⟨⟨i + 1, _, swp d2 i (a + o2), r2, by omega, by omega, by rw [size_swp]; exact hd2, permIn_trans _ _ _ _ _ hp2 (swp_permIn _ _ _ _ _ (by omega) (by omega) (by omega) (by omega) (by omega)), setH_at _ _ _, keep_new hk7n hK2, ⟨rfl, rfl, rfl, rfl, rfl, rfl, trivial⟩, rfl⟩, ?_⟩
        show a + (b - a) / 4 * 2 + 2 - (((i + 1 : Nat) : Int)).toNat < a + (b - a) / 4 * 2 + 2 - ((i : Nat) : Int).toNat
        omega
    · refine w_exit (n_e (n_e (b_hit ?_)))
      -- end 0
      refine r_n ra_nil (by exact (rfl : _ = D.tup [])) (by exact rfl) (Sub.refl _) ?_
      exact ⟨h2, d2, rfl, hp2, hK2⟩

end Go.Proofs.YtopgbalmdocboaaGreatDoor.Zz
namespace Go.Proofs.YtopgbalmdocboaaGreatDoor.Zz
open Go.Abs
set_option maxRecDepth 100000
set_option linter.unusedVariables false
set_option linter.unusedSimpArgs false
set_option maxHeartbeats 4000000
variable {G : Nat → D}
open Go.Sort

-- slices.pdqsortOrdered[float64]
theorem pf_pdqS (h : Heap) (id cap n : Nat) (d : Array FF) (sp : List D) (hn : d.size = n) (hn9 : n ≤ 1000000) (a b lim : Nat) (hab : a ≤ b) (hb : b ≤ n) (hl : lim ≤ 64) (hB : Below ltQ a b d) (hrec : ∀ (h' : Heap) (d' : Array FF) (a' b' lim' : Nat), d'.size = n → a' ≤ b' → b' ≤ n → lim' ≤ 64 → Below ltQ a' b' d' → b' - a' < b - a → ACall Tryz.prog G 247 true [.hs id 0 n cap, i64 a', i64 b', i64 lim'] (setH h' id (fls d' ++ sp)) (pdqPost h' id sp d' a' b')) : ACall Tryz.prog G 247 true [.hs id 0 n cap, i64 a, i64 b, i64 lim] (setH h id (fls d ++ sp)) (pdqPost h id sp d a b) := by
  refine ACall.intro rfl Tryz.func247 rfl (Nat.le_of_ble_eq_true rfl) rfl ?_
  refine w_seq (w_reg (s_q rfl rfl (q_mv (.inr rfl) (is_sc rfl)) ?_))
  refine s_nil (n_n (w_seq (w_reg (s_q rfl rfl (q_mv (.inr rfl) (is_sc rfl)) ?_))))
  refine s_nil (n_n (w_block ?_))
  refine w_loop (fun env A => ∃ (a2 b2 lim2 : Nat) (h2 : Heap) (d2 : Array FF) (wb wp : Bool), a2 ≤ b2 ∧ b2 ≤ n ∧ b2 - a2 ≤ b - a ∧ lim2 ≤ 64 ∧ d2.size = n ∧ Keep h h2 [] ∧ Below ltQ a2 b2 d2 ∧ (∀ R, PermIn a2 b2 d2 R → SortedIn ltQ a2 b2 R → PermIn a b d R ∧ SortedIn ltQ a b R) ∧ Binds env [(0, .hs id 0 n cap), (1, i64 a2), (2, i64 b2), (3, i64 (lim2 : Nat)), (8, bl wb), (9, bl wp)] ∧ A = AH.start (setH h2 id (fls d2 ++ sp))) (fun env _ => ctr (env 2) - ctr (env 1)) ?_ ?_
  · exact ⟨a, b, lim, h, d, true, true, hab, hb, Nat.le_refl _, hl, hn, Keep.refl _ _, hB, fun R h1 h2 => ⟨h1, h2⟩, ⟨rfl, rfl, rfl, rfl, rfl, rfl, trivial⟩, rfl⟩
  · rintro env A ⟨a2, b2, lim2, h2, d2, wb, wp, hab2, hb2, hle2, hl2, hd2, hK2, hB2, hfin, hB, rfl⟩
    rw [hB.eq]; clear hB
    refine w_block (w_seq (w_reg (s_q rfl rfl (q_mv (.inl rfl) (is_sc rfl)) ?_)))
    refine s_q rfl rfl (q_mv (.inl rfl) (is_sc rfl)) ?_
    refine s_q rfl rfl (q_as (i64_eq ((wrap_id (by omega) (by omega)).trans (by omega) : _ = ((b2 - a2 : Nat) : Int))) (q_sub rfl rfl rfl)) ?_
    refine s_q rfl rfl (q_mv (.inr rfl) (is_sc rfl)) ?_
    refine s_nil (n_n (w_seq (w_seq (w_reg (s_q rfl rfl (q_mv (.inl rfl) (is_sc rfl)) ?_)))))
    refine s_q rfl rfl (q_leq rfl rfl rfl) ?_
    refine s_nil (n_n (w_if (is_scb rfl) (fun h23 => ?_) (fun h23 => ?_)))
    · have hsrt := insertionSort_holds swo_ltQ d2 a2 b2 hab2 (by omega)
      refine w_seq (w_reg (s_q rfl rfl (q_mv (.inl rfl) (by first | exact is_im rfl | exact is_gs rfl | exact is_lit rfl | exact is_ms rfl | exact is_sc rfl | exact rfl)) ?_))
      refine s_q rfl rfl (q_mv (.inl rfl) (is_sc rfl)) ?_
      refine s_q rfl rfl (q_mv (.inl rfl) (is_sc rfl)) ?_
      refine s_o rfl rfl (ao_callH rfl rfl rfl rfl (pf_so_ins h2 id cap n d2 sp hd2 hn9 a2 b2 hab2 hb2) fun v27 Hv27 hv27 => ?_)
      subst hv27
      refine s_nil (n_n (w_ret (n_r (b_r (n_r (b_r ?_))))))
      -- end 0
      refine r_r ra_nil (by exact (rfl : _ = D.tup [])) (by exact rfl) (Sub.refl _) ?_
      obtain ⟨q1, q2⟩ := hfin _ hsrt.1 hsrt.2
      exact ⟨h2, _, rfl, q1, q2, hK2⟩
    · have h12 : 12 < b2 - a2 := by have h' : ¬ ((b2 - a2 : Nat) : Int) ≤ 12 := of_decide_eq_false h23; omega
      refine w_skip (n_n (w_seq (w_seq (w_reg (s_q rfl rfl (q_mv (.inl rfl) (is_sc rfl)) ?_)))))
      refine s_q rfl rfl (q_eql rfl rfl rfl) ?_
      refine s_nil (n_n (w_if (is_scb rfl) (fun h29 => ?_) (fun h29 => ?_)))
      · have hsrt := heapSort_holds swo_ltQ d2 a2 b2 hab2 (by omega)
        refine w_seq (w_reg (s_q rfl rfl (q_mv (.inl rfl) (by first | exact is_im rfl | exact is_gs rfl | exact is_lit rfl | exact is_ms rfl | exact is_sc rfl | exact rfl)) ?_))
        refine s_q rfl rfl (q_mv (.inl rfl) (is_sc rfl)) ?_
        refine s_q rfl rfl (q_mv (.inl rfl) (is_sc rfl)) ?_
        refine s_o rfl rfl (ao_callH rfl rfl rfl rfl (pf_so_heap h2 id cap n d2 sp hd2 hn9 a2 b2 (by omega) hb2) fun v33 Hv33 hv33 => ?_)
        subst hv33
        refine s_nil (n_n (w_ret (n_r (b_r (n_r (b_r ?_))))))
        -- end 1
        refine r_r ra_nil (by exact (rfl : _ = D.tup [])) (by exact rfl) (Sub.refl _) ?_
        obtain ⟨q1, q2⟩ := hfin _ hsrt.1 hsrt.2
        exact ⟨h2, _, rfl, q1, q2, hK2⟩
      · have hl0 : 0 < lim2 := by have h' : ¬ ((lim2 : Nat) : Int) = 0 := of_decide_eq_false h29; omega
        refine w_skip (n_n (w_seq (w_joinQ (fun env A => ∃ (h3 : Heap) (d3 : Array FF) (lim3 : Nat), lim3 ≤ 64 ∧ d3.size = n ∧ PermIn a2 b2 d2 d3 ∧ Keep h h3 [] ∧ Binds env [(0, .hs id 0 n cap), (1, i64 a2), (2, i64 b2), (3, i64 (lim3 : Nat)), (8, bl wb), (9, bl wp), (10, i64 ((b2 - a2 : Nat) : Int))] ∧ A = AH.start (setH h3 id (fls d3 ++ sp))) ?_ ?_)))
        · refine w_seq (w_reg (s_q rfl rfl (q_mv (.inl rfl) (is_sc rfl)) ?_))
          refine s_q rfl rfl (q_not rfl rfl) ?_
          refine s_nil (n_n (w_if (is_scb rfl) (fun h35 => ?_) (fun h35 => ?_)))
          · refine w_seq (w_reg (s_q rfl rfl (q_mv (.inl rfl) (by first | exact is_im rfl | exact is_gs rfl | exact is_lit rfl | exact is_ms rfl | exact is_sc rfl | exact rfl)) ?_))
            refine s_q rfl rfl (q_mv (.inl rfl) (is_sc rfl)) ?_
            refine s_q rfl rfl (q_mv (.inl rfl) (is_sc rfl)) ?_
            refine s_o rfl rfl (ao_callH rfl rfl rfl rfl (pf_break h2 id cap n d2 sp hd2 hn9 a2 b2 (by omega) hb2) fun v39 Hv39 hv39 => ?_)
            obtain ⟨h3, d3, rfl, hp3, hK3⟩ := hv39
            refine s_nil (n_n (w_reg (s_q rfl rfl (q_mv (.inl rfl) (is_sc rfl)) ?_)))
            refine s_q rfl rfl (q_as (i64_eq ((wrap_id (by omega) (by omega)).trans (by omega) : _ = ((lim2 - 1 : Nat) : Int))) (q_sub rfl rfl rfl)) ?_
            refine s_q rfl rfl (q_mv (.inr rfl) (is_sc rfl)) ?_
            refine s_nil (j_n ?_)
            exact ⟨h3, d3, lim2 - 1, by omega, hp3.1.trans hd2, hp3, hK2.trans hK3 (fun x hx => by cases hx), ⟨rfl, rfl, rfl, rfl, rfl, rfl, rfl, trivial⟩, rfl⟩
          · refine w_skip (j_n ?_)
            exact ⟨h2, d2, lim2, hl2, hd2, permIn_refl _ _ _, hK2, ⟨rfl, rfl, rfl, rfl, rfl, rfl, rfl, trivial⟩, rfl⟩
        · rintro env A ⟨h3, d3, lim3, hl3, hd3, hp3, hK3, hB, rfl⟩
          rw [hB.eq]; clear hB
          refine n_n (w_seq (w_reg (s_q rfl rfl (q_mv (.inl rfl) (by first | exact is_im rfl | exact is_gs rfl | exact is_lit rfl | exact is_ms rfl | exact is_sc rfl | exact rfl)) ?_)))
          refine s_q rfl rfl (q_mv (.inl rfl) (is_sc rfl)) ?_
          refine s_q rfl rfl (q_mv (.inl rfl) (is_sc rfl)) ?_
          refine s_o rfl rfl (ao_callH rfl rfl rfl rfl (pf_pivot h3 id cap n d3 sp hd3 hn9 a2 b2 (by omega) hb2) fun v46 Hv46 hv46 => ?_)
          obtain ⟨h4, p, x, rfl, hp, rfl, hK4⟩ := hv46
          replace hK4 := hK3.trans hK4 (fun x hx => by cases hx)
          refine s_q rfl rfl (q_mv (.inl rfl) (by first | exact (rfl : _ = D.tup [_, _]) | exact rfl)) ?_
          refine s_q rfl rfl (q_extract rfl rfl rfl) ?_
          refine s_q rfl rfl (q_extract rfl rfl rfl) ?_
          refine s_q rfl rfl (q_mv (.inr rfl) (is_sc rfl)) ?_
          refine s_q rfl rfl (q_mv (.inr rfl) (is_sc rfl)) ?_
          refine s_nil (n_n (w_seq (w_joinQ (fun env A => ∃ (p5 : Nat) (x5 : Int) (d5 : Array FF), (a2 ≤ p5 ∧ p5 < b2) ∧ d5.size = n ∧ PermIn a2 b2 d2 d5 ∧ Binds env [(0, .hs id 0 n cap), (1, i64 a2), (2, i64 b2), (3, i64 (lim3 : Nat)), (8, bl wb), (9, bl wp), (10, i64 ((b2 - a2 : Nat) : Int)), (11, i64 p5), (12, i64 x5)] ∧ A = AH.start (setH h4 id (fls d5 ++ sp))) ?_ ?_)))
          · refine w_seq (w_reg (s_q rfl rfl (q_mv (.inl rfl) (is_sc rfl)) ?_))
            refine s_q rfl rfl (q_eql rfl rfl rfl) ?_
            refine s_nil (n_n (w_if (is_scb rfl) (fun h50 => ?_) (fun h50 => ?_)))
            · refine w_seq (w_reg (s_q rfl rfl (q_mv (.inl rfl) (by first | exact is_im rfl | exact is_gs rfl | exact is_lit rfl | exact is_ms rfl | exact is_sc rfl | exact rfl)) ?_))
              refine s_q rfl rfl (q_mv (.inl rfl) (is_sc rfl)) ?_
              refine s_q rfl rfl (q_mv (.inl rfl) (is_sc rfl)) ?_
              refine s_o rfl rfl (ao_callH rfl rfl rfl rfl (pf_so_rev h4 id cap n d3 sp hd3 hn9 a2 b2 (by omega) hb2) fun v54 Hv54 hv54 => ?_)
              subst hv54
              refine s_nil (n_n (w_seq (w_reg (s_q rfl rfl (q_mv (.inl rfl) (is_sc rfl)) ?_))))
              refine s_q rfl rfl (q_as (i64_eq ((wrap_id (by omega) (by omega)).trans (by omega) : _ = ((b2 - 1 : Nat) : Int))) (q_sub rfl rfl rfl)) ?_
              refine s_q rfl rfl (q_mv (.inl rfl) (is_sc rfl)) ?_
              refine s_q rfl rfl (q_mv (.inl rfl) (is_sc rfl)) ?_
              refine s_q rfl rfl (q_as (i64_eq ((wrap_id (by omega) (by omega)).trans (by omega) : _ = ((p - a2 : Nat) : Int))) (q_sub rfl rfl rfl)) ?_
              refine s_q rfl rfl (q_as (i64_eq ((wrap_id (by omega) (by omega)).trans (by omega) : _ = ((b2 - 1 - (p - a2) : Nat) : Int))) (q_sub rfl rfl rfl)) ?_
              refine s_q rfl rfl (q_mv (.inr rfl) (is_sc rfl)) ?_
              refine s_nil (n_n (w_reg (s_q rfl rfl (q_mv (.inr rfl) (is_sc rfl)) ?_)))
              refine s_nil (j_n ?_)
              have hrv := reverseRange_holds d3 a2 b2 (by omega) (by omega)
              exact ⟨_, _, _, by omega, hrv.1.trans hd3, permIn_trans _ _ _ _ _ hp3 hrv, ⟨rfl, rfl, rfl, rfl, rfl, rfl, rfl, rfl, rfl, trivial⟩, rfl⟩
            · refine w_skip (j_n ?_)
              exact ⟨p, x, d3, hp, hd3, hp3, ⟨rfl, rfl, rfl, rfl, rfl, rfl, rfl, rfl, rfl, trivial⟩, rfl⟩
          · rintro env A ⟨p5, x5, d5, hp5, hd5, hq5, hB, rfl⟩
            rw [hB.eq]; clear hB
            have hB5 := hB2.perm (by omega) hq5
            refine n_n (w_seq (w_joinQ (fun env A => ∃ (d6 : Array FF), d6.size = n ∧ PermIn a2 b2 d2 d6 ∧ Binds env [(0, .hs id 0 n cap), (1, i64 a2), (2, i64 b2), (3, i64 (lim3 : Nat)), (8, bl wb), (9, bl wp), (10, i64 ((b2 - a2 : Nat) : Int)), (11, i64 p5)] ∧ A = AH.start (setH h4 id (fls d6 ++ sp))) ?_ ?_))
            · refine w_seq (w_reg (s_q rfl rfl (q_mv (.inl rfl) (is_sc rfl)) ?_))
              refine s_q rfl rfl (q_mv (.inl rfl) (is_sc rfl)) ?_
              refine s_split 62 (is_scb rfl) (fun h1 => ?_) (fun h1 => ?_)
              · refine s_q rfl rfl (q_mv (.inl rfl) (is_sc rfl)) ?_
                refine s_q rfl rfl (q_pickT rfl rfl (is_sc rfl)) ?_
                refine s_q rfl rfl (q_mv (.inl rfl) (is_sc rfl)) ?_
                refine s_split 65 (is_scb rfl) (fun h2 => ?_) (fun h2 => ?_)
                · refine s_q rfl rfl (q_mv (.inl rfl) (is_sc rfl)) ?_
                  refine s_q rfl rfl (q_eql rfl rfl rfl) ?_
                  refine s_q rfl rfl (q_pickT rfl rfl (is_sc rfl)) ?_
                  refine s_nil (n_n (w_if (is_scb rfl) (fun h3 => ?_) (fun h3 => ?_)))
                  · refine w_seq (w_reg (s_q rfl rfl (q_mv (.inl rfl) (by first | exact is_im rfl | exact is_gs rfl | exact is_lit rfl | exact is_ms rfl | exact is_sc rfl | exact rfl)) ?_))
                    refine s_q rfl rfl (q_mv (.inl rfl) (is_sc rfl)) ?_
                    refine s_q rfl rfl (q_mv (.inl rfl) (is_sc rfl)) ?_
                    refine s_o rfl rfl (ao_callH rfl rfl rfl rfl (pf_so_partial h4 id cap n d5 sp hd5 hn9 a2 b2 (by omega) hb2) fun v72 Hv72 hv72 => ?_)
                    obtain ⟨rfl, rfl⟩ := hv72
                    have hpi := partialInsertionSort_holds swo_ltQ d5 a2 b2 (by omega) (by omega) hB5
                    refine s_nil (n_n (w_if (is_scb rfl) (fun h72 => ?_) (fun h72 => ?_)))
                    · refine w_ret (j_r (n_r (b_r (n_r (b_r ?_)))))
                      -- end 2
                      refine r_r ra_nil (by exact (rfl : _ = D.tup [])) (by exact rfl) (Sub.refl _) ?_
                      obtain ⟨q1, q2⟩ := hfin _ (permIn_trans _ _ _ _ _ hq5 hpi.1) (hpi.2 h72)
                      exact ⟨h4, _, rfl, q1, q2, hK4⟩
                    · refine w_skip (j_n ?_)
                      exact ⟨_, hpi.1.1.trans hd5, permIn_trans _ _ _ _ _ hq5 hpi.1, ⟨rfl, rfl, rfl, rfl, rfl, rfl, rfl, rfl, trivial⟩, rfl⟩
                  · refine w_skip (j_n ?_)
                    exact ⟨d5, hd5, hq5, ⟨rfl, rfl, rfl, rfl, rfl, rfl, rfl, rfl, trivial⟩, rfl⟩
                · refine s_off rfl rfl ?_
                  refine s_off rfl rfl ?_
                  refine s_q rfl rfl (q_pickF rfl rfl (is_sc rfl)) ?_
                  refine s_nil (n_n (w_ifF rfl (w_skip (j_n ?_))))
                  exact ⟨d5, hd5, hq5, ⟨rfl, rfl, rfl, rfl, rfl, rfl, rfl, rfl, trivial⟩, rfl⟩
              · refine s_off rfl rfl ?_
                refine s_q rfl rfl (q_pickF rfl rfl (is_sc rfl)) ?_
                refine s_q rfl rfl (q_mv (.inl rfl) (is_sc rfl)) ?_
                refine s_off rfl rfl ?_
                refine s_off rfl rfl ?_
                refine s_q rfl rfl (q_pickF rfl rfl (is_sc rfl)) ?_
                refine s_nil (n_n (w_ifF rfl (w_skip (j_n ?_))))
                exact ⟨d5, hd5, hq5, ⟨rfl, rfl, rfl, rfl, rfl, rfl, rfl, rfl, trivial⟩, rfl⟩
            · rintro env A ⟨d6, hd6, hp6, hB, rfl⟩
              rw [hB.eq]; clear hB
              have hB6 := hB2.perm (by omega) hp6
              refine n_n (w_seq (w_joinQ (fun env A => Binds env [(0, .hs id 0 n cap), (1, i64 a2), (2, i64 b2), (3, i64 (lim3 : Nat)), (8, bl wb), (9, bl wp), (10, i64 ((b2 - a2 : Nat) : Int)), (11, i64 p5)] ∧ A = AH.start (setH h4 id (fls d6 ++ sp))) ?_ ?_))
              · refine w_seq (w_draw [0, 1, 3, 7, 7, 23, 63, 127, 7, 7, 775, 1799, 4095, 8191, 16383] [0, 0, 0, 0, 0, 0, 0, 1, 0, 0, 0, 1, 0, 0, 0] rfl ?_)
                refine d_q0 rfl rfl (q_mv (.inl rfl) (is_sc rfl)) ?_
                refine d_q0 rfl rfl (q_gtr rfl rfl rfl) ?_
                refine d_q0 rfl rfl (q_mv (.inl rfl) (is_sc rfl)) ?_
                refine d_split 75 (is_scb rfl) (fun h75 => ?_) (fun h75 => ?_)
                · have ha0 : 0 < a2 := by have h' : (0 : Int) < ((a2 : Nat) : Int) := of_decide_eq_true h75; omega
                  refine d_q0 rfl rfl (q_mv (.inl rfl) (by first | exact is_im rfl | exact is_gs rfl | exact is_lit rfl | exact is_ms rfl | exact is_sc rfl | exact rfl)) ?_
                  refine d_q0 rfl rfl (q_mv (.inl rfl) (is_sc rfl)) ?_
                  refine d_q0 rfl rfl (q_as (i64_eq ((wrap_id (by omega) (by omega)).trans (by omega) : _ = ((a2 - 1 : Nat) : Int))) (q_sub rfl rfl rfl)) ?_
                  refine d_q0 rfl rfl (q_indexHs rfl rfl rfl (by omega) (by omega)) ?_
                  refine d_q1 rfl rfl (q_loadF (i := a2 - 1) (d := d6) rfl rfl rfl (by omega) (by omega)) ?_
                  refine d_q0 rfl rfl (q_mv (.inl rfl) (by first | exact is_im rfl | exact is_gs rfl | exact is_lit rfl | exact is_ms rfl | exact is_sc rfl | exact rfl)) ?_
                  refine d_q0 rfl rfl (q_mv (.inl rfl) (is_sc rfl)) ?_
                  refine d_q0 rfl rfl (q_indexHs rfl rfl rfl (by omega) (by omega)) ?_
                  refine d_q1 rfl rfl (q_loadF (i := p5) (d := d6) rfl rfl rfl (by omega) (by omega)) ?_
                  refine d_q0 rfl rfl (q_call rfl rfl rfl rfl (pf_so_Less _ _)) ?_
                  refine d_q0 rfl rfl (q_not rfl rfl) ?_
                  refine d_q0 rfl rfl (q_pickT rfl rfl (is_sc rfl)) ?_
                  refine d_nil (n_n (w_if (is_scb rfl) (fun h87 => ?_) (fun h87 => ?_)))
                  · have hnl : ltQ d6[a2 - 1]! d6[p5]! = false := by simpa using h87
                    refine w_seq (w_reg (s_q rfl rfl (q_mv (.inl rfl) (by first | exact is_im rfl | exact is_gs rfl | exact is_lit rfl | exact is_ms rfl | exact is_sc rfl | exact rfl)) ?_))
                    refine s_q rfl rfl (q_mv (.inl rfl) (is_sc rfl)) ?_
                    refine s_q rfl rfl (q_mv (.inl rfl) (is_sc rfl)) ?_
                    refine s_q rfl rfl (q_mv (.inl rfl) (is_sc rfl)) ?_
                    refine s_o rfl rfl (ao_callH rfl rfl rfl rfl (pf_so_partEq h4 id cap n d6 sp hd6 hn9 a2 b2 p5 hp5.1 hp5.2 hb2) fun v92 Hv92 hv92 => ?_)
                    obtain ⟨rfl, rfl⟩ := hv92
                    obtain ⟨mid, d7, hx⟩ : ∃ mid d7, partitionEqual ltQ d6 a2 b2 p5 = (mid, d7) := ⟨_, _, rfl⟩
                    rw [hx]
                    obtain ⟨g1, g2, g3, g4, g5⟩ := round_eq swo_ltQ (partitionEqual_holds _) ha0 hp5.1 hp5.2 (by omega) hB6 hnl hx
                    refine s_q rfl rfl (q_mv (.inr rfl) (is_sc rfl)) ?_
                    refine s_nil (n_n (w_seq (w_reg (s_q rfl rfl (q_mv (.inl rfl) (is_sc rfl)) ?_))))
                    refine s_q rfl rfl (q_mv (.inr rfl) (is_sc rfl)) ?_
                    refine s_nil (n_n (w_exit (j_e (n_e (b_hit (n_n ?_))))))
                    refine ⟨⟨mid, b2, lim3, h4, d7, wb, wp, g2, hb2, by omega, hl3, g3.trans hd6, hK4, g4, fun R hR hs => hfin R (permIn_trans _ _ _ _ _ hp6 (g5 R hR hs).1) (g5 R hR hs).2, ⟨rfl, rfl, rfl, rfl, rfl, rfl, trivial⟩, rfl⟩, ?_⟩
                    show ((b2 : Nat) : Int).toNat - ((mid : Nat) : Int).toNat < ((b2 : Nat) : Int).toNat - ((a2 : Nat) : Int).toNat
                    omega
                  · refine w_skip (j_n ?_)
                    exact ⟨⟨rfl, rfl, rfl, rfl, rfl, rfl, rfl, rfl, trivial⟩, rfl⟩
                · refine d_off rfl rfl ?_
                  refine d_off rfl rfl ?_
                  refine d_off rfl rfl ?_
                  refine d_off rfl rfl ?_
                  refine d_off rfl rfl ?_
                  refine d_off rfl rfl ?_
                  refine d_off rfl rfl ?_
                  refine d_off rfl rfl ?_
                  refine d_off rfl rfl ?_
                  refine d_off rfl rfl ?_
                  refine d_off rfl rfl ?_
                  refine d_q0 rfl rfl (q_pickF rfl rfl (is_sc rfl)) ?_
                  refine d_nil (n_n (w_ifF rfl (w_skip (j_n ?_))))
                  exact ⟨⟨rfl, rfl, rfl, rfl, rfl, rfl, rfl, rfl, trivial⟩, rfl⟩
              · rintro env A ⟨hB, rfl⟩
                rw [hB.eq]; clear hB
                refine n_n (w_seq (w_reg (s_q rfl rfl (q_mv (.inl rfl) (by first | exact is_im rfl | exact is_gs rfl | exact is_lit rfl | exact is_ms rfl | exact is_sc rfl | exact rfl)) ?_)))
                refine s_q rfl rfl (q_mv (.inl rfl) (is_sc rfl)) ?_
                refine s_q rfl rfl (q_mv (.inl rfl) (is_sc rfl)) ?_
                refine s_q rfl rfl (q_mv (.inl rfl) (is_sc rfl)) ?_
                refine s_o rfl rfl (ao_callH rfl rfl rfl rfl (pf_so_part h4 id cap n d6 sp hd6 hn9 a2 b2 p5 hp5.1 hp5.2 hb2) fun v99 Hv99 hv99 => ?_)
                obtain ⟨rfl, rfl⟩ := hv99
                obtain ⟨mid, ap, d7, hx⟩ : ∃ mid ap d7, partition ltQ d6 a2 b2 p5 = (mid, ap, d7) := ⟨_, _, _, rfl⟩
                rw [hx]
                obtain ⟨g1, g2, g3, g4, g5, g6, g7⟩ := round_part swo_ltQ (partition_holds _) hp5.1 hp5.2 (by omega) hB6 hx
                refine s_q rfl rfl (q_mv (.inl rfl) (by first | exact (rfl : _ = D.tup [_, _]) | exact rfl)) ?_
                refine s_q rfl rfl (q_extract rfl rfl rfl) ?_
                refine s_q rfl rfl (q_extract rfl rfl rfl) ?_
                refine s_q rfl rfl (q_mv (.inr rfl) (is_sc rfl)) ?_
                refine s_q rfl rfl (q_mv (.inr rfl) (is_sc rfl)) ?_
                refine s_nil (n_n (w_seq (w_reg (s_q rfl rfl (q_mv (.inl rfl) (is_sc rfl)) ?_))))
                refine s_q rfl rfl (q_mv (.inr rfl) (is_sc rfl)) ?_
                refine s_nil (n_n (w_seq (w_reg (s_q rfl rfl (q_mv (.inl rfl) (is_sc rfl)) ?_))))
                refine s_q rfl rfl (q_mv (.inl rfl) (is_sc rfl)) ?_
                refine s_q rfl rfl (q_as (i64_eq ((wrap_id (by omega) (by omega)).trans (by omega) : _ = ((mid - a2 : Nat) : Int))) (q_sub rfl rfl rfl)) ?_
                refine s_q rfl rfl (q_mv (.inl rfl) (is_sc rfl)) ?_
                refine s_q rfl rfl (q_mv (.inl rfl) (is_sc rfl)) ?_
                refine s_q rfl rfl (q_as (i64_eq ((wrap_id (by omega) (by omega)).trans (by omega) : _ = ((b2 - mid : Nat) : Int))) (q_sub rfl rfl rfl)) ?_
                refine s_q rfl rfl (q_mv (.inr rfl) (is_sc rfl)) ?_
                refine s_q rfl rfl (q_mv (.inr rfl) (is_sc rfl)) ?_
                refine s_nil (n_n (w_seq (w_reg (s_q rfl rfl (q_mv (.inl rfl) (is_sc rfl)) ?_))))
                refine s_q rfl rfl (q_as (i64_eq (show IntKind.i64.wrap (((b2 - a2 : Nat) : Int).tdiv 8) = (((b2 - a2) / 8 : Nat) : Int) by rw [Int.tdiv_eq_ediv_of_nonneg (by omega)]; exact (wrap_id (by omega) (by omega)).trans (by omega))) (q_quo rfl rfl rfl (by decide))) ?_
                refine s_q rfl rfl (q_mv (.inr rfl) (is_sc rfl)) ?_
                refine s_nil (n_n (w_seq (w_reg (s_q rfl rfl (q_mv (.inl rfl) (is_sc rfl)) ?_))))
                refine s_q rfl rfl (q_mv (.inl rfl) (is_sc rfl)) ?_
                refine s_q rfl rfl (q_lss rfl rfl rfl) ?_
                refine s_nil (n_n (w_if (is_scb rfl) (fun h113 => ?_) (fun h113 => ?_)))
                · refine w_seq (w_reg (s_q rfl rfl (q_mv (.inl rfl) (is_sc rfl)) ?_))
                  refine s_q rfl rfl (q_mv (.inl rfl) (is_sc rfl)) ?_
                  refine s_q rfl rfl (q_geq rfl rfl rfl) ?_
                  refine s_q rfl rfl (q_mv (.inr rfl) (is_sc rfl)) ?_
                  refine s_nil (n_n (w_seq (w_reg (s_q rfl rfl (q_mv (.inl rfl) (by first | exact is_im rfl | exact is_gs rfl | exact is_lit rfl | exact is_ms rfl | exact is_sc rfl | exact rfl)) ?_))))
                  refine s_q rfl rfl (q_mv (.inl rfl) (is_sc rfl)) ?_
                  refine s_q rfl rfl (q_mv (.inl rfl) (is_sc rfl)) ?_
                  refine s_q rfl rfl (q_mv (.inl rfl) (is_sc rfl)) ?_
                  refine s_o rfl rfl (ao_callH rfl rfl rfl rfl (hrec h4 d7 a2 mid lim3 (g3.trans hd6) g1 (by omega) hl3 g4 (by omega)) fun v121 Hv121 hv121 => ?_)
                  obtain ⟨h8, d8, rfl, hq1, hq2, hK8⟩ := hv121
                  refine s_nil (n_n (w_reg (s_q rfl rfl (q_mv (.inl rfl) (is_sc rfl)) ?_)))
                  refine s_q rfl rfl (q_as (i64_eq ((wrap_id (by omega) (by omega)).trans (by omega) : _ = ((mid + 1 : Nat) : Int))) (q_add rfl rfl rfl)) ?_
                  refine s_q rfl rfl (q_mv (.inr rfl) (is_sc rfl)) ?_
                  refine s_nil (b_n (n_n ?_))
                  obtain ⟨k1, k2⟩ := g6 _ hq1 hq2
                  refine ⟨⟨mid + 1, b2, lim3, h8, d8, _, _, by omega, hb2, by omega, hl3, hq1.1.trans (g3.trans hd6), hK4.trans hK8 (fun x hx => by cases hx), k1, fun R hR hs => hfin R (permIn_trans _ _ _ _ _ hp6 (k2 R hR hs).1) (k2 R hR hs).2, ⟨rfl, rfl, rfl, rfl, rfl, rfl, trivial⟩, rfl⟩, ?_⟩
                  show ((b2 : Nat) : Int).toNat - ((mid + 1 : Nat) : Int).toNat < ((b2 : Nat) : Int).toNat - ((a2 : Nat) : Int).toNat
                  omega
                · refine w_seq (w_reg (s_q rfl rfl (q_mv (.inl rfl) (is_sc rfl)) ?_))
                  refine s_q rfl rfl (q_mv (.inl rfl) (is_sc rfl)) ?_
                  refine s_q rfl rfl (q_geq rfl rfl rfl) ?_
                  refine s_q rfl rfl (q_mv (.inr rfl) (is_sc rfl)) ?_
                  refine s_nil (n_n (w_seq (w_reg (s_q rfl rfl (q_mv (.inl rfl) (by first | exact is_im rfl | exact is_gs rfl | exact is_lit rfl | exact is_ms rfl | exact is_sc rfl | exact rfl)) ?_))))
                  refine s_q rfl rfl (q_mv (.inl rfl) (is_sc rfl)) ?_
                  refine s_q rfl rfl (q_as (i64_eq ((wrap_id (by omega) (by omega)).trans (by omega) : _ = ((mid + 1 : Nat) : Int))) (q_add rfl rfl rfl)) ?_
                  refine s_q rfl rfl (q_mv (.inl rfl) (is_sc rfl)) ?_
                  refine s_q rfl rfl (q_mv (.inl rfl) (is_sc rfl)) ?_
                  refine s_o rfl rfl (ao_callH rfl rfl rfl rfl (hrec h4 d7 (mid + 1) b2 lim3 (g3.trans hd6) (by omega) hb2 hl3 g5 (by omega)) fun v132 Hv132 hv132 => ?_)
                  obtain ⟨h8, d8, rfl, hq1, hq2, hK8⟩ := hv132
                  refine s_nil (n_n (w_reg (s_q rfl rfl (q_mv (.inl rfl) (is_sc rfl)) ?_)))
                  refine s_q rfl rfl (q_mv (.inr rfl) (is_sc rfl)) ?_
                  refine s_nil (b_n (n_n ?_))
                  obtain ⟨k1, k2⟩ := g7 _ hq1 hq2
                  refine ⟨⟨a2, mid, lim3, h8, d8, _, _, g1, by omega, by omega, hl3, hq1.1.trans (g3.trans hd6), hK4.trans hK8 (fun x hx => by cases hx), k1, fun R hR hs => hfin R (permIn_trans _ _ _ _ _ hp6 (k2 R hR hs).1) (k2 R hR hs).2, ⟨rfl, rfl, rfl, rfl, rfl, rfl, trivial⟩, rfl⟩, ?_⟩
                  show ((mid : Nat) : Int).toNat - ((a2 : Nat) : Int).toNat < ((b2 : Nat) : Int).toNat - ((a2 : Nat) : Int).toNat
                  omega


theorem pf_pdq (id cap n : Nat) (sp : List D) (hn9 : n ≤ 1000000) : ∀ (k : Nat) (h : Heap) (d : Array FF) (a b lim : Nat), d.size = n → a ≤ b → b ≤ n → lim ≤ 64 → Below ltQ a b d → b - a < k → ACall Tryz.prog G 247 true [.hs id 0 n cap, i64 a, i64 b, i64 lim] (setH h id (fls d ++ sp)) (pdqPost h id sp d a b)
  | 0, _, _, _, _, _, _, _, _, _, _, hk => absurd hk (Nat.not_lt_zero _)
  | k + 1, h, d, a, b, lim, hn, hab, hb, hl, hB, hk => pf_pdqS h id cap n d sp hn hn9 a b lim hab hb hl hB fun h' d' a' b' lim' h1 h2 h3 h4 h5 h6 => pf_pdq id cap n sp hn9 k h' d' a' b' lim' h1 h2 h3 h4 h5 (by omega)


-- slices.Sort[[]float64,float64]
theorem pf_SortF (h : Heap) (id cap n : Nat) (d : Array FF) (sp : List D) (hn : d.size = n) (hn9 : n ≤ 1000000) : ACall Tryz.prog G 154 true [.hs id 0 n cap] (setH h id (fls d ++ sp)) (pdqPost h id sp d 0 n) := by
  have hbl := Lib.bitLen_le n 64 (Nat.le_refl _) (by omega)
  refine ACall.intro rfl Tryz.func154 rfl (Nat.le_of_ble_eq_true rfl) rfl ?_
  refine w_seq (w_reg (s_q rfl rfl (q_mv (.inl rfl) (by first | exact is_im rfl | exact is_gs rfl | exact is_lit rfl | exact is_ms rfl | exact is_sc rfl | exact rfl)) ?_))
  refine s_q rfl rfl (q_lenHs rfl rfl) ?_
  refine s_q rfl rfl (q_mv (.inr rfl) (is_sc rfl)) ?_
  refine s_nil (n_n (w_reg (s_q rfl rfl (q_mv (.inl rfl) (by first | exact is_im rfl | exact is_gs rfl | exact is_lit rfl | exact is_ms rfl | exact is_sc rfl | exact rfl)) ?_)))
  refine s_q rfl rfl (q_mv (.inl rfl) (is_sc rfl)) ?_
  refine s_q rfl rfl (q_mv (.inl rfl) (is_sc rfl)) ?_
  refine s_q rfl rfl (q_as (u64_eq (show IntKind.u64.wrap ((n : Nat) : Int) = ((n : Nat) : Int) from w64_id (by omega))) (q_cii rfl rfl)) ?_
  refine s_q rfl rfl (q_call rfl rfl rfl rfl (pf_so_Len _ (by omega))) ?_
  refine s_o rfl rfl (ao_callH rfl rfl rfl rfl (pf_pdq id cap n sp hn9 (n + 1) h d 0 n (Lib.bitLen n) hn (Nat.zero_le _) (Nat.le_refl _) hbl (.inl rfl) (by omega)) fun v10 Hv10 hv10 => ?_)
  refine s_nil ?_
  -- end 0
  refine r_n ra_nil (by exact (rfl : _ = D.tup [])) (by exact rfl) (Sub.refl _) ?_
  exact hv10


-- sort.Float64s
theorem pf_Float64s (h : Heap) (id cap n : Nat) (d : Array FF) (sp : List D) (hn : d.size = n) (hn9 : n ≤ 1000000) : ACall Tryz.prog G 70 true [.hs id 0 n cap] (setH h id (fls d ++ sp)) (pdqPost h id sp d 0 n) := by
  refine ACall.intro rfl Tryz.func70 rfl (Nat.le_of_ble_eq_true rfl) rfl ?_
  refine w_reg (s_q rfl rfl (q_mv (.inl rfl) (by first | exact is_im rfl | exact is_gs rfl | exact is_lit rfl | exact is_ms rfl | exact is_sc rfl | exact rfl)) ?_)
  refine s_o rfl rfl (ao_callH rfl rfl rfl rfl (pf_SortF h id cap n d sp hn hn9) fun v3 Hv3 hv3 => ?_)
  refine s_nil ?_
  -- end 0
  refine r_n ra_nil (by exact (rfl : _ = D.tup [])) (by exact rfl) (Sub.refl _) ?_
  exact hv3

end Go.Proofs.YtopgbalmdocboaaGreatDoor.Zz
