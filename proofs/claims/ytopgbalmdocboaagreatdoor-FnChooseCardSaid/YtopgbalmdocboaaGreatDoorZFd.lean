/- Walks of the functions, printed by program, and the logic behind them: each theorem says what one function or one step answers. -/
import Derived.Test.YtopgbalmdocboaaGreatDoorZFc
import Derived.Test.YtopgbalmdocboaaGreatDoorZFz
import Derived.Shelf.Abstract
import Derived.Shelf.Strconv.Itoa0
import Derived.Shelf.Strconv.Itoa2
import Derived.Lib.ItoaLen
namespace Go.Proofs.YtopgbalmdocboaaGreatDoor.Zz
open Go.Abs
set_option maxRecDepth 100000
set_option linter.unusedVariables false
set_option linter.unusedSimpArgs false
set_option maxHeartbeats 4000000
variable {G : Nat → D}

def Tryz.lays129_ren : Go.Shelf.Ren := ⟨fun | 129 => 278 | n => n, fun | 53 => 235 | 3 => 3 | 4 => 4 | 46 => 62 | 5 => 5 | 9 => 9 | n => n, fun | n => n⟩
theorem Tryz.lays129 : Go.Proofs.Lays.n129 Tryz.prog Tryz.lays129_ren where
  mixed := by kernel_rfl
  f129 := Tryz.func278.trans (congrArg some (by kernel_rfl))
  t3 := Tryz.underlying3
  a3 := Tryz.isAgg3
  z3 := Tryz.sizeOf3
  v3 := Tryz.zeroValue3
  t4 := Tryz.underlying4
  a4 := Tryz.isAgg4
  z4 := Tryz.sizeOf4
  v4 := Tryz.zeroValue4
  t5 := Tryz.underlying5
  a5 := Tryz.isAgg5
  z5 := Tryz.sizeOf5
  v5 := Tryz.zeroValue5
  t9 := Tryz.underlying9
  a9 := Tryz.isAgg9
  z9 := Tryz.sizeOf9
  v9 := Tryz.zeroValue9
  t46 := Tryz.underlying62
  a46 := Tryz.isAgg62
  z46 := Tryz.sizeOf62
  v46 := Tryz.zeroValue62
  t53 := Tryz.underlying235
  a53 := Tryz.isAgg235
  z53 := Tryz.sizeOf235
  v53 := Tryz.zeroValue235
def Tryz.lays285_ren : Go.Shelf.Ren := ⟨fun | 285 => 318 | n => n, fun | 37 => 150 | 53 => 235 | 3 => 3 | 4 => 4 | 51 => 230 | 9 => 9 | 5 => 5 | 0 => 0 | n => n, fun | n => n⟩
theorem Tryz.lays285 : Go.Proofs.Lays.n285 Tryz.prog Tryz.lays285_ren where
  mixed := by kernel_rfl
  f285 := Tryz.func318.trans (congrArg some (by kernel_rfl))
  t0 := Tryz.underlying0
  a0 := Tryz.isAgg0
  z0 := Tryz.sizeOf0
  v0 := Tryz.zeroValue0
  t3 := Tryz.underlying3
  a3 := Tryz.isAgg3
  z3 := Tryz.sizeOf3
  v3 := Tryz.zeroValue3
  t4 := Tryz.underlying4
  a4 := Tryz.isAgg4
  z4 := Tryz.sizeOf4
  v4 := Tryz.zeroValue4
  t5 := Tryz.underlying5
  a5 := Tryz.isAgg5
  z5 := Tryz.sizeOf5
  v5 := Tryz.zeroValue5
  t9 := Tryz.underlying9
  a9 := Tryz.isAgg9
  z9 := Tryz.sizeOf9
  v9 := Tryz.zeroValue9
  t37 := Tryz.underlying150
  a37 := Tryz.isAgg150
  z37 := Tryz.sizeOf150
  v37 := Tryz.zeroValue150
  t51 := Tryz.underlying230
  a51 := Tryz.isAgg230
  z51 := Tryz.sizeOf230
  v51 := Tryz.zeroValue230
  t53 := Tryz.underlying235
  a53 := Tryz.isAgg235
  z53 := Tryz.sizeOf235
  v53 := Tryz.zeroValue235
theorem pf_Len64 (x : Nat) (h : x < 2 ^ 64) : PF Tryz.prog G 278 [w64 x] (i64 (Lib.bitLen x : Nat)) :=
  pf_shelf fun g Prot w cargs hr ha => by
    simp only [repL] at ha
    obtain ⟨v, r, rfl, h1, rfl⟩ := ha
    simp only [rep] at h1
    subst h1
    refine (Any.bits_Len64 Tryz.lays129 (x : Int) w (by omega) (by omega)).mono fun e w' ⟨h2, h3⟩ => ⟨_, h2, by rw [h3]; exact Go.RowKit.Below.refl _ _, ?_⟩
    simp only [rep, Int.toNat_natCast]
theorem pf_fb10 (h : Heap) (b cap u : Nat) (cs : List D) (hA : h b = some cs) (hcs : cs.take (Lib.nDigits u) = bc (List.replicate (Lib.nDigits u) 0)) (hl : Lib.nDigits u ≤ cs.length) (hu : u < 2 ^ 64) :
    ACall Tryz.prog G 318 true [.hs b 0 (Lib.nDigits u) cap, w64 u] h (fun v h' => v = .tup [] ∧ h' = setH h b (bc (Lib.decDigits u) ++ cs.drop (Lib.nDigits u))) := by
  have hrl : (List.replicate (Lib.nDigits u) (0 : UInt8)).length = Lib.nDigits u := List.length_replicate
  have H := ph_row (P := Tryz.prog) (G := G) (f := 318) (h := h) (id := b) (off := 0) (cap := cap) (cs := cs) (bs := List.replicate (Lib.nDigits u) 0) (rest := [w64 u]) (Inv := fun dk => ∃ v', Lib.FmtInv (Lib.nDigits u) u 0 v' dk) hA (by rw [hrl, List.drop_zero]; exact hcs) (by rw [hrl]; omega)
    (fun dk ⟨v', hI⟩ => by rw [hrl]; exact hI.size) (fun g w blk cargs ha hH => by
      simp only [repL] at ha
      obtain ⟨v, r, rfl, h1, rfl⟩ := ha
      simp only [rep] at h1
      subst h1
      have hs : (List.replicate (Lib.nDigits u) (0 : UInt8)).toArray.size = Lib.nDigits u := by simp
      have := Any.internal_strconv_formatBase10 Tryz.lays285 blk 0 cap u (List.replicate (Lib.nDigits u) (0 : UInt8)).toArray w hH (by rw [hs]; exact Lib.lt_pow_nDigits u) (by omega) (by rw [hs]; have := Lib.nDigits_le20 u (by omega); omega)
      refine this.mono fun e w' ⟨h2, n, v', dk, h3, h4⟩ => ⟨h2, n, dk, h3, v', ?_⟩
      rw [hs] at h4; exact h4)
  rw [hrl] at H
  refine H.mono fun v h' ⟨hv, dk, ⟨v', hI⟩, hh⟩ => ⟨hv, ?_⟩
  rw [hh, row_dec hI]
  unfold setH splice
  funext i
  rw [List.take_zero, List.nil_append, bc_len, Lib.decDigits_length, Nat.zero_add]


-- internal/strconv.numDigits
theorem pf_numDigits (u : Nat) (h1 : 1 ≤ u) (h2 : u < 2 ^ 64) (T : Tabs G) : PF Tryz.prog G 290 [w64 u] (i64 (Lib.nDigits u : Nat)) := by
  obtain ⟨cs, hG, ht⟩ := T.ten
  have hL := Lib.bitLen_le u 64 (Nat.le_refl _) h2
  have hlg := pf_log10 (G := G) (Lib.bitLen u : Int) (by omega)
  obtain ⟨hnd, h19⟩ := Lib.numDigits_eq u h1 (by omega)
  have he : ((Lib.bitLen u : Nat) : Int) * 78913 / 262144 = ((Lib.l10 (Lib.bitLen u) : Nat) : Int) := by unfold Lib.l10; omega
  rw [he] at hlg
  obtain ⟨k, hk⟩ : ∃ k, Lib.l10 (Lib.bitLen u) = k := ⟨_, rfl⟩
  rw [hk] at hlg hnd h19
  have hpk := ht k (by omega)
  have hadd : IntKind.i64.wrap ((k : Int) + (if decide (((10 ^ k : Nat) : Int) ≤ (u : Int)) = true then 1 else 0)) = ((Lib.nDigits u : Nat) : Int) := by
    rw [← hnd]
    by_cases hc : 10 ^ k ≤ u
    · rw [if_pos hc, if_pos (decide_eq_true (by omega))]; exact wrap_id (by omega) (by omega)
    · rw [if_neg hc, if_neg (by rw [decide_eq_false (by omega)]; simp)]; exact wrap_id (by omega) (by omega)
  refine PC.intro rfl Tryz.func290 rfl (Nat.le_of_ble_eq_true rfl) rfl ?_
  refine w_seq (w_reg (s_q rfl rfl (q_mv (.inr rfl) (is_sc rfl)) ?_))
  refine s_nil (n_n (w_seq (w_reg (s_q rfl rfl (q_mv (.inl rfl) (is_sc rfl)) ?_))))
  refine s_q rfl rfl (q_call rfl rfl rfl rfl (pf_Len64 _ (by omega))) ?_
  refine s_q rfl rfl (q_call rfl rfl rfl rfl hlg) ?_
  refine s_q rfl rfl (q_mv (.inr rfl) (is_sc rfl)) ?_
  refine s_nil (n_n (w_seq (w_reg (s_q rfl rfl (q_mv (.inl rfl) (is_sc rfl)) ?_))))
  refine s_q rfl rfl (q_mv (.inl rfl) (is_sc rfl)) ?_
  refine s_q rfl rfl (q_mv (.inl rfl) (is_sc rfl)) ?_
  refine s_q rfl rfl (q_indexArr (i := (k : Int)) rfl hG (by exact rfl) (by omega) (by show (k : Int) < ((20 : Nat) : Int); omega) (by exact rfl)) ?_
  refine s_q rfl rfl (q_loadPin rfl rfl (by show cs[_]? = _; rw [show 0 + ((k : Int)).toNat * 1 = k by omega]; exact hpk)) ?_
  refine s_q rfl rfl (q_geq rfl rfl rfl) ?_
  refine s_q rfl rfl (q_call rfl rfl rfl rfl (pf_b2i _)) ?_
  refine s_q rfl rfl (q_as (i64_eq hadd) (q_add rfl rfl rfl)) ?_
  refine s_q rfl rfl (q_mv (.inr rfl) (is_sc rfl)) ?_
  refine s_nil (n_n (w_ret ?_))
  -- end 0
  refine r_r (ra_tmp (is_sc rfl) ra_nil) (by exact (is_sc rfl)) (by exact rfl) sub_no ?_
  rfl


-- internal/strconv.setDigits
theorem pf_setDigits (h : Heap) (b u : Nat) (p : Int) (cs : List D) (hA : h b = some cs) (hcs : cs = bc (List.replicate 32 0)) (hu : 0 < u) (hu64 : u < 2 ^ 64) (hp : -100 ≤ p ∧ p ≤ 100) : ACall Tryz.prog G 289 true [.hs b 0 32 32, w64 u, i64 p, i64 (Lib.nDigits u : Nat)] h (fun v h' => v = .tup [i64 ((Lib.nDigits u : Nat) + p), i64 (Lib.nDigits (core u) : Nat)] ∧ h' = (setH h b (bc (Lib.decDigits u) ++ cs.drop (Lib.nDigits u)))) := by
  have h20 := Lib.nDigits_le20 u (by omega)
  obtain ⟨c1, c2, c3, c4⟩ := core_facts u u (Nat.le_refl _) hu
  have hcp := Lib.nDigits_pos (core u)
  refine ACall.intro rfl Tryz.func289 rfl (Nat.le_of_ble_eq_true rfl) rfl ?_
  refine w_seq (w_reg (s_q rfl rfl (q_mv (.inr rfl) (is_sc rfl)) ?_))
  refine s_q rfl rfl (q_mv (.inr rfl) (is_sc rfl)) ?_
  refine s_nil (n_n (w_seq (w_seq (w_reg (s_q rfl rfl (q_mv (.inl rfl) (is_sc rfl)) ?_)))))
  refine s_q rfl rfl (q_mv (.inl rfl) (by first | exact is_im rfl | exact is_gs rfl | exact is_lit rfl | exact is_ms rfl | exact is_sc rfl | exact rfl)) ?_
  refine s_q rfl rfl (q_lenHs rfl rfl) ?_
  refine s_q rfl rfl (q_as (bl_yes (show ((Lib.nDigits u : Nat) : Int) ≤ ((32 : Nat) : Int) by omega)) (q_leq rfl rfl rfl)) ?_
  refine s_nil (n_n (w_ifT rfl (w_seq (w_reg (s_q rfl rfl (q_mv (.inl rfl) (by first | exact is_im rfl | exact is_gs rfl | exact is_lit rfl | exact is_ms rfl | exact is_sc rfl | exact rfl)) ?_)))))
  refine s_q rfl rfl (q_mv (.inl rfl) (is_sc rfl)) ?_
  refine s_q rfl rfl (q_cutHs (a := 0) (b := Lib.nDigits u) (m := Lib.nDigits u) (c := 32) (o' := 0) rfl rfl rfl ⟨_, _, rfl, by omega, by omega⟩ (by omega) (by omega) (.inr rfl) rfl (by omega) rfl) ?_
  refine s_q rfl rfl (q_mv (.inl rfl) (is_sc rfl)) ?_
  refine s_o rfl rfl (ao_callH rfl rfl rfl rfl (pf_fb10 _ b 32 u cs hA (by rw [hcs, bc, ← List.map_take, List.take_replicate, Nat.min_eq_left (by omega)]; rfl) (by rw [hcs, bc_len, List.length_replicate]; omega) hu64) fun v18 Hv18 hv18 => ?_)
  obtain ⟨rfl, rfl⟩ := hv18
  refine s_nil (n_n (w_seq (w_reg (s_q rfl rfl (q_mv (.inl rfl) (is_sc rfl)) ?_))))
  refine s_q rfl rfl (q_mv (.inl rfl) (is_sc rfl)) ?_
  refine s_q rfl rfl (q_as (i64_eq (wrap_id (by omega) (by omega) : _ = ((Lib.nDigits u : Nat) : Int) + p)) (q_add rfl rfl rfl)) ?_
  refine s_q rfl rfl (q_mv (.inr rfl) (is_sc rfl)) ?_
  refine s_nil (n_n (w_block ?_))
  refine w_loop (fun env A => ∃ j : Nat, Lib.nDigits (core u) ≤ j ∧ j ≤ Lib.nDigits u ∧ Binds env [(0, .hs b 0 32 32), (3, i64 j), (8, i64 ((Lib.nDigits u : Nat) + p))] ∧ A = AH.start (setH h b (bc (Lib.decDigits u) ++ cs.drop (Lib.nDigits u)))) (fun env _ => ctr (env 3)) ?_ ?_
  · exact ⟨Lib.nDigits u, by omega, Nat.le_refl _, ⟨rfl, rfl, rfl, trivial⟩, rfl⟩
  · rintro env A ⟨j, hj1, hj2, hB, rfl⟩
    rw [hB.eq]; clear hB
    have hj0 : 0 < j := by omega
    have hjl : j - 1 < (Lib.decDigits u).length := by rw [Lib.decDigits_length]; omega
    have hz := zero_at' (u := u) hu hj0 hj1 hj2 hjl
    refine w_seq (w_seq (w_reg (s_q rfl rfl (q_mv (.inl rfl) (is_sc rfl)) ?_)))
    refine s_q rfl rfl (q_as (bl_yes (show (0 : Int) < (j : Int) by omega)) (q_gtr rfl rfl rfl)) ?_
    refine s_q rfl rfl (q_mv (.inl rfl) (is_sc rfl)) ?_
    refine s_q rfl rfl (q_mv (.inl rfl) (by first | exact is_im rfl | exact is_gs rfl | exact is_lit rfl | exact is_ms rfl | exact is_sc rfl | exact rfl)) ?_
    refine s_q rfl rfl (q_mv (.inl rfl) (is_sc rfl)) ?_
    refine s_q rfl rfl (q_as (i64_eq ((wrap_id (by omega) (by omega)).trans (by omega) : _ = ((j - 1 : Nat) : Int))) (q_sub rfl rfl rfl)) ?_
    refine s_q rfl rfl (q_indexHs rfl rfl rfl (by omega) (by omega)) ?_
    refine s_q rfl rfl (q_loadH rfl rfl (d := u8d ((Lib.decDigits u)[j - 1])) (by show Heap.get _ b (0 + (((j - 1 : Nat) : Int)).toNat * 1) = _; rw [show 0 + (((j - 1 : Nat) : Int)).toNat * 1 = j - 1 by omega]; exact get_bc (setH_at _ _ _) hjl)) ?_
    refine s_q rfl rfl (q_eql rfl rfl rfl) ?_
    refine s_q rfl rfl (q_pickT rfl rfl (is_sc rfl)) ?_
    refine s_nil (n_n (w_if (is_scb rfl) (fun h31 => ?_) (fun h31 => ?_)))
    · have hlt : Lib.nDigits (core u) < j := of_decide_eq_true (hz.symm.trans h31)
      refine w_skip (n_n (w_block (w_reg (s_q rfl rfl (q_mv (.inl rfl) (is_sc rfl)) ?_))))
      refine s_q rfl rfl (q_as (i64_eq ((wrap_id (by omega) (by omega)).trans (by omega) : _ = ((j - 1 : Nat) : Int))) (q_sub rfl rfl rfl)) ?_
      refine s_q rfl rfl (q_mv (.inr rfl) (is_sc rfl)) ?_
      refine s_nil (b_n (n_n ?_))
      refine ⟨⟨j - 1, by omega, by omega, ⟨rfl, rfl, rfl, trivial⟩, rfl⟩, ?_⟩
      show (((j - 1 : Nat) : Int)).toNat < ((j : Nat) : Int).toNat
      omega
    · have hge : Lib.nDigits (core u) = j := by have := of_decide_eq_false (hz.symm.trans h31); omega
      refine w_exit (n_e (n_e (b_hit (n_n (w_seq (w_reg (s_q rfl rfl (q_mv (.inl rfl) (is_sc rfl)) ?_)))))))
      refine s_q rfl rfl (q_mv (.inl rfl) (is_sc rfl)) ?_
      refine s_q rfl rfl (q_mv (.inr rfl) (is_sc rfl)) ?_
      refine s_q rfl rfl (q_mv (.inr rfl) (is_sc rfl)) ?_
      refine s_nil (n_n (w_ret ?_))
      -- end 0
      refine r_r (ra_tmp (is_sc rfl) (ra_tmp (is_sc rfl) ra_nil)) (by exact (rfl : _ = D.tup [_, _])) (by exact rfl) (Sub.refl _) ?_
      rw [hge]; exact ⟨rfl, rfl⟩

end Go.Proofs.YtopgbalmdocboaaGreatDoor.Zz
