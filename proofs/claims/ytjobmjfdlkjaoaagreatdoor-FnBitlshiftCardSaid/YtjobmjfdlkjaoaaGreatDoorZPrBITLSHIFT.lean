/- Walks of the functions, printed by program: each theorem says what one function answers. -/
import Derived.Test.YtjobmjfdlkjaoaaGreatDoorZX1
import Derived.Test.YtjobmjfdlkjaoaaGreatDoorZInt
import Derived.Test.YtjobmjfdlkjaoaaGreatDoorZMap
import Derived.Test.YtjobmjfdlkjaoaaGreatDoorZBit
namespace Go.Proofs.YtjobmjfdlkjaoaaGreatDoor.Zz
open Go.Abs
set_option maxRecDepth 100000
set_option linter.unusedVariables false
set_option linter.unusedSimpArgs false
set_option maxHeartbeats 4000000
variable {G : Nat → D}
instance : UN Tryz.prog 130 (.map 9 128) := ⟨Tryz.underlying130⟩

-- (*pub-tallysheet/pub/excelize.formulaFuncs).bitwise$2
theorem pf_bitop (n k : Int) (hk : 0 ≤ k) (hk2 : k ≤ 20) : PF Tryz.prog G 155 [i64 n, i64 k] (i64 (shlI n k)) := by
  have hw : IntKind.u64.wrap k = k := by simp [IntKind.wrap, IntKind.signed, IntKind.bits]; omega
  refine PC.intro rfl Tryz.func155 rfl (Nat.le_of_ble_eq_true rfl) rfl ?_
  refine w_seq (w_reg (s_q rfl rfl (q_mv (.inr rfl) (is_sc rfl)) ?_))
  refine s_nil (n_n (w_seq (w_reg (s_q rfl rfl (q_mv (.inl rfl) (is_sc rfl)) ?_))))
  refine s_q rfl rfl (q_mv (.inl rfl) (is_sc rfl)) ?_
  refine s_q rfl rfl (q_as (u64_eq hw) (q_cii rfl rfl)) ?_
  refine s_q rfl rfl (q_shl rfl rfl rfl hk) ?_
  refine s_q rfl rfl (q_mv (.inr rfl) (is_sc rfl)) ?_
  refine s_nil (n_n (w_ret ?_))
  -- end 0
  refine r_r (ra_tmp (is_sc rfl) ra_nil) (by exact (is_sc rfl)) (by exact rfl) sub_no ?_
  rfl


-- (*pub-tallysheet/pub/excelize.formulaFuncs).bitwise
theorem pf_bitwiseE1 {b1 b2 : Nat} (h : Heap) (kf kk : Nat) (es : List (Nat × D)) (H : IsList h kk es) (hes : es.map (·.2) = [.ifc 61 (fNum b1).d, .ifc 61 (fNum b2).d]) {n k : Int} (hb1 : Fx b1 (n * (unit : Nat))) (hb2 : Fx b2 (k * (unit : Nat))) (hh : n < 0) : ACall Tryz.prog G 69 true [.hp kf 0, st [66, 73, 84, 76, 83, 72, 73, 70, 84], .hp kk 0] h (fun ret _ => ret = (fErr [35, 78, 85, 77, 33] [35, 78, 85, 77, 33]).d) := by
  obtain ⟨e1, e2, rfl⟩ : ∃ e1 e2, es = [(e1, .ifc 61 (fNum b1).d), (e2, .ifc 61 (fNum b2).d)] := by
    cases es with
    | nil => simp at hes
    | cons p es =>
      cases es with
      | nil => simp at hes
      | cons q es =>
        cases es with
        | nil => obtain ⟨e1, x⟩ := p; obtain ⟨e2, y⟩ := q; simp at hes; obtain ⟨rfl, rfl⟩ := hes; exact ⟨e1, e2, rfl⟩
        | cons _ _ => simp at hes
  have hc1 := fx_clean hb1
  have hc2 := fx_clean hb2
  have z1true : fcmp .lss .f64 (clean b1) 0 = true := by rw [fcmp_lss0 hc1]; exact decide_eq_true (by omega)
  refine ACall.intro rfl Tryz.func69 rfl (Nat.le_of_ble_eq_true rfl) rfl ?_
  refine w_seq (w_reg (s_s rfl rfl (as_alloc0 (id := 0) rfl rfl (by exact (rfl : _ = [_, _, _, _, _, _, _, _, _, _]))) ?_))
  refine s_nil (n_n (w_seq (w_seq (w_reg (s_q rfl rfl (q_mv (.inl rfl) (by first | exact is_box rfl | exact is_hp rfl | exact is_pin rfl | exact is_sc rfl | exact rfl)) ?_)))))
  refine s_o rfl rfl (ao_callH rfl rfl rfl rfl (pf_Len _ kk _ H) fun vln Hvln hvln => ?_)
  obtain ⟨rfl, rfl⟩ := hvln
  refine s_q rfl rfl (q_neq rfl rfl rfl) ?_
  refine s_nil (n_n (w_ifF rfl (w_skip (n_n (w_seq (w_reg (s_q rfl rfl (q_mv (.inl rfl) (by first | exact is_box rfl | exact is_hp rfl | exact is_pin rfl | exact is_sc rfl | exact rfl)) ?_)))))))
  refine s_o rfl rfl (ao_callH rfl rfl rfl rfl (pf_Front _ kk _ H (by simp) (by simp)) fun vfr Hvfr hvfr => ?_)
  obtain ⟨rfl, rfl⟩ := hvfr
  refine s_q rfl rfl (q_nil rfl rfl rfl) ?_
  refine s_q rfl rfl (q_field rfl rfl (by exact rfl)) ?_
  refine s_q rfl rfl (q_loadH rfl rfl (d := .ifc 61 (fNum b1).d) (by exact H.val _ (by simp))) ?_
  refine s_q rfl rfl (q_asr rfl rfl) ?_
  refine s_q rfl rfl (q_call rfl rfl rfl rfl (pf_toNumN _ _ hb1)) ?_
  refine s_q rfl rfl (q_mv (.inl rfl) (by first | exact is_box rfl | exact is_hp rfl | exact is_pin rfl | exact is_sc rfl | exact rfl)) ?_
  refine s_o rfl rfl (ao_callH rfl rfl rfl rfl (pf_Back _ kk _ H (by simp) (by simp)) fun vbk Hvbk hvbk => ?_)
  obtain ⟨rfl, rfl⟩ := hvbk
  refine s_q rfl rfl (q_nil rfl rfl rfl) ?_
  refine s_q rfl rfl (q_field rfl rfl (by exact rfl)) ?_
  refine s_q rfl rfl (q_loadH rfl rfl (d := .ifc 61 (fNum b2).d) (by exact H.val _ (by simp))) ?_
  refine s_q rfl rfl (q_asr rfl rfl) ?_
  refine s_q rfl rfl (q_call rfl rfl rfl rfl (pf_toNumN _ _ hb2)) ?_
  refine s_s rfl rfl (as_alloc0 (id := 1) rfl rfl (by exact (rfl : _ = [_, _, _, _, _, _, _, _, _, _]))) ?_
  refine s_s rfl rfl (as_alloc0 (id := 2) rfl rfl (by exact (rfl : _ = [_, _, _, _, _, _, _, _, _, _]))) ?_
  refine s_u rfl rfl (as_st rfl rfl (by first | exact (rfl : _ = D.agg [_, _, _, _, _, _, _, _, _, _]) | exact rfl) rfl (by exact rfl) (by exact rfl) (by exact Nat.le_of_ble_eq_true rfl) (by exact (rfl : _ = [_, _, _, _, _, _, _, _, _, _]))) ?_
  refine s_u rfl rfl (as_st rfl rfl (by first | exact (rfl : _ = D.agg [_, _, _, _, _, _, _, _, _, _]) | exact rfl) rfl (by exact rfl) (by exact rfl) (by exact Nat.le_of_ble_eq_true rfl) (by exact (rfl : _ = [_, _, _, _, _, _, _, _, _, _]))) ?_
  refine s_nil (n_n (w_seq (w_seq (w_reg (s_q rfl rfl (q_field rfl rfl (by exact rfl)) ?_)))))
  refine s_q rfl rfl (q_load rfl rfl (by exact (rfl : _ = some (D.sc _)))) ?_
  refine s_q rfl rfl (q_neq rfl rfl rfl) ?_
  refine s_q rfl rfl (q_mv (.inl rfl) (is_sc rfl)) ?_
  refine s_q rfl rfl (q_field rfl rfl (by exact rfl)) ?_
  refine s_q rfl rfl (q_load rfl rfl (by exact (rfl : _ = some (D.sc _)))) ?_
  refine s_q rfl rfl (q_neq rfl rfl rfl) ?_
  refine s_q rfl rfl (q_pickF rfl rfl (is_sc rfl)) ?_
  refine s_nil (n_n (w_ifF rfl (w_skip (n_n (w_seq (w_reg (s_q rfl rfl (q_mv (.inr rfl) (is_sc rfl)) ?_)))))))
  refine s_nil (n_n (w_seq (w_seq (w_reg (s_q rfl rfl (q_field rfl rfl (by exact rfl)) ?_)))))
  refine s_q rfl rfl (q_load rfl rfl (by exact (rfl : _ = some (D.sc _)))) ?_
  refine s_q rfl rfl (q_fcmpV rfl rfl rfl rfl z1true) ?_
  refine s_q rfl rfl (q_mv (.inl rfl) (is_sc rfl)) ?_
  refine s_off rfl rfl ?_
  refine s_off rfl rfl ?_
  refine s_off rfl rfl ?_
  refine s_off rfl rfl ?_
  refine s_q rfl rfl (q_pickT rfl rfl (is_sc rfl)) ?_
  refine s_q rfl rfl (q_mv (.inl rfl) (is_sc rfl)) ?_
  refine s_off rfl rfl ?_
  refine s_off rfl rfl ?_
  refine s_off rfl rfl ?_
  refine s_q rfl rfl (q_pickT rfl rfl (is_sc rfl)) ?_
  refine s_q rfl rfl (q_mv (.inl rfl) (is_sc rfl)) ?_
  refine s_off rfl rfl ?_
  refine s_off rfl rfl ?_
  refine s_off rfl rfl ?_
  refine s_off rfl rfl ?_
  refine s_q rfl rfl (q_pickT rfl rfl (is_sc rfl)) ?_
  refine s_nil (n_n (w_ifT rfl (w_seq (w_reg (s_q rfl rfl (q_call rfl rfl rfl rfl (pf_newErr _ _)) ?_)))))
  refine s_u rfl rfl (as_st rfl rfl (by first | exact (rfl : _ = D.agg [_, _, _, _, _, _, _, _, _, _]) | exact rfl) rfl (by exact rfl) (by exact rfl) (by exact Nat.le_of_ble_eq_true rfl) (by exact (rfl : _ = [_, _, _, _, _, _, _, _, _, _]))) ?_
  refine s_nil (n_n (w_ret (n_r ?_)))
  -- end 0
  refine r_r (ra_cell (by exact (rfl : _ = some (D.agg [_, _, _, _, _, _, _, _, _, _]))) ra_nil) (by first | exact (rfl : _ = D.agg [_, _, _, _, _, _, _, _, _, _]) | exact rfl) (by exact rfl) (Sub.refl _) ?_
  rfl


-- (*pub-tallysheet/pub/excelize.formulaFuncs).BITLSHIFT
theorem pf_BITLSHIFTE1 {b1 b2 : Nat} (h : Heap) (kf k0 : Nat) (es : List (Nat × D)) (H : IsList h k0 es) (hes : es.map (·.2) = [.ifc 61 (fNum b1).d, .ifc 61 (fNum b2).d]) {n k : Int} (hb1 : Fx b1 (n * (unit : Nat))) (hb2 : Fx b2 (k * (unit : Nat))) (hh : n < 0) : ACall Tryz.prog G 45 true [.hp kf 0, .hp k0 0] h (fun ret _ => ret = (fErr [35, 78, 85, 77, 33] [35, 78, 85, 77, 33]).d) := by
  refine ACall.intro rfl Tryz.func45 rfl (Nat.le_of_ble_eq_true rfl) rfl ?_
  refine w_seq (w_reg (s_s rfl rfl (as_alloc0 (id := 0) rfl rfl (by exact (rfl : _ = [_, _, _, _, _, _, _, _, _, _]))) ?_))
  refine s_nil (n_n (w_seq (w_reg (s_q rfl rfl (q_mv (.inl rfl) (by first | exact is_box rfl | exact is_hp rfl | exact is_pin rfl | exact is_sc rfl | exact rfl)) ?_))))
  refine s_q rfl rfl (q_mv (.inl rfl) (by first | exact is_box rfl | exact is_hp rfl | exact is_pin rfl | exact is_sc rfl | exact rfl)) ?_
  refine s_o rfl rfl (ao_callH rfl rfl rfl rfl (pf_bitwiseE1 _ kf k0 es H hes hb1 hb2 hh) fun vbw Hvbw hvbw => ?_)
  obtain rfl := hvbw
  refine s_u rfl rfl (as_st rfl rfl (by first | exact (rfl : _ = D.agg [_, _, _, _, _, _, _, _, _, _]) | exact rfl) rfl (by exact rfl) (by exact rfl) (by exact Nat.le_of_ble_eq_true rfl) (by exact (rfl : _ = [_, _, _, _, _, _, _, _, _, _]))) ?_
  refine s_nil (n_n (w_ret ?_))
  -- end 0
  refine r_r (ra_cell (by exact (rfl : _ = some (D.agg [_, _, _, _, _, _, _, _, _, _]))) ra_nil) (by first | exact (rfl : _ = D.agg [_, _, _, _, _, _, _, _, _, _]) | exact rfl) (by exact rfl) (Sub.refl _) ?_
  rfl


-- pub-tallysheet/pub/excelize.DoorBITLSHIFT
theorem pf_DoorBITLSHIFTE1 (b1 b2 : Nat) (n k : Int) (hx1 : Fx b1 (n * (unit : Nat))) (hx2 : Fx b2 (k * (unit : Nat))) (hh : n < 0) : PF Tryz.prog G 32 [ilst [iNum b1, iNum b2]] (iErr [35, 78, 85, 77, 33]).d := by
  refine PC.intro rfl Tryz.func32 rfl (Nat.le_of_ble_eq_true rfl) rfl ?_
  refine w_seq (w_reg (s_s rfl rfl (as_alloc0 (id := 0) rfl rfl (by exact (rfl : _ = [_, _, _, _]))) ?_))
  refine s_nil (n_n (w_seq (w_reg (s_o rfl rfl (ao_callH rfl rfl rfl rfl (pf_doorFuncs _) fun v3 Hv3 hv3 => ?_)))))
  obtain ⟨kf, rfl⟩ := hv3
  refine s_q rfl rfl (q_mv (.inl rfl) (by first | exact is_im rfl | exact is_gs rfl | exact is_lit rfl | exact is_ms rfl | exact is_sc rfl | exact rfl)) ?_
  refine s_o rfl rfl (ao_callH rfl rfl rfl rfl (pf_innerList _ [iNum b1, iNum b2] (by simp only [List.length_cons, List.length_nil]; omega) (fun v => fNum (clean v.num)) (fun v hv => by simp only [List.mem_cons, List.mem_nil_iff, or_false] at hv; rcases hv with rfl | rfl <;> first | exact pf_innerN b1 _ hx1 | exact pf_innerN b2 _ hx2)) fun v5 Hv5 hv5 => ?_)
  obtain ⟨kl, es, rfl, hL, hes⟩ := hv5
  refine s_o rfl rfl (ao_callH rfl rfl rfl rfl (pf_BITLSHIFTE1 _ kf kl es hL hes (fx_clean hx1) (fx_clean hx2) hh) fun v6 Hv6 hv6 => ?_)
  obtain rfl := hv6
  refine s_q rfl rfl (q_call rfl rfl rfl rfl (pf_doorE _ _)) ?_
  refine s_u rfl rfl (as_st rfl rfl (by first | exact (rfl : _ = D.agg [_, _, _, _]) | exact rfl) rfl (by exact rfl) (by exact rfl) (by exact Nat.le_of_ble_eq_true rfl) (by exact (rfl : _ = [_, _, _, _]))) ?_
  refine s_nil (n_n (w_ret ?_))
  -- end 0
  refine r_r (ra_cell (by exact (rfl : _ = some (D.agg [_, _, _, _]))) ra_nil) (by first | exact (rfl : _ = D.agg [_, _, _, _]) | exact rfl) (by exact rfl) sub_no ?_
  rfl


-- pub-tallysheet/impl.BITLSHIFT
theorem pf_ImplBITLSHIFTE1 (b1 b2 : Nat) (n k : Int) (hx1 : Fx b1 (n * (unit : Nat))) (hx2 : Fx b2 (k * (unit : Nat))) (hh : n < 0) : PF Tryz.prog G 16 [ilst [iNum b1, iNum b2]] (iErr [35, 78, 85, 77, 33]).d := by
  refine PC.intro rfl Tryz.func16 rfl (Nat.le_of_ble_eq_true rfl) rfl ?_
  refine w_seq (w_reg (s_s rfl rfl (as_alloc0 (id := 0) rfl rfl (by exact (rfl : _ = [_, _, _, _]))) ?_))
  refine s_nil (n_n (w_seq (w_reg (s_q rfl rfl (q_mv (.inl rfl) (by first | exact is_im rfl | exact is_gs rfl | exact is_lit rfl | exact is_ms rfl | exact is_sc rfl | exact rfl)) ?_))))
  refine s_q rfl rfl (q_call rfl rfl rfl rfl (pf_in [iNum b1, iNum b2] (by simp only [List.length_cons, List.length_nil]; omega) (by intro v hv; simp only [List.mem_cons, List.mem_nil_iff, or_false] at hv; rcases hv with rfl | rfl <;> rfl))) ?_
  refine s_q rfl rfl (q_call rfl rfl rfl rfl (pf_DoorBITLSHIFTE1 b1 b2 n k hx1 hx2 hh)) ?_
  refine s_q rfl rfl (q_call rfl rfl rfl rfl (pf_out _ _ _)) ?_
  refine s_u rfl rfl (as_st rfl rfl (by first | exact (rfl : _ = D.agg [_, _, _, _]) | exact rfl) rfl (by exact rfl) (by exact rfl) (by exact Nat.le_of_ble_eq_true rfl) (by exact (rfl : _ = [_, _, _, _]))) ?_
  refine s_nil (n_n (w_ret ?_))
  -- end 0
  refine r_r (ra_cell (by exact (rfl : _ = some (D.agg [_, _, _, _]))) ra_nil) (by first | exact (rfl : _ = D.agg [_, _, _, _]) | exact rfl) (by exact rfl) sub_no ?_
  rfl


-- (*pub-tallysheet/pub/excelize.formulaFuncs).bitwise
theorem pf_bitwiseE2 {b1 b2 : Nat} (h : Heap) (kf kk : Nat) (es : List (Nat × D)) (H : IsList h kk es) (hes : es.map (·.2) = [.ifc 61 (fNum b1).d, .ifc 61 (fNum b2).d]) {n k : Int} (hb1 : Fx b1 (n * (unit : Nat))) (hb2 : Fx b2 (k * (unit : Nat))) (hh : 0 ≤ n) (hh2 : n ≤ 99999999999) (hh3 : k < 0) : ACall Tryz.prog G 69 true [.hp kf 0, st [66, 73, 84, 76, 83, 72, 73, 70, 84], .hp kk 0] h (fun ret _ => ret = (fErr [35, 78, 85, 77, 33] [35, 78, 85, 77, 33]).d) := by
  obtain ⟨e1, e2, rfl⟩ : ∃ e1 e2, es = [(e1, .ifc 61 (fNum b1).d), (e2, .ifc 61 (fNum b2).d)] := by
    cases es with
    | nil => simp at hes
    | cons p es =>
      cases es with
      | nil => simp at hes
      | cons q es =>
        cases es with
        | nil => obtain ⟨e1, x⟩ := p; obtain ⟨e2, y⟩ := q; simp at hes; obtain ⟨rfl, rfl⟩ := hes; exact ⟨e1, e2, rfl⟩
        | cons _ _ => simp at hes
  have hc1 := fx_clean hb1
  have hc2 := fx_clean hb2
  have z1false : fcmp .lss .f64 (clean b1) 0 = false := by rw [fcmp_lss0 hc1]; exact decide_eq_false (by omega)
  have m1false : fcmp .gtr .f64 (clean b1) 4823355200913801184 = false := by rw [fcmp_gtrM hc1]; exact decide_eq_false (by omega)
  have z2true : fcmp .lss .f64 (clean b2) 0 = true := by rw [fcmp_lss0 hc2]; exact decide_eq_true (by omega)
  refine ACall.intro rfl Tryz.func69 rfl (Nat.le_of_ble_eq_true rfl) rfl ?_
  refine w_seq (w_reg (s_s rfl rfl (as_alloc0 (id := 0) rfl rfl (by exact (rfl : _ = [_, _, _, _, _, _, _, _, _, _]))) ?_))
  refine s_nil (n_n (w_seq (w_seq (w_reg (s_q rfl rfl (q_mv (.inl rfl) (by first | exact is_box rfl | exact is_hp rfl | exact is_pin rfl | exact is_sc rfl | exact rfl)) ?_)))))
  refine s_o rfl rfl (ao_callH rfl rfl rfl rfl (pf_Len _ kk _ H) fun vln Hvln hvln => ?_)
  obtain ⟨rfl, rfl⟩ := hvln
  refine s_q rfl rfl (q_neq rfl rfl rfl) ?_
  refine s_nil (n_n (w_ifF rfl (w_skip (n_n (w_seq (w_reg (s_q rfl rfl (q_mv (.inl rfl) (by first | exact is_box rfl | exact is_hp rfl | exact is_pin rfl | exact is_sc rfl | exact rfl)) ?_)))))))
  refine s_o rfl rfl (ao_callH rfl rfl rfl rfl (pf_Front _ kk _ H (by simp) (by simp)) fun vfr Hvfr hvfr => ?_)
  obtain ⟨rfl, rfl⟩ := hvfr
  refine s_q rfl rfl (q_nil rfl rfl rfl) ?_
  refine s_q rfl rfl (q_field rfl rfl (by exact rfl)) ?_
  refine s_q rfl rfl (q_loadH rfl rfl (d := .ifc 61 (fNum b1).d) (by exact H.val _ (by simp))) ?_
  refine s_q rfl rfl (q_asr rfl rfl) ?_
  refine s_q rfl rfl (q_call rfl rfl rfl rfl (pf_toNumN _ _ hb1)) ?_
  refine s_q rfl rfl (q_mv (.inl rfl) (by first | exact is_box rfl | exact is_hp rfl | exact is_pin rfl | exact is_sc rfl | exact rfl)) ?_
  refine s_o rfl rfl (ao_callH rfl rfl rfl rfl (pf_Back _ kk _ H (by simp) (by simp)) fun vbk Hvbk hvbk => ?_)
  obtain ⟨rfl, rfl⟩ := hvbk
  refine s_q rfl rfl (q_nil rfl rfl rfl) ?_
  refine s_q rfl rfl (q_field rfl rfl (by exact rfl)) ?_
  refine s_q rfl rfl (q_loadH rfl rfl (d := .ifc 61 (fNum b2).d) (by exact H.val _ (by simp))) ?_
  refine s_q rfl rfl (q_asr rfl rfl) ?_
  refine s_q rfl rfl (q_call rfl rfl rfl rfl (pf_toNumN _ _ hb2)) ?_
  refine s_s rfl rfl (as_alloc0 (id := 1) rfl rfl (by exact (rfl : _ = [_, _, _, _, _, _, _, _, _, _]))) ?_
  refine s_s rfl rfl (as_alloc0 (id := 2) rfl rfl (by exact (rfl : _ = [_, _, _, _, _, _, _, _, _, _]))) ?_
  refine s_u rfl rfl (as_st rfl rfl (by first | exact (rfl : _ = D.agg [_, _, _, _, _, _, _, _, _, _]) | exact rfl) rfl (by exact rfl) (by exact rfl) (by exact Nat.le_of_ble_eq_true rfl) (by exact (rfl : _ = [_, _, _, _, _, _, _, _, _, _]))) ?_
  refine s_u rfl rfl (as_st rfl rfl (by first | exact (rfl : _ = D.agg [_, _, _, _, _, _, _, _, _, _]) | exact rfl) rfl (by exact rfl) (by exact rfl) (by exact Nat.le_of_ble_eq_true rfl) (by exact (rfl : _ = [_, _, _, _, _, _, _, _, _, _]))) ?_
  refine s_nil (n_n (w_seq (w_seq (w_reg (s_q rfl rfl (q_field rfl rfl (by exact rfl)) ?_)))))
  refine s_q rfl rfl (q_load rfl rfl (by exact (rfl : _ = some (D.sc _)))) ?_
  refine s_q rfl rfl (q_neq rfl rfl rfl) ?_
  refine s_q rfl rfl (q_mv (.inl rfl) (is_sc rfl)) ?_
  refine s_q rfl rfl (q_field rfl rfl (by exact rfl)) ?_
  refine s_q rfl rfl (q_load rfl rfl (by exact (rfl : _ = some (D.sc _)))) ?_
  refine s_q rfl rfl (q_neq rfl rfl rfl) ?_
  refine s_q rfl rfl (q_pickF rfl rfl (is_sc rfl)) ?_
  refine s_nil (n_n (w_ifF rfl (w_skip (n_n (w_seq (w_reg (s_q rfl rfl (q_mv (.inr rfl) (is_sc rfl)) ?_)))))))
  refine s_nil (n_n (w_seq (w_seq (w_reg (s_q rfl rfl (q_field rfl rfl (by exact rfl)) ?_)))))
  refine s_q rfl rfl (q_load rfl rfl (by exact (rfl : _ = some (D.sc _)))) ?_
  refine s_q rfl rfl (q_fcmpV rfl rfl rfl rfl z1false) ?_
  refine s_q rfl rfl (q_mv (.inl rfl) (is_sc rfl)) ?_
  refine s_q rfl rfl (q_field rfl rfl (by exact rfl)) ?_
  refine s_q rfl rfl (q_load rfl rfl (by exact (rfl : _ = some (D.sc _)))) ?_
  refine s_q rfl rfl (q_mv (.inl rfl) (is_sc rfl)) ?_
  refine s_q rfl rfl (q_fcmpV rfl rfl rfl rfl m1false) ?_
  refine s_q rfl rfl (q_pickF rfl rfl (is_sc rfl)) ?_
  refine s_q rfl rfl (q_mv (.inl rfl) (is_sc rfl)) ?_
  refine s_q rfl rfl (q_field rfl rfl (by exact rfl)) ?_
  refine s_q rfl rfl (q_load rfl rfl (by exact (rfl : _ = some (D.sc _)))) ?_
  refine s_q rfl rfl (q_fcmpV rfl rfl rfl rfl z2true) ?_
  refine s_q rfl rfl (q_pickF rfl rfl (is_sc rfl)) ?_
  refine s_q rfl rfl (q_mv (.inl rfl) (is_sc rfl)) ?_
  refine s_off rfl rfl ?_
  refine s_off rfl rfl ?_
  refine s_off rfl rfl ?_
  refine s_off rfl rfl ?_
  refine s_q rfl rfl (q_pickT rfl rfl (is_sc rfl)) ?_
  refine s_nil (n_n (w_ifT rfl (w_seq (w_reg (s_q rfl rfl (q_call rfl rfl rfl rfl (pf_newErr _ _)) ?_)))))
  refine s_u rfl rfl (as_st rfl rfl (by first | exact (rfl : _ = D.agg [_, _, _, _, _, _, _, _, _, _]) | exact rfl) rfl (by exact rfl) (by exact rfl) (by exact Nat.le_of_ble_eq_true rfl) (by exact (rfl : _ = [_, _, _, _, _, _, _, _, _, _]))) ?_
  refine s_nil (n_n (w_ret (n_r ?_)))
  -- end 0
  refine r_r (ra_cell (by exact (rfl : _ = some (D.agg [_, _, _, _, _, _, _, _, _, _]))) ra_nil) (by first | exact (rfl : _ = D.agg [_, _, _, _, _, _, _, _, _, _]) | exact rfl) (by exact rfl) (Sub.refl _) ?_
  rfl


-- (*pub-tallysheet/pub/excelize.formulaFuncs).BITLSHIFT
theorem pf_BITLSHIFTE2 {b1 b2 : Nat} (h : Heap) (kf k0 : Nat) (es : List (Nat × D)) (H : IsList h k0 es) (hes : es.map (·.2) = [.ifc 61 (fNum b1).d, .ifc 61 (fNum b2).d]) {n k : Int} (hb1 : Fx b1 (n * (unit : Nat))) (hb2 : Fx b2 (k * (unit : Nat))) (hh : 0 ≤ n) (hh2 : n ≤ 99999999999) (hh3 : k < 0) : ACall Tryz.prog G 45 true [.hp kf 0, .hp k0 0] h (fun ret _ => ret = (fErr [35, 78, 85, 77, 33] [35, 78, 85, 77, 33]).d) := by
  refine ACall.intro rfl Tryz.func45 rfl (Nat.le_of_ble_eq_true rfl) rfl ?_
  refine w_seq (w_reg (s_s rfl rfl (as_alloc0 (id := 0) rfl rfl (by exact (rfl : _ = [_, _, _, _, _, _, _, _, _, _]))) ?_))
  refine s_nil (n_n (w_seq (w_reg (s_q rfl rfl (q_mv (.inl rfl) (by first | exact is_box rfl | exact is_hp rfl | exact is_pin rfl | exact is_sc rfl | exact rfl)) ?_))))
  refine s_q rfl rfl (q_mv (.inl rfl) (by first | exact is_box rfl | exact is_hp rfl | exact is_pin rfl | exact is_sc rfl | exact rfl)) ?_
  refine s_o rfl rfl (ao_callH rfl rfl rfl rfl (pf_bitwiseE2 _ kf k0 es H hes hb1 hb2 hh hh2 hh3) fun vbw Hvbw hvbw => ?_)
  obtain rfl := hvbw
  refine s_u rfl rfl (as_st rfl rfl (by first | exact (rfl : _ = D.agg [_, _, _, _, _, _, _, _, _, _]) | exact rfl) rfl (by exact rfl) (by exact rfl) (by exact Nat.le_of_ble_eq_true rfl) (by exact (rfl : _ = [_, _, _, _, _, _, _, _, _, _]))) ?_
  refine s_nil (n_n (w_ret ?_))
  -- end 0
  refine r_r (ra_cell (by exact (rfl : _ = some (D.agg [_, _, _, _, _, _, _, _, _, _]))) ra_nil) (by first | exact (rfl : _ = D.agg [_, _, _, _, _, _, _, _, _, _]) | exact rfl) (by exact rfl) (Sub.refl _) ?_
  rfl


-- pub-tallysheet/pub/excelize.DoorBITLSHIFT
theorem pf_DoorBITLSHIFTE2 (b1 b2 : Nat) (n k : Int) (hx1 : Fx b1 (n * (unit : Nat))) (hx2 : Fx b2 (k * (unit : Nat))) (hh : 0 ≤ n) (hh2 : n ≤ 99999999999) (hh3 : k < 0) : PF Tryz.prog G 32 [ilst [iNum b1, iNum b2]] (iErr [35, 78, 85, 77, 33]).d := by
  refine PC.intro rfl Tryz.func32 rfl (Nat.le_of_ble_eq_true rfl) rfl ?_
  refine w_seq (w_reg (s_s rfl rfl (as_alloc0 (id := 0) rfl rfl (by exact (rfl : _ = [_, _, _, _]))) ?_))
  refine s_nil (n_n (w_seq (w_reg (s_o rfl rfl (ao_callH rfl rfl rfl rfl (pf_doorFuncs _) fun v3 Hv3 hv3 => ?_)))))
  obtain ⟨kf, rfl⟩ := hv3
  refine s_q rfl rfl (q_mv (.inl rfl) (by first | exact is_im rfl | exact is_gs rfl | exact is_lit rfl | exact is_ms rfl | exact is_sc rfl | exact rfl)) ?_
  refine s_o rfl rfl (ao_callH rfl rfl rfl rfl (pf_innerList _ [iNum b1, iNum b2] (by simp only [List.length_cons, List.length_nil]; omega) (fun v => fNum (clean v.num)) (fun v hv => by simp only [List.mem_cons, List.mem_nil_iff, or_false] at hv; rcases hv with rfl | rfl <;> first | exact pf_innerN b1 _ hx1 | exact pf_innerN b2 _ hx2)) fun v5 Hv5 hv5 => ?_)
  obtain ⟨kl, es, rfl, hL, hes⟩ := hv5
  refine s_o rfl rfl (ao_callH rfl rfl rfl rfl (pf_BITLSHIFTE2 _ kf kl es hL hes (fx_clean hx1) (fx_clean hx2) hh hh2 hh3) fun v6 Hv6 hv6 => ?_)
  obtain rfl := hv6
  refine s_q rfl rfl (q_call rfl rfl rfl rfl (pf_doorE _ _)) ?_
  refine s_u rfl rfl (as_st rfl rfl (by first | exact (rfl : _ = D.agg [_, _, _, _]) | exact rfl) rfl (by exact rfl) (by exact rfl) (by exact Nat.le_of_ble_eq_true rfl) (by exact (rfl : _ = [_, _, _, _]))) ?_
  refine s_nil (n_n (w_ret ?_))
  -- end 0
  refine r_r (ra_cell (by exact (rfl : _ = some (D.agg [_, _, _, _]))) ra_nil) (by first | exact (rfl : _ = D.agg [_, _, _, _]) | exact rfl) (by exact rfl) sub_no ?_
  rfl


-- pub-tallysheet/impl.BITLSHIFT
theorem pf_ImplBITLSHIFTE2 (b1 b2 : Nat) (n k : Int) (hx1 : Fx b1 (n * (unit : Nat))) (hx2 : Fx b2 (k * (unit : Nat))) (hh : 0 ≤ n) (hh2 : n ≤ 99999999999) (hh3 : k < 0) : PF Tryz.prog G 16 [ilst [iNum b1, iNum b2]] (iErr [35, 78, 85, 77, 33]).d := by
  refine PC.intro rfl Tryz.func16 rfl (Nat.le_of_ble_eq_true rfl) rfl ?_
  refine w_seq (w_reg (s_s rfl rfl (as_alloc0 (id := 0) rfl rfl (by exact (rfl : _ = [_, _, _, _]))) ?_))
  refine s_nil (n_n (w_seq (w_reg (s_q rfl rfl (q_mv (.inl rfl) (by first | exact is_im rfl | exact is_gs rfl | exact is_lit rfl | exact is_ms rfl | exact is_sc rfl | exact rfl)) ?_))))
  refine s_q rfl rfl (q_call rfl rfl rfl rfl (pf_in [iNum b1, iNum b2] (by simp only [List.length_cons, List.length_nil]; omega) (by intro v hv; simp only [List.mem_cons, List.mem_nil_iff, or_false] at hv; rcases hv with rfl | rfl <;> rfl))) ?_
  refine s_q rfl rfl (q_call rfl rfl rfl rfl (pf_DoorBITLSHIFTE2 b1 b2 n k hx1 hx2 hh hh2 hh3)) ?_
  refine s_q rfl rfl (q_call rfl rfl rfl rfl (pf_out _ _ _)) ?_
  refine s_u rfl rfl (as_st rfl rfl (by first | exact (rfl : _ = D.agg [_, _, _, _]) | exact rfl) rfl (by exact rfl) (by exact rfl) (by exact Nat.le_of_ble_eq_true rfl) (by exact (rfl : _ = [_, _, _, _]))) ?_
  refine s_nil (n_n (w_ret ?_))
  -- end 0
  refine r_r (ra_cell (by exact (rfl : _ = some (D.agg [_, _, _, _]))) ra_nil) (by first | exact (rfl : _ = D.agg [_, _, _, _]) | exact rfl) (by exact rfl) sub_no ?_
  rfl


-- (*pub-tallysheet/pub/excelize.formulaFuncs).bitwise
theorem pf_bitwise {b1 b2 : Nat} (h : Heap) (kf kk : Nat) (es : List (Nat × D)) (H : IsList h kk es) (hes : es.map (·.2) = [.ifc 61 (fNum b1).d, .ifc 61 (fNum b2).d]) {n k : Int} (hb1 : Fx b1 (n * (unit : Nat))) (hb2 : Fx b2 (k * (unit : Nat))) (hh : 0 ≤ n) (hh2 : n ≤ 1048576) (hk : 0 ≤ k) (hk2 : k ≤ 20) : ACall Tryz.prog G 69 true [.hp kf 0, st [66, 73, 84, 76, 83, 72, 73, 70, 84], .hp kk 0] h (fun ret _ => ret = (fNum (clean (FloatKind.f64.nearest (shlI n k)))).d) := by
  obtain ⟨e1, e2, rfl⟩ : ∃ e1 e2, es = [(e1, .ifc 61 (fNum b1).d), (e2, .ifc 61 (fNum b2).d)] := by
    cases es with
    | nil => simp at hes
    | cons p es =>
      cases es with
      | nil => simp at hes
      | cons q es =>
        cases es with
        | nil => obtain ⟨e1, x⟩ := p; obtain ⟨e2, y⟩ := q; simp at hes; obtain ⟨rfl, rfl⟩ := hes; exact ⟨e1, e2, rfl⟩
        | cons _ _ => simp at hes
  have hc1 := fx_clean hb1
  have hc2 := fx_clean hb2
  have z1false : fcmp .lss .f64 (clean b1) 0 = false := by rw [fcmp_lss0 hc1]; exact decide_eq_false (by omega)
  have m1false : fcmp .gtr .f64 (clean b1) 4823355200913801184 = false := by rw [fcmp_gtrM hc1]; exact decide_eq_false (by omega)
  have z2false : fcmp .lss .f64 (clean b2) 0 = false := by rw [fcmp_lss0 hc2]; exact decide_eq_false (by omega)
  have m2false : fcmp .gtr .f64 (clean b2) 4823355200913801184 = false := by rw [fcmp_gtrM hc2]; exact decide_eq_false (by omega)
  refine ACall.intro rfl Tryz.func69 rfl (Nat.le_of_ble_eq_true rfl) rfl ?_
  refine w_seq (w_reg (s_s rfl rfl (as_alloc0 (id := 0) rfl rfl (by exact (rfl : _ = [_, _, _, _, _, _, _, _, _, _]))) ?_))
  refine s_nil (n_n (w_seq (w_seq (w_reg (s_q rfl rfl (q_mv (.inl rfl) (by first | exact is_box rfl | exact is_hp rfl | exact is_pin rfl | exact is_sc rfl | exact rfl)) ?_)))))
  refine s_o rfl rfl (ao_callH rfl rfl rfl rfl (pf_Len _ kk _ H) fun vln Hvln hvln => ?_)
  obtain ⟨rfl, rfl⟩ := hvln
  refine s_q rfl rfl (q_neq rfl rfl rfl) ?_
  refine s_nil (n_n (w_ifF rfl (w_skip (n_n (w_seq (w_reg (s_q rfl rfl (q_mv (.inl rfl) (by first | exact is_box rfl | exact is_hp rfl | exact is_pin rfl | exact is_sc rfl | exact rfl)) ?_)))))))
  refine s_o rfl rfl (ao_callH rfl rfl rfl rfl (pf_Front _ kk _ H (by simp) (by simp)) fun vfr Hvfr hvfr => ?_)
  obtain ⟨rfl, rfl⟩ := hvfr
  refine s_q rfl rfl (q_nil rfl rfl rfl) ?_
  refine s_q rfl rfl (q_field rfl rfl (by exact rfl)) ?_
  refine s_q rfl rfl (q_loadH rfl rfl (d := .ifc 61 (fNum b1).d) (by exact H.val _ (by simp))) ?_
  refine s_q rfl rfl (q_asr rfl rfl) ?_
  refine s_q rfl rfl (q_call rfl rfl rfl rfl (pf_toNumN _ _ hb1)) ?_
  refine s_q rfl rfl (q_mv (.inl rfl) (by first | exact is_box rfl | exact is_hp rfl | exact is_pin rfl | exact is_sc rfl | exact rfl)) ?_
  refine s_o rfl rfl (ao_callH rfl rfl rfl rfl (pf_Back _ kk _ H (by simp) (by simp)) fun vbk Hvbk hvbk => ?_)
  obtain ⟨rfl, rfl⟩ := hvbk
  refine s_q rfl rfl (q_nil rfl rfl rfl) ?_
  refine s_q rfl rfl (q_field rfl rfl (by exact rfl)) ?_
  refine s_q rfl rfl (q_loadH rfl rfl (d := .ifc 61 (fNum b2).d) (by exact H.val _ (by simp))) ?_
  refine s_q rfl rfl (q_asr rfl rfl) ?_
  refine s_q rfl rfl (q_call rfl rfl rfl rfl (pf_toNumN _ _ hb2)) ?_
  refine s_s rfl rfl (as_alloc0 (id := 1) rfl rfl (by exact (rfl : _ = [_, _, _, _, _, _, _, _, _, _]))) ?_
  refine s_s rfl rfl (as_alloc0 (id := 2) rfl rfl (by exact (rfl : _ = [_, _, _, _, _, _, _, _, _, _]))) ?_
  refine s_u rfl rfl (as_st rfl rfl (by first | exact (rfl : _ = D.agg [_, _, _, _, _, _, _, _, _, _]) | exact rfl) rfl (by exact rfl) (by exact rfl) (by exact Nat.le_of_ble_eq_true rfl) (by exact (rfl : _ = [_, _, _, _, _, _, _, _, _, _]))) ?_
  refine s_u rfl rfl (as_st rfl rfl (by first | exact (rfl : _ = D.agg [_, _, _, _, _, _, _, _, _, _]) | exact rfl) rfl (by exact rfl) (by exact rfl) (by exact Nat.le_of_ble_eq_true rfl) (by exact (rfl : _ = [_, _, _, _, _, _, _, _, _, _]))) ?_
  refine s_nil (n_n (w_seq (w_seq (w_reg (s_q rfl rfl (q_field rfl rfl (by exact rfl)) ?_)))))
  refine s_q rfl rfl (q_load rfl rfl (by exact (rfl : _ = some (D.sc _)))) ?_
  refine s_q rfl rfl (q_neq rfl rfl rfl) ?_
  refine s_q rfl rfl (q_mv (.inl rfl) (is_sc rfl)) ?_
  refine s_q rfl rfl (q_field rfl rfl (by exact rfl)) ?_
  refine s_q rfl rfl (q_load rfl rfl (by exact (rfl : _ = some (D.sc _)))) ?_
  refine s_q rfl rfl (q_neq rfl rfl rfl) ?_
  refine s_q rfl rfl (q_pickF rfl rfl (is_sc rfl)) ?_
  refine s_nil (n_n (w_ifF rfl (w_skip (n_n (w_seq (w_reg (s_q rfl rfl (q_mv (.inr rfl) (is_sc rfl)) ?_)))))))
  refine s_nil (n_n (w_seq (w_seq (w_reg (s_q rfl rfl (q_field rfl rfl (by exact rfl)) ?_)))))
  refine s_q rfl rfl (q_load rfl rfl (by exact (rfl : _ = some (D.sc _)))) ?_
  refine s_q rfl rfl (q_fcmpV rfl rfl rfl rfl z1false) ?_
  refine s_q rfl rfl (q_mv (.inl rfl) (is_sc rfl)) ?_
  refine s_q rfl rfl (q_field rfl rfl (by exact rfl)) ?_
  refine s_q rfl rfl (q_load rfl rfl (by exact (rfl : _ = some (D.sc _)))) ?_
  refine s_q rfl rfl (q_mv (.inl rfl) (is_sc rfl)) ?_
  refine s_q rfl rfl (q_fcmpV rfl rfl rfl rfl m1false) ?_
  refine s_q rfl rfl (q_pickF rfl rfl (is_sc rfl)) ?_
  refine s_q rfl rfl (q_mv (.inl rfl) (is_sc rfl)) ?_
  refine s_q rfl rfl (q_field rfl rfl (by exact rfl)) ?_
  refine s_q rfl rfl (q_load rfl rfl (by exact (rfl : _ = some (D.sc _)))) ?_
  refine s_q rfl rfl (q_fcmpV rfl rfl rfl rfl z2false) ?_
  refine s_q rfl rfl (q_pickF rfl rfl (is_sc rfl)) ?_
  refine s_q rfl rfl (q_mv (.inl rfl) (is_sc rfl)) ?_
  refine s_q rfl rfl (q_field rfl rfl (by exact rfl)) ?_
  refine s_q rfl rfl (q_load rfl rfl (by exact (rfl : _ = some (D.sc _)))) ?_
  refine s_q rfl rfl (q_mv (.inl rfl) (is_sc rfl)) ?_
  refine s_q rfl rfl (q_fcmpV rfl rfl rfl rfl m2false) ?_
  refine s_q rfl rfl (q_pickF rfl rfl (is_sc rfl)) ?_
  refine s_nil (n_n (w_ifF rfl (w_skip (n_n (w_seq (w_reg (s_s rfl rfl (as_makeMap (id := 3) rfl rfl) ?_)))))))
  refine s_u rfl rfl (as_insert rfl rfl rfl (by first | exact is_fn rfl | exact is_sc rfl) rfl rfl rfl (by exact rfl)) ?_
  refine s_u rfl rfl (as_insert rfl rfl rfl (by first | exact is_fn rfl | exact is_sc rfl) rfl rfl rfl (by exact rfl)) ?_
  refine s_u rfl rfl (as_insert rfl rfl rfl (by first | exact is_fn rfl | exact is_sc rfl) rfl rfl rfl (by exact rfl)) ?_
  refine s_u rfl rfl (as_insert rfl rfl rfl (by first | exact is_fn rfl | exact is_sc rfl) rfl rfl rfl (by exact rfl)) ?_
  refine s_u rfl rfl (as_insert rfl rfl rfl (by first | exact is_fn rfl | exact is_sc rfl) rfl rfl rfl (by exact rfl)) ?_
  refine s_q rfl rfl (q_mv (.inl rfl) (by first | exact is_sc rfl | exact rfl)) ?_
  refine s_q rfl rfl (q_mv (.inr rfl) (by first | exact is_sc rfl | exact rfl)) ?_
  refine s_nil (n_n (w_seq (w_reg (s_q rfl rfl (q_mv (.inl rfl) (by first | exact is_sc rfl | exact rfl)) ?_))))
  refine s_q rfl rfl (q_mv (.inl rfl) (is_sc rfl)) ?_
  refine s_q rfl rfl (q_mapGet rfl rfl rfl rfl rfl (by exact (rfl : _ = some (_, _)))) ?_
  refine s_q rfl rfl (q_mv (.inr rfl) (by first | exact is_fn rfl | exact rfl)) ?_
  refine s_nil (n_n (w_seq (w_reg (s_q rfl rfl (q_mv (.inl rfl) (by first | exact is_fn rfl | exact rfl)) ?_))))
  refine s_q rfl rfl (q_field rfl rfl (by exact rfl)) ?_
  refine s_q rfl rfl (q_load rfl rfl (by exact (rfl : _ = some (D.sc _)))) ?_
  refine s_q rfl rfl (q_cfi rfl rfl (fx_toInt hc1 .i64 (by simp only [IntKind.min, IntKind.max, IntKind.signed, IntKind.bits]; omega))) ?_
  refine s_q rfl rfl (q_field rfl rfl (by exact rfl)) ?_
  refine s_q rfl rfl (q_load rfl rfl (by exact (rfl : _ = some (D.sc _)))) ?_
  refine s_q rfl rfl (q_cfi rfl rfl (fx_toInt hc2 .i64 (by simp only [IntKind.min, IntKind.max, IntKind.signed, IntKind.bits]; omega))) ?_
  refine s_q rfl rfl (q_call rfl rfl rfl rfl (pf_bitop _ _ hk hk2)) ?_
  refine s_q rfl rfl (q_cif rfl rfl) ?_
  refine s_q rfl rfl (q_call rfl rfl rfl rfl (pf_newNum _ _ (fv_nearest (n := shlI n k) (by have := shlI_spec (n := n) (k := k) hh hh2 hk hk2; omega)))) ?_
  refine s_u rfl rfl (as_st rfl rfl (by first | exact (rfl : _ = D.agg [_, _, _, _, _, _, _, _, _, _]) | exact rfl) rfl (by exact rfl) (by exact rfl) (by exact Nat.le_of_ble_eq_true rfl) (by exact (rfl : _ = [_, _, _, _, _, _, _, _, _, _]))) ?_
  refine s_nil (n_n (w_ret ?_))
  -- end 0
  refine r_r (ra_cell (by exact (rfl : _ = some (D.agg [_, _, _, _, _, _, _, _, _, _]))) ra_nil) (by first | exact (rfl : _ = D.agg [_, _, _, _, _, _, _, _, _, _]) | exact rfl) (by exact rfl) (Sub.refl _) ?_
  rfl


-- (*pub-tallysheet/pub/excelize.formulaFuncs).BITLSHIFT
theorem pf_BITLSHIFT {b1 b2 : Nat} (h : Heap) (kf k0 : Nat) (es : List (Nat × D)) (H : IsList h k0 es) (hes : es.map (·.2) = [.ifc 61 (fNum b1).d, .ifc 61 (fNum b2).d]) {n k : Int} (hb1 : Fx b1 (n * (unit : Nat))) (hb2 : Fx b2 (k * (unit : Nat))) (hh : 0 ≤ n) (hh2 : n ≤ 1048576) (hk : 0 ≤ k) (hk2 : k ≤ 20) : ACall Tryz.prog G 45 true [.hp kf 0, .hp k0 0] h (fun ret _ => ret = (fNum (clean (FloatKind.f64.nearest (shlI n k)))).d) := by
  refine ACall.intro rfl Tryz.func45 rfl (Nat.le_of_ble_eq_true rfl) rfl ?_
  refine w_seq (w_reg (s_s rfl rfl (as_alloc0 (id := 0) rfl rfl (by exact (rfl : _ = [_, _, _, _, _, _, _, _, _, _]))) ?_))
  refine s_nil (n_n (w_seq (w_reg (s_q rfl rfl (q_mv (.inl rfl) (by first | exact is_box rfl | exact is_hp rfl | exact is_pin rfl | exact is_sc rfl | exact rfl)) ?_))))
  refine s_q rfl rfl (q_mv (.inl rfl) (by first | exact is_box rfl | exact is_hp rfl | exact is_pin rfl | exact is_sc rfl | exact rfl)) ?_
  refine s_o rfl rfl (ao_callH rfl rfl rfl rfl (pf_bitwise _ kf k0 es H hes hb1 hb2 hh hh2 hk hk2) fun vbw Hvbw hvbw => ?_)
  obtain rfl := hvbw
  refine s_u rfl rfl (as_st rfl rfl (by first | exact (rfl : _ = D.agg [_, _, _, _, _, _, _, _, _, _]) | exact rfl) rfl (by exact rfl) (by exact rfl) (by exact Nat.le_of_ble_eq_true rfl) (by exact (rfl : _ = [_, _, _, _, _, _, _, _, _, _]))) ?_
  refine s_nil (n_n (w_ret ?_))
  -- end 0
  refine r_r (ra_cell (by exact (rfl : _ = some (D.agg [_, _, _, _, _, _, _, _, _, _]))) ra_nil) (by first | exact (rfl : _ = D.agg [_, _, _, _, _, _, _, _, _, _]) | exact rfl) (by exact rfl) (Sub.refl _) ?_
  rfl


-- pub-tallysheet/pub/excelize.DoorBITLSHIFT
theorem pf_DoorBITLSHIFT (b1 b2 : Nat) (n k : Int) (hx1 : Fx b1 (n * (unit : Nat))) (hx2 : Fx b2 (k * (unit : Nat))) (hh : 0 ≤ n) (hh2 : n ≤ 1048576) (hk : 0 ≤ k) (hk2 : k ≤ 20) : PF Tryz.prog G 32 [ilst [iNum b1, iNum b2]] (iNum (clean (FloatKind.f64.nearest (shlI n k)))).d := by
  refine PC.intro rfl Tryz.func32 rfl (Nat.le_of_ble_eq_true rfl) rfl ?_
  refine w_seq (w_reg (s_s rfl rfl (as_alloc0 (id := 0) rfl rfl (by exact (rfl : _ = [_, _, _, _]))) ?_))
  refine s_nil (n_n (w_seq (w_reg (s_o rfl rfl (ao_callH rfl rfl rfl rfl (pf_doorFuncs _) fun v3 Hv3 hv3 => ?_)))))
  obtain ⟨kf, rfl⟩ := hv3
  refine s_q rfl rfl (q_mv (.inl rfl) (by first | exact is_im rfl | exact is_gs rfl | exact is_lit rfl | exact is_ms rfl | exact is_sc rfl | exact rfl)) ?_
  refine s_o rfl rfl (ao_callH rfl rfl rfl rfl (pf_innerList _ [iNum b1, iNum b2] (by simp only [List.length_cons, List.length_nil]; omega) (fun v => fNum (clean v.num)) (fun v hv => by simp only [List.mem_cons, List.mem_nil_iff, or_false] at hv; rcases hv with rfl | rfl <;> first | exact pf_innerN b1 _ hx1 | exact pf_innerN b2 _ hx2)) fun v5 Hv5 hv5 => ?_)
  obtain ⟨kl, es, rfl, hL, hes⟩ := hv5
  refine s_o rfl rfl (ao_callH rfl rfl rfl rfl (pf_BITLSHIFT _ kf kl es hL hes (fx_clean hx1) (fx_clean hx2) hh hh2 hk hk2) fun v6 Hv6 hv6 => ?_)
  obtain rfl := hv6
  refine s_q rfl rfl (q_call rfl rfl rfl rfl (pf_doorN _)) ?_
  refine s_u rfl rfl (as_st rfl rfl (by first | exact (rfl : _ = D.agg [_, _, _, _]) | exact rfl) rfl (by exact rfl) (by exact rfl) (by exact Nat.le_of_ble_eq_true rfl) (by exact (rfl : _ = [_, _, _, _]))) ?_
  refine s_nil (n_n (w_ret ?_))
  -- end 0
  refine r_r (ra_cell (by exact (rfl : _ = some (D.agg [_, _, _, _]))) ra_nil) (by first | exact (rfl : _ = D.agg [_, _, _, _]) | exact rfl) (by exact rfl) sub_no ?_
  rfl


-- pub-tallysheet/impl.BITLSHIFT
theorem pf_ImplBITLSHIFT (b1 b2 : Nat) (n k : Int) (hx1 : Fx b1 (n * (unit : Nat))) (hx2 : Fx b2 (k * (unit : Nat))) (hh : 0 ≤ n) (hh2 : n ≤ 1048576) (hk : 0 ≤ k) (hk2 : k ≤ 20) : PF Tryz.prog G 16 [ilst [iNum b1, iNum b2]] (iNum (clean (FloatKind.f64.nearest (shlI n k)))).d := by
  refine PC.intro rfl Tryz.func16 rfl (Nat.le_of_ble_eq_true rfl) rfl ?_
  refine w_seq (w_reg (s_s rfl rfl (as_alloc0 (id := 0) rfl rfl (by exact (rfl : _ = [_, _, _, _]))) ?_))
  refine s_nil (n_n (w_seq (w_reg (s_q rfl rfl (q_mv (.inl rfl) (by first | exact is_im rfl | exact is_gs rfl | exact is_lit rfl | exact is_ms rfl | exact is_sc rfl | exact rfl)) ?_))))
  refine s_q rfl rfl (q_call rfl rfl rfl rfl (pf_in [iNum b1, iNum b2] (by simp only [List.length_cons, List.length_nil]; omega) (by intro v hv; simp only [List.mem_cons, List.mem_nil_iff, or_false] at hv; rcases hv with rfl | rfl <;> rfl))) ?_
  refine s_q rfl rfl (q_call rfl rfl rfl rfl (pf_DoorBITLSHIFT b1 b2 n k hx1 hx2 hh hh2 hk hk2)) ?_
  refine s_q rfl rfl (q_call rfl rfl rfl rfl (pf_out _ _ _)) ?_
  refine s_u rfl rfl (as_st rfl rfl (by first | exact (rfl : _ = D.agg [_, _, _, _]) | exact rfl) rfl (by exact rfl) (by exact rfl) (by exact Nat.le_of_ble_eq_true rfl) (by exact (rfl : _ = [_, _, _, _]))) ?_
  refine s_nil (n_n (w_ret ?_))
  -- end 0
  refine r_r (ra_cell (by exact (rfl : _ = some (D.agg [_, _, _, _]))) ra_nil) (by first | exact (rfl : _ = D.agg [_, _, _, _]) | exact rfl) (by exact rfl) sub_no ?_
  rfl


theorem impl_BITLSHIFTE {b1 b2 : Nat} {n k : Int} (hbb1 : b1 < 2 ^ 64) (hbb2 : b2 < 2 ^ 64) (hx1 : Fx b1 (n * (unit : Nat))) (hx2 : Fx b2 (k * (unit : Nat))) (hb : n < 0) : PF Tryz.prog G 16 [ilst [iNum b1, iNum b2]] (iErr [35, 78, 85, 77, 33]).d :=
  pf_ImplBITLSHIFTE1 b1 b2 n k hx1 hx2 hb
theorem impl_BITLSHIFT {b1 b2 : Nat} {n k : Int} (hbb1 : b1 < 2 ^ 64) (hbb2 : b2 < 2 ^ 64) (hx1 : Fx b1 (n * (unit : Nat))) (hx2 : Fx b2 (k * (unit : Nat))) (h1 : 0 ≤ n) (h2 : n ≤ 1048576) (h3 : 0 ≤ k) (h4 : k ≤ 20) :
    ∃ r, Fx r (shlI n k * (unit : Nat)) ∧ PF Tryz.prog G 16 [ilst [iNum b1, iNum b2]] (iNum r).d :=
  ⟨_, fx_clean (fv_nearest (n := shlI n k) (by have := shlI_spec (n := n) (k := k) h1 h2 h3 h4; omega)), pf_ImplBITLSHIFT b1 b2 n k hx1 hx2 h1 h2 h3 h4⟩

end Go.Proofs.YtjobmjfdlkjaoaaGreatDoor.Zz
