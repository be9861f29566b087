/- Walks of the functions, printed by program: each theorem says what one function answers. -/
import Derived.Test.YtjobmjfdlkjaoaaGreatDoorZX1
namespace Go.Proofs.YtjobmjfdlkjaoaaGreatDoor.Zz
open Go.Abs
set_option maxRecDepth 100000
set_option linter.unusedVariables false
set_option linter.unusedSimpArgs false
set_option maxHeartbeats 4000000
variable {G : Nat → D}

-- (*pub-tallysheet/pub/excelize.formulaFuncs).EVEN
theorem pf_EVENZ {b : Nat} (h : Heap) (kf k : Nat) (es : List (Nat × D)) (H : IsList h k es) (hes : es.map (·.2) = [.ifc 61 (fNum b).d]) {x : Int} (hbb : b < 2 ^ 64) (hb : Fx b x) (q r m : Nat) (y : Int) (hq : floatBits .quo .f64 (clean b) 4611686018427387904 = some q) (hqy : Fx q y) (hr : floatBits .sub .f64 q (truncF q) = some r) (hrb : r < 2 ^ 64) (hm : floatBits .mul .f64 (truncF q) 4611686018427387904 = some m) {z : Int} (hz : Fx m z) (hf : fcmp .neq .f64 (q / 2 ^ 63 * 2 ^ 63 + r % 2 ^ 63) 0 = false) : ACall Tryz.prog G 42 true [.hp kf 0, .hp k 0] h (fun ret _ => ret = (fNum (clean m)).d) := by
  obtain ⟨e, rfl⟩ : ∃ e, es = [(e, .ifc 61 (fNum b).d)] := by
    cases es with
    | nil => simp at hes
    | cons p es =>
      cases es with
      | nil => obtain ⟨e, x⟩ := p; simp at hes; subst hes; exact ⟨e, rfl⟩
      | cons _ _ => simp at hes
  have hs0 := pf_Signbit (G := G) (clean b) (clean_lt hbb)
  refine ACall.intro rfl Tryz.func42 rfl (Nat.le_of_ble_eq_true rfl) rfl ?_
  refine w_seq (w_reg (s_s rfl rfl (as_alloc0 (id := 0) rfl rfl (by exact (rfl : _ = [_, _, _, _, _, _, _, _, _, _]))) ?_))
  refine s_nil (n_n (w_seq (w_seq (w_reg (s_q rfl rfl (q_mv (.inl rfl) (by first | exact is_box rfl | exact is_hp rfl | exact is_pin rfl | exact is_sc rfl | exact rfl)) ?_)))))
  refine s_o rfl rfl (ao_callH rfl rfl rfl rfl (pf_Len _ k _ H) fun vln Hvln hvln => ?_)
  obtain ⟨rfl, rfl⟩ := hvln
  refine s_q rfl rfl (q_neq rfl rfl rfl) ?_
  refine s_nil (n_n (w_ifF rfl (w_skip (n_n (w_seq (w_reg (s_q rfl rfl (q_mv (.inl rfl) (by first | exact is_box rfl | exact is_hp rfl | exact is_pin rfl | exact is_sc rfl | exact rfl)) ?_)))))))
  refine s_o rfl rfl (ao_callH rfl rfl rfl rfl (pf_Front _ k _ H (by simp) (by simp)) fun vfr Hvfr hvfr => ?_)
  obtain ⟨rfl, rfl⟩ := hvfr
  refine s_q rfl rfl (q_nil rfl rfl rfl) ?_
  refine s_q rfl rfl (q_field rfl rfl (by exact rfl)) ?_
  refine s_q rfl rfl (q_loadH rfl rfl (d := .ifc 61 (fNum b).d) (by exact H.val _ (List.mem_cons_self))) ?_
  refine s_q rfl rfl (q_asr rfl rfl) ?_
  refine s_q rfl rfl (q_call rfl rfl rfl rfl (pf_toNumN _ _ hb)) ?_
  refine s_s rfl rfl (as_alloc0 (id := 1) rfl rfl (by exact (rfl : _ = [_, _, _, _, _, _, _, _, _, _]))) ?_
  refine s_u rfl rfl (as_st rfl rfl (by first | exact (rfl : _ = D.agg [_, _, _, _, _, _, _, _, _, _]) | exact rfl) rfl (by exact rfl) (by exact rfl) (by exact Nat.le_of_ble_eq_true rfl) (by exact (rfl : _ = [_, _, _, _, _, _, _, _, _, _]))) ?_
  refine s_nil (n_n (w_seq (w_seq (w_reg (s_q rfl rfl (q_field rfl rfl (by exact rfl)) ?_)))))
  refine s_q rfl rfl (q_load rfl rfl (by exact (rfl : _ = some (D.sc _)))) ?_
  refine s_q rfl rfl (q_eql rfl rfl rfl) ?_
  refine s_nil (n_n (w_ifF rfl (w_skip (n_n (w_seq (w_reg (s_q rfl rfl (q_field rfl rfl (by exact rfl)) ?_)))))))
  refine s_q rfl rfl (q_load rfl rfl (by exact (rfl : _ = some (D.sc _)))) ?_
  refine s_q rfl rfl (q_call rfl rfl rfl rfl hs0) ?_
  refine s_q rfl rfl (q_mv (.inr rfl) (is_sc rfl)) ?_
  refine s_nil (n_n (w_seq (w_reg (s_q rfl rfl (q_field rfl rfl (by exact rfl)) ?_))))
  refine s_q rfl rfl (q_load rfl rfl (by exact (rfl : _ = some (D.sc _)))) ?_
  refine s_q rfl rfl (q_farith rfl rfl rfl hq) ?_
  refine s_q rfl rfl (q_call rfl rfl rfl rfl (pf_Modf _ r _ (bits_lt hq) hqy hr hrb)) ?_
  refine s_q rfl rfl (q_mv (.inl rfl) (by first | exact (rfl : _ = D.tup [_, _]) | exact rfl)) ?_
  refine s_q rfl rfl (q_extract rfl rfl rfl) ?_
  refine s_q rfl rfl (q_extract rfl rfl rfl) ?_
  refine s_q rfl rfl (q_mv (.inr rfl) (is_sc rfl)) ?_
  refine s_q rfl rfl (q_mv (.inr rfl) (is_sc rfl)) ?_
  refine s_nil (n_n (w_seq (w_reg (s_q rfl rfl (q_mv (.inl rfl) (is_sc rfl)) ?_))))
  refine s_q rfl rfl (q_farith rfl rfl rfl hm) ?_
  refine s_q rfl rfl (q_mv (.inr rfl) (is_sc rfl)) ?_
  refine s_nil (n_n (w_seq (w_seq (w_reg (s_q rfl rfl (q_mv (.inl rfl) (is_sc rfl)) ?_)))))
  refine s_q rfl rfl (q_fcmpV rfl rfl rfl rfl hf) ?_
  refine s_nil (n_n (w_ifF rfl (w_skip (n_n (w_seq (w_reg (s_q rfl rfl (q_mv (.inl rfl) (is_sc rfl)) ?_)))))))
  refine s_q rfl rfl (q_call rfl rfl rfl rfl (pf_newNum _ _ hz)) ?_
  refine s_u rfl rfl (as_st rfl rfl (by first | exact (rfl : _ = D.agg [_, _, _, _, _, _, _, _, _, _]) | exact rfl) rfl (by exact rfl) (by exact rfl) (by exact Nat.le_of_ble_eq_true rfl) (by exact (rfl : _ = [_, _, _, _, _, _, _, _, _, _]))) ?_
  refine s_nil (n_n (w_ret ?_))
  -- end 0
  refine r_r (ra_cell (by exact (rfl : _ = some (D.agg [_, _, _, _, _, _, _, _, _, _]))) ra_nil) (by first | exact (rfl : _ = D.agg [_, _, _, _, _, _, _, _, _, _]) | exact rfl) (by exact rfl) (Sub.refl _) ?_
  rfl


-- (*pub-tallysheet/pub/excelize.formulaFuncs).EVEN
theorem pf_EVENP {b : Nat} (h : Heap) (kf k : Nat) (es : List (Nat × D)) (H : IsList h k es) (hes : es.map (·.2) = [.ifc 61 (fNum b).d]) {x : Int} (hbb : b < 2 ^ 64) (hb : Fx b x) (q r m : Nat) (y : Int) (hq : floatBits .quo .f64 (clean b) 4611686018427387904 = some q) (hqy : Fx q y) (hr : floatBits .sub .f64 q (truncF q) = some r) (hrb : r < 2 ^ 64) (hm : floatBits .mul .f64 (truncF q) 4611686018427387904 = some m) {v : Nat} {z : Int} (hv : floatBits .add .f64 m 4611686018427387904 = some v) (hz : Fx v z) (hf : fcmp .neq .f64 (q / 2 ^ 63 * 2 ^ 63 + r % 2 ^ 63) 0 = true) (hs : decide (clean b / 2 ^ 63 = 1) = false) : ACall Tryz.prog G 42 true [.hp kf 0, .hp k 0] h (fun ret _ => ret = (fNum (clean v)).d) := by
  obtain ⟨e, rfl⟩ : ∃ e, es = [(e, .ifc 61 (fNum b).d)] := by
    cases es with
    | nil => simp at hes
    | cons p es =>
      cases es with
      | nil => obtain ⟨e, x⟩ := p; simp at hes; subst hes; exact ⟨e, rfl⟩
      | cons _ _ => simp at hes
  have hs0 := pf_Signbit (G := G) (clean b) (clean_lt hbb)
  rw [hs] at hs0
  refine ACall.intro rfl Tryz.func42 rfl (Nat.le_of_ble_eq_true rfl) rfl ?_
  refine w_seq (w_reg (s_s rfl rfl (as_alloc0 (id := 0) rfl rfl (by exact (rfl : _ = [_, _, _, _, _, _, _, _, _, _]))) ?_))
  refine s_nil (n_n (w_seq (w_seq (w_reg (s_q rfl rfl (q_mv (.inl rfl) (by first | exact is_box rfl | exact is_hp rfl | exact is_pin rfl | exact is_sc rfl | exact rfl)) ?_)))))
  refine s_o rfl rfl (ao_callH rfl rfl rfl rfl (pf_Len _ k _ H) fun vln Hvln hvln => ?_)
  obtain ⟨rfl, rfl⟩ := hvln
  refine s_q rfl rfl (q_neq rfl rfl rfl) ?_
  refine s_nil (n_n (w_ifF rfl (w_skip (n_n (w_seq (w_reg (s_q rfl rfl (q_mv (.inl rfl) (by first | exact is_box rfl | exact is_hp rfl | exact is_pin rfl | exact is_sc rfl | exact rfl)) ?_)))))))
  refine s_o rfl rfl (ao_callH rfl rfl rfl rfl (pf_Front _ k _ H (by simp) (by simp)) fun vfr Hvfr hvfr => ?_)
  obtain ⟨rfl, rfl⟩ := hvfr
  refine s_q rfl rfl (q_nil rfl rfl rfl) ?_
  refine s_q rfl rfl (q_field rfl rfl (by exact rfl)) ?_
  refine s_q rfl rfl (q_loadH rfl rfl (d := .ifc 61 (fNum b).d) (by exact H.val _ (List.mem_cons_self))) ?_
  refine s_q rfl rfl (q_asr rfl rfl) ?_
  refine s_q rfl rfl (q_call rfl rfl rfl rfl (pf_toNumN _ _ hb)) ?_
  refine s_s rfl rfl (as_alloc0 (id := 1) rfl rfl (by exact (rfl : _ = [_, _, _, _, _, _, _, _, _, _]))) ?_
  refine s_u rfl rfl (as_st rfl rfl (by first | exact (rfl : _ = D.agg [_, _, _, _, _, _, _, _, _, _]) | exact rfl) rfl (by exact rfl) (by exact rfl) (by exact Nat.le_of_ble_eq_true rfl) (by exact (rfl : _ = [_, _, _, _, _, _, _, _, _, _]))) ?_
  refine s_nil (n_n (w_seq (w_seq (w_reg (s_q rfl rfl (q_field rfl rfl (by exact rfl)) ?_)))))
  refine s_q rfl rfl (q_load rfl rfl (by exact (rfl : _ = some (D.sc _)))) ?_
  refine s_q rfl rfl (q_eql rfl rfl rfl) ?_
  refine s_nil (n_n (w_ifF rfl (w_skip (n_n (w_seq (w_reg (s_q rfl rfl (q_field rfl rfl (by exact rfl)) ?_)))))))
  refine s_q rfl rfl (q_load rfl rfl (by exact (rfl : _ = some (D.sc _)))) ?_
  refine s_q rfl rfl (q_call rfl rfl rfl rfl hs0) ?_
  refine s_q rfl rfl (q_mv (.inr rfl) (is_sc rfl)) ?_
  refine s_nil (n_n (w_seq (w_reg (s_q rfl rfl (q_field rfl rfl (by exact rfl)) ?_))))
  refine s_q rfl rfl (q_load rfl rfl (by exact (rfl : _ = some (D.sc _)))) ?_
  refine s_q rfl rfl (q_farith rfl rfl rfl hq) ?_
  refine s_q rfl rfl (q_call rfl rfl rfl rfl (pf_Modf _ r _ (bits_lt hq) hqy hr hrb)) ?_
  refine s_q rfl rfl (q_mv (.inl rfl) (by first | exact (rfl : _ = D.tup [_, _]) | exact rfl)) ?_
  refine s_q rfl rfl (q_extract rfl rfl rfl) ?_
  refine s_q rfl rfl (q_extract rfl rfl rfl) ?_
  refine s_q rfl rfl (q_mv (.inr rfl) (is_sc rfl)) ?_
  refine s_q rfl rfl (q_mv (.inr rfl) (is_sc rfl)) ?_
  refine s_nil (n_n (w_seq (w_reg (s_q rfl rfl (q_mv (.inl rfl) (is_sc rfl)) ?_))))
  refine s_q rfl rfl (q_farith rfl rfl rfl hm) ?_
  refine s_q rfl rfl (q_mv (.inr rfl) (is_sc rfl)) ?_
  refine s_nil (n_n (w_seq (w_seq (w_reg (s_q rfl rfl (q_mv (.inl rfl) (is_sc rfl)) ?_)))))
  refine s_q rfl rfl (q_fcmpV rfl rfl rfl rfl hf) ?_
  refine s_nil (n_n (w_ifT rfl (w_seq (w_reg (s_q rfl rfl (q_mv (.inl rfl) (is_sc rfl)) ?_)))))
  refine s_q rfl rfl (q_not rfl rfl) ?_
  refine s_nil (n_n (w_ifT rfl (w_reg (s_q rfl rfl (q_mv (.inl rfl) (is_sc rfl)) ?_))))
  refine s_q rfl rfl (q_farith rfl rfl rfl hv) ?_
  refine s_q rfl rfl (q_mv (.inr rfl) (is_sc rfl)) ?_
  refine s_nil (n_n (w_seq (w_reg (s_q rfl rfl (q_mv (.inl rfl) (is_sc rfl)) ?_))))
  refine s_q rfl rfl (q_call rfl rfl rfl rfl (pf_newNum _ _ hz)) ?_
  refine s_u rfl rfl (as_st rfl rfl (by first | exact (rfl : _ = D.agg [_, _, _, _, _, _, _, _, _, _]) | exact rfl) rfl (by exact rfl) (by exact rfl) (by exact Nat.le_of_ble_eq_true rfl) (by exact (rfl : _ = [_, _, _, _, _, _, _, _, _, _]))) ?_
  refine s_nil (n_n (w_ret ?_))
  -- end 0
  refine r_r (ra_cell (by exact (rfl : _ = some (D.agg [_, _, _, _, _, _, _, _, _, _]))) ra_nil) (by first | exact (rfl : _ = D.agg [_, _, _, _, _, _, _, _, _, _]) | exact rfl) (by exact rfl) (Sub.refl _) ?_
  rfl


-- (*pub-tallysheet/pub/excelize.formulaFuncs).EVEN
theorem pf_EVENM {b : Nat} (h : Heap) (kf k : Nat) (es : List (Nat × D)) (H : IsList h k es) (hes : es.map (·.2) = [.ifc 61 (fNum b).d]) {x : Int} (hbb : b < 2 ^ 64) (hb : Fx b x) (q r m : Nat) (y : Int) (hq : floatBits .quo .f64 (clean b) 4611686018427387904 = some q) (hqy : Fx q y) (hr : floatBits .sub .f64 q (truncF q) = some r) (hrb : r < 2 ^ 64) (hm : floatBits .mul .f64 (truncF q) 4611686018427387904 = some m) {v : Nat} {z : Int} (hv : floatBits .sub .f64 m 4611686018427387904 = some v) (hz : Fx v z) (hf : fcmp .neq .f64 (q / 2 ^ 63 * 2 ^ 63 + r % 2 ^ 63) 0 = true) (hs : decide (clean b / 2 ^ 63 = 1) = true) : ACall Tryz.prog G 42 true [.hp kf 0, .hp k 0] h (fun ret _ => ret = (fNum (clean v)).d) := by
  obtain ⟨e, rfl⟩ : ∃ e, es = [(e, .ifc 61 (fNum b).d)] := by
    cases es with
    | nil => simp at hes
    | cons p es =>
      cases es with
      | nil => obtain ⟨e, x⟩ := p; simp at hes; subst hes; exact ⟨e, rfl⟩
      | cons _ _ => simp at hes
  have hs0 := pf_Signbit (G := G) (clean b) (clean_lt hbb)
  rw [hs] at hs0
  refine ACall.intro rfl Tryz.func42 rfl (Nat.le_of_ble_eq_true rfl) rfl ?_
  refine w_seq (w_reg (s_s rfl rfl (as_alloc0 (id := 0) rfl rfl (by exact (rfl : _ = [_, _, _, _, _, _, _, _, _, _]))) ?_))
  refine s_nil (n_n (w_seq (w_seq (w_reg (s_q rfl rfl (q_mv (.inl rfl) (by first | exact is_box rfl | exact is_hp rfl | exact is_pin rfl | exact is_sc rfl | exact rfl)) ?_)))))
  refine s_o rfl rfl (ao_callH rfl rfl rfl rfl (pf_Len _ k _ H) fun vln Hvln hvln => ?_)
  obtain ⟨rfl, rfl⟩ := hvln
  refine s_q rfl rfl (q_neq rfl rfl rfl) ?_
  refine s_nil (n_n (w_ifF rfl (w_skip (n_n (w_seq (w_reg (s_q rfl rfl (q_mv (.inl rfl) (by first | exact is_box rfl | exact is_hp rfl | exact is_pin rfl | exact is_sc rfl | exact rfl)) ?_)))))))
  refine s_o rfl rfl (ao_callH rfl rfl rfl rfl (pf_Front _ k _ H (by simp) (by simp)) fun vfr Hvfr hvfr => ?_)
  obtain ⟨rfl, rfl⟩ := hvfr
  refine s_q rfl rfl (q_nil rfl rfl rfl) ?_
  refine s_q rfl rfl (q_field rfl rfl (by exact rfl)) ?_
  refine s_q rfl rfl (q_loadH rfl rfl (d := .ifc 61 (fNum b).d) (by exact H.val _ (List.mem_cons_self))) ?_
  refine s_q rfl rfl (q_asr rfl rfl) ?_
  refine s_q rfl rfl (q_call rfl rfl rfl rfl (pf_toNumN _ _ hb)) ?_
  refine s_s rfl rfl (as_alloc0 (id := 1) rfl rfl (by exact (rfl : _ = [_, _, _, _, _, _, _, _, _, _]))) ?_
  refine s_u rfl rfl (as_st rfl rfl (by first | exact (rfl : _ = D.agg [_, _, _, _, _, _, _, _, _, _]) | exact rfl) rfl (by exact rfl) (by exact rfl) (by exact Nat.le_of_ble_eq_true rfl) (by exact (rfl : _ = [_, _, _, _, _, _, _, _, _, _]))) ?_
  refine s_nil (n_n (w_seq (w_seq (w_reg (s_q rfl rfl (q_field rfl rfl (by exact rfl)) ?_)))))
  refine s_q rfl rfl (q_load rfl rfl (by exact (rfl : _ = some (D.sc _)))) ?_
  refine s_q rfl rfl (q_eql rfl rfl rfl) ?_
  refine s_nil (n_n (w_ifF rfl (w_skip (n_n (w_seq (w_reg (s_q rfl rfl (q_field rfl rfl (by exact rfl)) ?_)))))))
  refine s_q rfl rfl (q_load rfl rfl (by exact (rfl : _ = some (D.sc _)))) ?_
  refine s_q rfl rfl (q_call rfl rfl rfl rfl hs0) ?_
  refine s_q rfl rfl (q_mv (.inr rfl) (is_sc rfl)) ?_
  refine s_nil (n_n (w_seq (w_reg (s_q rfl rfl (q_field rfl rfl (by exact rfl)) ?_))))
  refine s_q rfl rfl (q_load rfl rfl (by exact (rfl : _ = some (D.sc _)))) ?_
  refine s_q rfl rfl (q_farith rfl rfl rfl hq) ?_
  refine s_q rfl rfl (q_call rfl rfl rfl rfl (pf_Modf _ r _ (bits_lt hq) hqy hr hrb)) ?_
  refine s_q rfl rfl (q_mv (.inl rfl) (by first | exact (rfl : _ = D.tup [_, _]) | exact rfl)) ?_
  refine s_q rfl rfl (q_extract rfl rfl rfl) ?_
  refine s_q rfl rfl (q_extract rfl rfl rfl) ?_
  refine s_q rfl rfl (q_mv (.inr rfl) (is_sc rfl)) ?_
  refine s_q rfl rfl (q_mv (.inr rfl) (is_sc rfl)) ?_
  refine s_nil (n_n (w_seq (w_reg (s_q rfl rfl (q_mv (.inl rfl) (is_sc rfl)) ?_))))
  refine s_q rfl rfl (q_farith rfl rfl rfl hm) ?_
  refine s_q rfl rfl (q_mv (.inr rfl) (is_sc rfl)) ?_
  refine s_nil (n_n (w_seq (w_seq (w_reg (s_q rfl rfl (q_mv (.inl rfl) (is_sc rfl)) ?_)))))
  refine s_q rfl rfl (q_fcmpV rfl rfl rfl rfl hf) ?_
  refine s_nil (n_n (w_ifT rfl (w_seq (w_reg (s_q rfl rfl (q_mv (.inl rfl) (is_sc rfl)) ?_)))))
  refine s_q rfl rfl (q_not rfl rfl) ?_
  refine s_nil (n_n (w_ifF rfl (w_reg (s_q rfl rfl (q_mv (.inl rfl) (is_sc rfl)) ?_))))
  refine s_q rfl rfl (q_farith rfl rfl rfl hv) ?_
  refine s_q rfl rfl (q_mv (.inr rfl) (is_sc rfl)) ?_
  refine s_nil (n_n (w_seq (w_reg (s_q rfl rfl (q_mv (.inl rfl) (is_sc rfl)) ?_))))
  refine s_q rfl rfl (q_call rfl rfl rfl rfl (pf_newNum _ _ hz)) ?_
  refine s_u rfl rfl (as_st rfl rfl (by first | exact (rfl : _ = D.agg [_, _, _, _, _, _, _, _, _, _]) | exact rfl) rfl (by exact rfl) (by exact rfl) (by exact Nat.le_of_ble_eq_true rfl) (by exact (rfl : _ = [_, _, _, _, _, _, _, _, _, _]))) ?_
  refine s_nil (n_n (w_ret ?_))
  -- end 0
  refine r_r (ra_cell (by exact (rfl : _ = some (D.agg [_, _, _, _, _, _, _, _, _, _]))) ra_nil) (by first | exact (rfl : _ = D.agg [_, _, _, _, _, _, _, _, _, _]) | exact rfl) (by exact rfl) (Sub.refl _) ?_
  rfl


-- pub-tallysheet/pub/excelize.DoorEVEN
theorem pf_DoorEVENZ (b0 q r m : Nat) (x y : Int) (hbb : b0 < 2 ^ 64) (hx0 : Fx b0 x) (hq : floatBits .quo .f64 (clean (clean b0)) 4611686018427387904 = some q) (hqy : Fx q y) (hr : floatBits .sub .f64 q (truncF q) = some r) (hrb : r < 2 ^ 64) (hm : floatBits .mul .f64 (truncF q) 4611686018427387904 = some m) (z : Int) (hz : Fx m z) (hf : fcmp .neq .f64 (q / 2 ^ 63 * 2 ^ 63 + r % 2 ^ 63) 0 = false) : PF Tryz.prog G 28 [ilst [iNum b0]] (iNum (clean m)).d := by
  refine PC.intro rfl Tryz.func28 rfl (Nat.le_of_ble_eq_true rfl) rfl ?_
  refine w_seq (w_reg (s_s rfl rfl (as_alloc0 (id := 0) rfl rfl (by exact (rfl : _ = [_, _, _, _]))) ?_))
  refine s_nil (n_n (w_seq (w_reg (s_o rfl rfl (ao_callH rfl rfl rfl rfl (pf_doorFuncs _) fun v3 Hv3 hv3 => ?_)))))
  obtain ⟨kf, rfl⟩ := hv3
  refine s_q rfl rfl (q_mv (.inl rfl) (by first | exact is_im rfl | exact is_gs rfl | exact is_lit rfl | exact is_ms rfl | exact is_sc rfl | exact rfl)) ?_
  refine s_o rfl rfl (ao_callH rfl rfl rfl rfl (pf_innerList _ [iNum b0] (by simp only [List.length_cons, List.length_nil]; omega) (fun v => fNum (clean v.num)) (fun v hv => by rw [List.mem_singleton.1 hv]; exact pf_innerN b0 _ hx0)) fun v5 Hv5 hv5 => ?_)
  obtain ⟨kl, es, rfl, hL, hes⟩ := hv5
  refine s_o rfl rfl (ao_callH rfl rfl rfl rfl (pf_EVENZ _ kf kl es hL hes (clean_lt hbb) (fx_clean hx0) q r m y hq hqy hr hrb hm hz hf) fun v6 Hv6 hv6 => ?_)
  obtain rfl := hv6
  refine s_q rfl rfl (q_call rfl rfl rfl rfl (pf_doorN _)) ?_
  refine s_u rfl rfl (as_st rfl rfl (by first | exact (rfl : _ = D.agg [_, _, _, _]) | exact rfl) rfl (by exact rfl) (by exact rfl) (by exact Nat.le_of_ble_eq_true rfl) (by exact (rfl : _ = [_, _, _, _]))) ?_
  refine s_nil (n_n (w_ret ?_))
  -- end 0
  refine r_r (ra_cell (by exact (rfl : _ = some (D.agg [_, _, _, _]))) ra_nil) (by first | exact (rfl : _ = D.agg [_, _, _, _]) | exact rfl) (by exact rfl) sub_no ?_
  rfl


-- pub-tallysheet/impl.EVEN
theorem pf_ImplEVENZ (b0 q r m : Nat) (x y : Int) (hbb : b0 < 2 ^ 64) (hx0 : Fx b0 x) (hq : floatBits .quo .f64 (clean (clean b0)) 4611686018427387904 = some q) (hqy : Fx q y) (hr : floatBits .sub .f64 q (truncF q) = some r) (hrb : r < 2 ^ 64) (hm : floatBits .mul .f64 (truncF q) 4611686018427387904 = some m) (z : Int) (hz : Fx m z) (hf : fcmp .neq .f64 (q / 2 ^ 63 * 2 ^ 63 + r % 2 ^ 63) 0 = false) : PF Tryz.prog G 12 [ilst [iNum b0]] (iNum (clean m)).d := by
  refine PC.intro rfl Tryz.func12 rfl (Nat.le_of_ble_eq_true rfl) rfl ?_
  refine w_seq (w_reg (s_s rfl rfl (as_alloc0 (id := 0) rfl rfl (by exact (rfl : _ = [_, _, _, _]))) ?_))
  refine s_nil (n_n (w_seq (w_reg (s_q rfl rfl (q_mv (.inl rfl) (by first | exact is_im rfl | exact is_gs rfl | exact is_lit rfl | exact is_ms rfl | exact is_sc rfl | exact rfl)) ?_))))
  refine s_q rfl rfl (q_call rfl rfl rfl rfl (pf_in [iNum b0] (by simp only [List.length_cons, List.length_nil]; omega) (by intro v hv; simp only [List.mem_cons, List.mem_nil_iff, or_false] at hv; subst hv; rfl))) ?_
  refine s_q rfl rfl (q_call rfl rfl rfl rfl (pf_DoorEVENZ b0 q r m x y hbb hx0 hq hqy hr hrb hm z hz hf)) ?_
  refine s_q rfl rfl (q_call rfl rfl rfl rfl (pf_out _ _ _)) ?_
  refine s_u rfl rfl (as_st rfl rfl (by first | exact (rfl : _ = D.agg [_, _, _, _]) | exact rfl) rfl (by exact rfl) (by exact rfl) (by exact Nat.le_of_ble_eq_true rfl) (by exact (rfl : _ = [_, _, _, _]))) ?_
  refine s_nil (n_n (w_ret ?_))
  -- end 0
  refine r_r (ra_cell (by exact (rfl : _ = some (D.agg [_, _, _, _]))) ra_nil) (by first | exact (rfl : _ = D.agg [_, _, _, _]) | exact rfl) (by exact rfl) sub_no ?_
  rfl


-- pub-tallysheet/pub/excelize.DoorEVEN
theorem pf_DoorEVENP (b0 q r m : Nat) (x y : Int) (hbb : b0 < 2 ^ 64) (hx0 : Fx b0 x) (hq : floatBits .quo .f64 (clean (clean b0)) 4611686018427387904 = some q) (hqy : Fx q y) (hr : floatBits .sub .f64 q (truncF q) = some r) (hrb : r < 2 ^ 64) (hm : floatBits .mul .f64 (truncF q) 4611686018427387904 = some m) (v : Nat) (z : Int) (hv : floatBits .add .f64 m 4611686018427387904 = some v) (hz : Fx v z) (hf : fcmp .neq .f64 (q / 2 ^ 63 * 2 ^ 63 + r % 2 ^ 63) 0 = true) (hs : decide (clean (clean b0) / 2 ^ 63 = 1) = false) : PF Tryz.prog G 28 [ilst [iNum b0]] (iNum (clean v)).d := by
  refine PC.intro rfl Tryz.func28 rfl (Nat.le_of_ble_eq_true rfl) rfl ?_
  refine w_seq (w_reg (s_s rfl rfl (as_alloc0 (id := 0) rfl rfl (by exact (rfl : _ = [_, _, _, _]))) ?_))
  refine s_nil (n_n (w_seq (w_reg (s_o rfl rfl (ao_callH rfl rfl rfl rfl (pf_doorFuncs _) fun v3 Hv3 hv3 => ?_)))))
  obtain ⟨kf, rfl⟩ := hv3
  refine s_q rfl rfl (q_mv (.inl rfl) (by first | exact is_im rfl | exact is_gs rfl | exact is_lit rfl | exact is_ms rfl | exact is_sc rfl | exact rfl)) ?_
  refine s_o rfl rfl (ao_callH rfl rfl rfl rfl (pf_innerList _ [iNum b0] (by simp only [List.length_cons, List.length_nil]; omega) (fun v => fNum (clean v.num)) (fun v hv => by rw [List.mem_singleton.1 hv]; exact pf_innerN b0 _ hx0)) fun v5 Hv5 hv5 => ?_)
  obtain ⟨kl, es, rfl, hL, hes⟩ := hv5
  refine s_o rfl rfl (ao_callH rfl rfl rfl rfl (pf_EVENP _ kf kl es hL hes (clean_lt hbb) (fx_clean hx0) q r m y hq hqy hr hrb hm hv hz hf hs) fun v6 Hv6 hv6 => ?_)
  obtain rfl := hv6
  refine s_q rfl rfl (q_call rfl rfl rfl rfl (pf_doorN _)) ?_
  refine s_u rfl rfl (as_st rfl rfl (by first | exact (rfl : _ = D.agg [_, _, _, _]) | exact rfl) rfl (by exact rfl) (by exact rfl) (by exact Nat.le_of_ble_eq_true rfl) (by exact (rfl : _ = [_, _, _, _]))) ?_
  refine s_nil (n_n (w_ret ?_))
  -- end 0
  refine r_r (ra_cell (by exact (rfl : _ = some (D.agg [_, _, _, _]))) ra_nil) (by first | exact (rfl : _ = D.agg [_, _, _, _]) | exact rfl) (by exact rfl) sub_no ?_
  rfl


-- pub-tallysheet/impl.EVEN
theorem pf_ImplEVENP (b0 q r m : Nat) (x y : Int) (hbb : b0 < 2 ^ 64) (hx0 : Fx b0 x) (hq : floatBits .quo .f64 (clean (clean b0)) 4611686018427387904 = some q) (hqy : Fx q y) (hr : floatBits .sub .f64 q (truncF q) = some r) (hrb : r < 2 ^ 64) (hm : floatBits .mul .f64 (truncF q) 4611686018427387904 = some m) (v : Nat) (z : Int) (hv : floatBits .add .f64 m 4611686018427387904 = some v) (hz : Fx v z) (hf : fcmp .neq .f64 (q / 2 ^ 63 * 2 ^ 63 + r % 2 ^ 63) 0 = true) (hs : decide (clean (clean b0) / 2 ^ 63 = 1) = false) : PF Tryz.prog G 12 [ilst [iNum b0]] (iNum (clean v)).d := by
  refine PC.intro rfl Tryz.func12 rfl (Nat.le_of_ble_eq_true rfl) rfl ?_
  refine w_seq (w_reg (s_s rfl rfl (as_alloc0 (id := 0) rfl rfl (by exact (rfl : _ = [_, _, _, _]))) ?_))
  refine s_nil (n_n (w_seq (w_reg (s_q rfl rfl (q_mv (.inl rfl) (by first | exact is_im rfl | exact is_gs rfl | exact is_lit rfl | exact is_ms rfl | exact is_sc rfl | exact rfl)) ?_))))
  refine s_q rfl rfl (q_call rfl rfl rfl rfl (pf_in [iNum b0] (by simp only [List.length_cons, List.length_nil]; omega) (by intro v hv; simp only [List.mem_cons, List.mem_nil_iff, or_false] at hv; subst hv; rfl))) ?_
  refine s_q rfl rfl (q_call rfl rfl rfl rfl (pf_DoorEVENP b0 q r m x y hbb hx0 hq hqy hr hrb hm v z hv hz hf hs)) ?_
  refine s_q rfl rfl (q_call rfl rfl rfl rfl (pf_out _ _ _)) ?_
  refine s_u rfl rfl (as_st rfl rfl (by first | exact (rfl : _ = D.agg [_, _, _, _]) | exact rfl) rfl (by exact rfl) (by exact rfl) (by exact Nat.le_of_ble_eq_true rfl) (by exact (rfl : _ = [_, _, _, _]))) ?_
  refine s_nil (n_n (w_ret ?_))
  -- end 0
  refine r_r (ra_cell (by exact (rfl : _ = some (D.agg [_, _, _, _]))) ra_nil) (by first | exact (rfl : _ = D.agg [_, _, _, _]) | exact rfl) (by exact rfl) sub_no ?_
  rfl


-- pub-tallysheet/pub/excelize.DoorEVEN
theorem pf_DoorEVENM (b0 q r m : Nat) (x y : Int) (hbb : b0 < 2 ^ 64) (hx0 : Fx b0 x) (hq : floatBits .quo .f64 (clean (clean b0)) 4611686018427387904 = some q) (hqy : Fx q y) (hr : floatBits .sub .f64 q (truncF q) = some r) (hrb : r < 2 ^ 64) (hm : floatBits .mul .f64 (truncF q) 4611686018427387904 = some m) (v : Nat) (z : Int) (hv : floatBits .sub .f64 m 4611686018427387904 = some v) (hz : Fx v z) (hf : fcmp .neq .f64 (q / 2 ^ 63 * 2 ^ 63 + r % 2 ^ 63) 0 = true) (hs : decide (clean (clean b0) / 2 ^ 63 = 1) = true) : PF Tryz.prog G 28 [ilst [iNum b0]] (iNum (clean v)).d := by
  refine PC.intro rfl Tryz.func28 rfl (Nat.le_of_ble_eq_true rfl) rfl ?_
  refine w_seq (w_reg (s_s rfl rfl (as_alloc0 (id := 0) rfl rfl (by exact (rfl : _ = [_, _, _, _]))) ?_))
  refine s_nil (n_n (w_seq (w_reg (s_o rfl rfl (ao_callH rfl rfl rfl rfl (pf_doorFuncs _) fun v3 Hv3 hv3 => ?_)))))
  obtain ⟨kf, rfl⟩ := hv3
  refine s_q rfl rfl (q_mv (.inl rfl) (by first | exact is_im rfl | exact is_gs rfl | exact is_lit rfl | exact is_ms rfl | exact is_sc rfl | exact rfl)) ?_
  refine s_o rfl rfl (ao_callH rfl rfl rfl rfl (pf_innerList _ [iNum b0] (by simp only [List.length_cons, List.length_nil]; omega) (fun v => fNum (clean v.num)) (fun v hv => by rw [List.mem_singleton.1 hv]; exact pf_innerN b0 _ hx0)) fun v5 Hv5 hv5 => ?_)
  obtain ⟨kl, es, rfl, hL, hes⟩ := hv5
  refine s_o rfl rfl (ao_callH rfl rfl rfl rfl (pf_EVENM _ kf kl es hL hes (clean_lt hbb) (fx_clean hx0) q r m y hq hqy hr hrb hm hv hz hf hs) fun v6 Hv6 hv6 => ?_)
  obtain rfl := hv6
  refine s_q rfl rfl (q_call rfl rfl rfl rfl (pf_doorN _)) ?_
  refine s_u rfl rfl (as_st rfl rfl (by first | exact (rfl : _ = D.agg [_, _, _, _]) | exact rfl) rfl (by exact rfl) (by exact rfl) (by exact Nat.le_of_ble_eq_true rfl) (by exact (rfl : _ = [_, _, _, _]))) ?_
  refine s_nil (n_n (w_ret ?_))
  -- end 0
  refine r_r (ra_cell (by exact (rfl : _ = some (D.agg [_, _, _, _]))) ra_nil) (by first | exact (rfl : _ = D.agg [_, _, _, _]) | exact rfl) (by exact rfl) sub_no ?_
  rfl


-- pub-tallysheet/impl.EVEN
theorem pf_ImplEVENM (b0 q r m : Nat) (x y : Int) (hbb : b0 < 2 ^ 64) (hx0 : Fx b0 x) (hq : floatBits .quo .f64 (clean (clean b0)) 4611686018427387904 = some q) (hqy : Fx q y) (hr : floatBits .sub .f64 q (truncF q) = some r) (hrb : r < 2 ^ 64) (hm : floatBits .mul .f64 (truncF q) 4611686018427387904 = some m) (v : Nat) (z : Int) (hv : floatBits .sub .f64 m 4611686018427387904 = some v) (hz : Fx v z) (hf : fcmp .neq .f64 (q / 2 ^ 63 * 2 ^ 63 + r % 2 ^ 63) 0 = true) (hs : decide (clean (clean b0) / 2 ^ 63 = 1) = true) : PF Tryz.prog G 12 [ilst [iNum b0]] (iNum (clean v)).d := by
  refine PC.intro rfl Tryz.func12 rfl (Nat.le_of_ble_eq_true rfl) rfl ?_
  refine w_seq (w_reg (s_s rfl rfl (as_alloc0 (id := 0) rfl rfl (by exact (rfl : _ = [_, _, _, _]))) ?_))
  refine s_nil (n_n (w_seq (w_reg (s_q rfl rfl (q_mv (.inl rfl) (by first | exact is_im rfl | exact is_gs rfl | exact is_lit rfl | exact is_ms rfl | exact is_sc rfl | exact rfl)) ?_))))
  refine s_q rfl rfl (q_call rfl rfl rfl rfl (pf_in [iNum b0] (by simp only [List.length_cons, List.length_nil]; omega) (by intro v hv; simp only [List.mem_cons, List.mem_nil_iff, or_false] at hv; subst hv; rfl))) ?_
  refine s_q rfl rfl (q_call rfl rfl rfl rfl (pf_DoorEVENM b0 q r m x y hbb hx0 hq hqy hr hrb hm v z hv hz hf hs)) ?_
  refine s_q rfl rfl (q_call rfl rfl rfl rfl (pf_out _ _ _)) ?_
  refine s_u rfl rfl (as_st rfl rfl (by first | exact (rfl : _ = D.agg [_, _, _, _]) | exact rfl) rfl (by exact rfl) (by exact rfl) (by exact Nat.le_of_ble_eq_true rfl) (by exact (rfl : _ = [_, _, _, _]))) ?_
  refine s_nil (n_n (w_ret ?_))
  -- end 0
  refine r_r (ra_cell (by exact (rfl : _ = some (D.agg [_, _, _, _]))) ra_nil) (by first | exact (rfl : _ = D.agg [_, _, _, _]) | exact rfl) (by exact rfl) sub_no ?_
  rfl


theorem impl_EVEN {q0 : Nat} {v m d : Int} (hbb : q0 < 2 ^ 64) (h : Fy 4 q0 v) (hs : Six v m d) : ∃ r, Fy 4 r (2 * awayI m (2 * d) * 16) ∧ PF Tryz.prog G 12 [ilst [iNum q0]] (iNum r).d := by
  have hbd := hs.bound
  obtain ⟨x, hx, hxe⟩ := id h
  have hc : Fy 4 (clean (clean q0)) v := h.clean.clean
  obtain ⟨q, hq, hqv⟩ := Fy.div (k := 4) (l := 0) (j := 5) (by omega) (by omega) (by omega) hc fy_two (by omega) (show v * (2 ^ 0 : Nat) * (2 ^ 5 : Nat) = v * 2 * (2 ^ 4 : Nat) by rw [show ((2 ^ 0 : Nat) : Int) = 1 from rfl, show ((2 ^ 5 : Nat) : Int) = 32 from rfl, show ((2 ^ 4 : Nat) : Int) = 16 from rfl]; omega) (by omega)
  obtain ⟨y, hqy, hye⟩ := id hqv
  obtain ⟨r, hr, hrb, hfr⟩ := modfF (bits_lt hq) hqy
  have e32 : ((2 ^ 5 : Nat) : Int) = 32 := rfl
  rw [e32] at hye
  have hu := unit_pos
  have htd : y.tdiv unit = v.tdiv 32 := by
    have h1 : y.tdiv unit = (y * 32).tdiv ((unit : Nat) * 32) := (Int.mul_tdiv_mul_of_pos_left y unit (by omega)).symm
    have h2 : (v * (unit : Nat)).tdiv (32 * (unit : Nat)) = v.tdiv 32 := Int.mul_tdiv_mul_of_pos_left v 32 hu
    rw [h1, hye, Int.mul_comm ((unit : Nat) : Int) 32, h2]
  have ht : Fy 0 (truncF q) (v.tdiv 32) := by have := fx_truncF hqy; rw [htd] at this; exact Fy.of this
  have htb : (v.tdiv 32).natAbs ≤ v.natAbs := Int.natAbs_tdiv_le_natAbs v 32
  obtain ⟨mm, hm, hmv⟩ := Fy.mul (k := 0) (l := 0) (by omega) ht fy_two (by omega)
  have hzero : (y - y.tdiv unit * unit = 0) ↔ v.tmod 32 = 0 := by
    have h3 := Int.tmod_add_mul_tdiv v 32
    rw [htd]
    have h4 : (y - v.tdiv 32 * unit) * 32 = v.tmod 32 * unit := by
      rw [Int.sub_mul, hye, Int.mul_assoc, Int.mul_comm ((unit : Nat) : Int) 32, ← Int.mul_assoc, ← Int.sub_mul]
      congr 1; omega
    constructor
    · intro h5
      rw [h5, Int.zero_mul] at h4
      rcases Int.mul_eq_zero.1 h4.symm with h6 | h6
      · exact h6
      · omega
    · intro h5
      rw [h5, Int.zero_mul] at h4
      omega
  have hfc : fcmp .neq .f64 (q / 2 ^ 63 * 2 ^ 63 + r % 2 ^ 63) 0 = !decide (v.tmod 32 = 0) := by
    rw [fcmp_ne, fcmp_eq hfr fx_zero]
    congr 1
    exact decide_eq_decide.2 hzero
  have hmd : awayI m (2 * d) = if v < 0 then v / 32 else -(-v / 32) := by
    have h5 := hs.eq
    unfold awayI
    rcases hs.dd with rfl | rfl | rfl | rfl | rfl <;> simp only [show (2 : Int) * 1 = 2 from rfl, show (2 : Int) * 2 = 4 from rfl, show (2 : Int) * 4 = 8 from rfl, show (2 : Int) * 8 = 16 from rfl, show (2 : Int) * 16 = 32 from rfl] <;> (repeat' split) <;> omega
  have key := tdiv_floor (n := v) (d := 32) (by omega)
  have key2 := tdiv_floor (n := -v) (d := 32) (by omega)
  rw [Int.neg_tdiv, Int.neg_tmod] at key2
  by_cases h0 : v.tmod 32 = 0
  · refine ⟨clean mm, ?_, pf_ImplEVENZ q0 q r mm x y hbb hx hq hqy hr hrb hm _ hmv.whole (by rw [hfc, h0]; rfl)⟩
    have e : 2 * awayI m (2 * d) = v.tdiv 32 * 2 := by rw [hmd]; split <;> omega
    rw [e]; exact hmv.clean.six
  · rcases Int.lt_or_le v 0 with hneg | hpos
    · obtain ⟨w, hw, hwv⟩ := Fy.sub (k := 0) (by omega) hmv fy_two (by omega)
      have hcx : Fx (clean (clean q0)) x := fx_clean (fx_clean hx)
      have hx0 : x ≠ 0 := fun e => by rw [e, Int.zero_mul] at hxe; rcases Int.mul_eq_zero.1 hxe.symm with h6 | h6 <;> omega
      have hsg := fx_sign (clean_lt (clean_lt hbb)) hcx hx0
      have hxn : x < 0 := by
        rcases Int.lt_or_le x 0 with h6 | h6
        · exact h6
        · have h7 := Int.mul_neg_of_neg_of_pos hneg hu
          have h8 := Int.mul_nonneg h6 (show (0 : Int) ≤ ((2 ^ 4 : Nat) : Int) by decide)
          omega
      refine ⟨clean w, ?_, pf_ImplEVENM q0 q r mm x y hbb hx hq hqy hr hrb hm w _ hw hwv.whole (by rw [hfc]; simp [h0]) (by rw [decide_eq_true (hsg ▸ hxn)])⟩
      have e : 2 * awayI m (2 * d) = v.tdiv 32 * 2 - 2 := by
        have h9 : v.tmod 32 < 0 := by
          obtain ⟨z, rfl⟩ : ∃ z, v = -z := ⟨-v, by omega⟩
          rw [Int.neg_tmod] at h0 ⊢
          have := Int.tmod_nonneg 32 (show 0 ≤ z by omega)
          omega
        rw [hmd, if_pos hneg]; have := key.1 h9; omega
      rw [e]; exact hwv.clean.six
    · obtain ⟨w, hw, hwv⟩ := Fy.add (k := 0) (by omega) hmv fy_two (by omega)
      have hcx : Fx (clean (clean q0)) x := fx_clean (fx_clean hx)
      have hv0 : 0 < v := by
        rcases Int.lt_or_eq_of_le hpos with h6 | h6
        · exact h6
        · rw [← h6] at h0; simp at h0
      have hx0 : x ≠ 0 := fun e => by rw [e, Int.zero_mul] at hxe; rcases Int.mul_eq_zero.1 hxe.symm with h6 | h6 <;> omega
      have hsg := fx_sign (clean_lt (clean_lt hbb)) hcx hx0
      have hxp : ¬ x < 0 := fun h6 => by
        have h7 := Int.mul_pos hv0 hu
        have h8 := Int.mul_neg_of_neg_of_pos h6 (show (0 : Int) < ((2 ^ 4 : Nat) : Int) by decide)
        omega
      refine ⟨clean w, ?_, pf_ImplEVENP q0 q r mm x y hbb hx hq hqy hr hrb hm w _ hw hwv.whole (by rw [hfc]; simp [h0]) (by rw [decide_eq_false (hsg ▸ hxp)])⟩
      have e : 2 * awayI m (2 * d) = v.tdiv 32 * 2 + 2 := by
        have h9 : -(v.tmod 32) < 0 := by
          have := Int.tmod_nonneg 32 hpos
          omega
        rw [hmd, if_neg (by omega)]; have := key2.1 h9; omega
      rw [e]; exact hwv.clean.six

end Go.Proofs.YtjobmjfdlkjaoaaGreatDoor.Zz
