/- Walks of the functions, printed by program, and the logic behind them: each theorem says what one function or one step answers. -/
import Derived.Test.YtopgbalmdocboaaGreatDoorZAny
import Derived.Test.YtopgbalmdocboaaGreatDoorZSm
import Derived.Shelf.Lay
import Derived.Shelf.Strconv.Atoi
namespace Go.Proofs.YtopgbalmdocboaaGreatDoor.Zz
open Go.Abs
set_option maxRecDepth 100000
set_option linter.unusedVariables false
set_option linter.unusedSimpArgs false
set_option maxHeartbeats 4000000
variable {G : Nat → D}
instance : IFT Tryz.prog 101 := ⟨by kernel_rfl⟩

shelf_lay Lays.n172 Nm 172 at Tryz as Tryz.lays172
theorem pf_Atoi (s : List UInt8) (n : Int) (hl : s.length ≤ 18) (h : Lib.atoi s = some n) : PF Tryz.prog G 67 [st s] (.tup [i64 n, .sc .nilIface]) :=
  pf_shelf fun g Prot w cargs hr ha => by
    simp only [repL] at ha
    obtain ⟨v, r, rfl, h1, rfl⟩ := ha
    simp only [rep] at h1
    subst h1
    refine (Any.strconv_Atoi Tryz.lays172 ⟨⟨s⟩⟩ n hl h w).mono fun e w' ⟨h2, t, h3⟩ => ⟨_, h2, by rw [h3]; exact Lib.bytesWorld_below _ _ _, ?_⟩
    simp only [rep]
    exact ⟨[.int .i64 n, .nilIface], rfl, by simp only [repL, rep]; exact ⟨_, _, rfl, rfl, _, _, rfl, rfl, rfl⟩⟩


-- (*pub-tallysheet/pub/excelize.formulaFuncs).CHOOSE
theorem pf_CHOOSEE (h : Heap) (kf k : Nat) (es : List (Nat × D)) (H : IsList h k es) (fs : List F) (w m : Nat) (tx : List UInt8) (hes : es.map (·.2) = fs.map fun f => D.ifc 75 f.d) (hfl : 2 ≤ fs.length) (hf9 : fs.length ≤ 1000) (hf0 : fs[0] = fNum w) (hv : PF Tryz.prog G 61 [(fNum w).d] (st tx)) (ha : PF Tryz.prog G 67 [st tx] (.tup [i64 m, .sc .nilIface])) (hm : fs.length ≤ m) : ACall Tryz.prog G 46 true [.hp kf 0, .hp k 0] h (fun ret _ => ∃ t, ret = (fErr [35, 86, 65, 76, 85, 69, 33] t).d) := by
  have hel : es.length = fs.length := by have := congrArg List.length hes; simpa using this
  have hat : ∀ i (hi : i < es.length), es[i].2 = D.ifc 75 (fs[i]'(by omega)).d := fun i hi => by
    have h1 : (es.map (·.2))[i]? = some es[i].2 := by simp [hi]
    rw [hes, List.getElem?_map, List.getElem?_eq_getElem (by omega)] at h1
    exact (Option.some.inj h1).symm
  have hv0 : Heap.get h (es[0]'(by omega)).1 3 = some (.ifc 75 (fNum w).d) := by
    rw [H.val _ (List.getElem_mem (by omega)), hat 0 (by omega), hf0]
  refine ACall.intro rfl Tryz.func46 rfl (Nat.le_of_ble_eq_true rfl) rfl ?_
  refine w_seq (w_reg (s_s rfl rfl (as_alloc0 (id := 0) rfl rfl (by exact (rfl : _ = [_, _, _, _, _, _, _, _, _, _]))) ?_))
  refine s_nil (n_n (w_seq (w_seq (w_reg (s_q rfl rfl (q_mv (.inl rfl) (by first | exact is_box rfl | exact is_hp rfl | exact is_pin rfl | exact is_sc rfl | exact rfl)) ?_)))))
  refine s_o rfl rfl (ao_callH rfl rfl rfl rfl (pf_Len _ k _ H) fun vln Hvln hvln => ?_)
  obtain ⟨rfl, e⟩ := hvln
  rw [e]; clear e
  refine s_q rfl rfl (q_as (bl_no (show ¬ ((es.length : Nat) : Int) < 2 by omega)) (q_lss rfl rfl rfl)) ?_
  refine s_nil (n_n (w_ifF rfl (w_skip (n_n (w_seq (w_reg (s_q rfl rfl (q_mv (.inl rfl) (by first | exact is_box rfl | exact is_hp rfl | exact is_pin rfl | exact is_sc rfl | exact rfl)) ?_)))))))
  refine s_o rfl rfl (ao_callH rfl rfl rfl rfl (pf_Front _ k _ H (by omega) (by omega)) fun vfr Hvfr hvfr => ?_)
  obtain ⟨e_, e⟩ := hvfr
  rw [e]; clear e
  replace e_ : vfr = D.hp (es[0]'(by omega)).1 0 := e_
  subst e_
  refine s_q rfl rfl (q_nil rfl rfl rfl) ?_
  refine s_q rfl rfl (q_field rfl rfl (by exact rfl)) ?_
  refine s_q rfl rfl (q_loadH rfl rfl (d := .ifc 75 (fNum w).d) (by exact hv0)) ?_
  refine s_q rfl rfl (q_asr rfl rfl) ?_
  refine s_q rfl rfl (q_call rfl rfl rfl rfl hv) ?_
  refine s_q rfl rfl (q_call rfl rfl rfl rfl ha) ?_
  refine s_q rfl rfl (q_mv (.inl rfl) (by first | exact (rfl : _ = D.tup [_, _]) | exact rfl)) ?_
  refine s_q rfl rfl (q_extract rfl rfl rfl) ?_
  refine s_q rfl rfl (q_extract rfl rfl rfl) ?_
  refine s_q rfl rfl (q_mv (.inr rfl) (is_sc rfl)) ?_
  refine s_q rfl rfl (q_mv (.inr rfl) (by first | exact is_ifc rfl | exact is_sc rfl | exact rfl)) ?_
  refine s_nil (n_n (w_seq (w_seq (w_reg (s_q rfl rfl (q_mv (.inl rfl) (by first | exact is_ifc rfl | exact is_sc rfl | exact rfl)) ?_)))))
  refine s_q rfl rfl (q_ifNeN rfl rfl rfl) ?_
  refine s_nil (n_n (w_ifF rfl (w_skip (n_n (w_seq (w_seq (w_reg (s_q rfl rfl (q_mv (.inl rfl) (by first | exact is_box rfl | exact is_hp rfl | exact is_pin rfl | exact is_sc rfl | exact rfl)) ?_))))))))
  refine s_o rfl rfl (ao_callH rfl rfl rfl rfl (pf_Len _ k _ H) fun vln Hvln hvln => ?_)
  obtain ⟨rfl, e⟩ := hvln
  rw [e]; clear e
  refine s_q rfl rfl (q_mv (.inl rfl) (is_sc rfl)) ?_
  refine s_q rfl rfl (q_as (bl_yes (show ((es.length : Nat) : Int) ≤ (m : Int) by omega)) (q_leq rfl rfl rfl)) ?_
  refine s_nil (n_n (w_ifT rfl (w_seq (w_reg (s_q rfl rfl (q_call rfl rfl rfl rfl (pf_newErr _ _)) ?_)))))
  refine s_u rfl rfl (as_st rfl rfl (by first | exact (rfl : _ = D.agg [_, _, _, _, _, _, _, _, _, _]) | exact rfl) rfl (by exact rfl) (by exact rfl) (by exact Nat.le_of_ble_eq_true rfl) (by exact (rfl : _ = [_, _, _, _, _, _, _, _, _, _]))) ?_
  refine s_nil (n_n (w_ret (n_r ?_)))
  -- end 0
  refine r_r (ra_cell (by exact (rfl : _ = some (D.agg [_, _, _, _, _, _, _, _, _, _]))) ra_nil) (by first | exact (rfl : _ = D.agg [_, _, _, _, _, _, _, _, _, _]) | exact rfl) (by exact rfl) (Sub.refl _) ?_
  exact ⟨_, rfl⟩


-- (*pub-tallysheet/pub/excelize.formulaFuncs).CHOOSE
theorem pf_CHOOSEV (h : Heap) (kf k : Nat) (es : List (Nat × D)) (H : IsList h k es) (fs : List F) (w m : Nat) (tx : List UInt8) (hes : es.map (·.2) = fs.map fun f => D.ifc 75 f.d) (hfl : 2 ≤ fs.length) (hf9 : fs.length ≤ 1000) (hf0 : fs[0] = fNum w) (hv : PF Tryz.prog G 61 [(fNum w).d] (st tx)) (ha : PF Tryz.prog G 67 [st tx] (.tup [i64 m, .sc .nilIface])) (hm : m < fs.length) : ACall Tryz.prog G 46 true [.hp kf 0, .hp k 0] h (fun ret _ => ret = (fs[m]).d) := by
  have hel : es.length = fs.length := by have := congrArg List.length hes; simpa using this
  have hat : ∀ i (hi : i < es.length), es[i].2 = D.ifc 75 (fs[i]'(by omega)).d := fun i hi => by
    have h1 : (es.map (·.2))[i]? = some es[i].2 := by simp [hi]
    rw [hes, List.getElem?_map, List.getElem?_eq_getElem (by omega)] at h1
    exact (Option.some.inj h1).symm
  have hv0 : Heap.get h (es[0]'(by omega)).1 3 = some (.ifc 75 (fNum w).d) := by
    rw [H.val _ (List.getElem_mem (by omega)), hat 0 (by omega), hf0]
  have hme : m < es.length := by omega
  refine ACall.intro rfl Tryz.func46 rfl (Nat.le_of_ble_eq_true rfl) rfl ?_
  refine w_seq (w_reg (s_s rfl rfl (as_alloc0 (id := 0) rfl rfl (by exact (rfl : _ = [_, _, _, _, _, _, _, _, _, _]))) ?_))
  refine s_nil (n_n (w_seq (w_seq (w_reg (s_q rfl rfl (q_mv (.inl rfl) (by first | exact is_box rfl | exact is_hp rfl | exact is_pin rfl | exact is_sc rfl | exact rfl)) ?_)))))
  refine s_o rfl rfl (ao_callH rfl rfl rfl rfl (pf_Len _ k _ H) fun vln Hvln hvln => ?_)
  obtain ⟨rfl, e⟩ := hvln
  rw [e]; clear e
  refine s_q rfl rfl (q_as (bl_no (show ¬ ((es.length : Nat) : Int) < 2 by omega)) (q_lss rfl rfl rfl)) ?_
  refine s_nil (n_n (w_ifF rfl (w_skip (n_n (w_seq (w_reg (s_q rfl rfl (q_mv (.inl rfl) (by first | exact is_box rfl | exact is_hp rfl | exact is_pin rfl | exact is_sc rfl | exact rfl)) ?_)))))))
  refine s_o rfl rfl (ao_callH rfl rfl rfl rfl (pf_Front _ k _ H (by omega) (by omega)) fun vfr Hvfr hvfr => ?_)
  obtain ⟨e_, e⟩ := hvfr
  rw [e]; clear e
  replace e_ : vfr = D.hp (es[0]'(by omega)).1 0 := e_
  subst e_
  refine s_q rfl rfl (q_nil rfl rfl rfl) ?_
  refine s_q rfl rfl (q_field rfl rfl (by exact rfl)) ?_
  refine s_q rfl rfl (q_loadH rfl rfl (d := .ifc 75 (fNum w).d) (by exact hv0)) ?_
  refine s_q rfl rfl (q_asr rfl rfl) ?_
  refine s_q rfl rfl (q_call rfl rfl rfl rfl hv) ?_
  refine s_q rfl rfl (q_call rfl rfl rfl rfl ha) ?_
  refine s_q rfl rfl (q_mv (.inl rfl) (by first | exact (rfl : _ = D.tup [_, _]) | exact rfl)) ?_
  refine s_q rfl rfl (q_extract rfl rfl rfl) ?_
  refine s_q rfl rfl (q_extract rfl rfl rfl) ?_
  refine s_q rfl rfl (q_mv (.inr rfl) (is_sc rfl)) ?_
  refine s_q rfl rfl (q_mv (.inr rfl) (by first | exact is_ifc rfl | exact is_sc rfl | exact rfl)) ?_
  refine s_nil (n_n (w_seq (w_seq (w_reg (s_q rfl rfl (q_mv (.inl rfl) (by first | exact is_ifc rfl | exact is_sc rfl | exact rfl)) ?_)))))
  refine s_q rfl rfl (q_ifNeN rfl rfl rfl) ?_
  refine s_nil (n_n (w_ifF rfl (w_skip (n_n (w_seq (w_seq (w_reg (s_q rfl rfl (q_mv (.inl rfl) (by first | exact is_box rfl | exact is_hp rfl | exact is_pin rfl | exact is_sc rfl | exact rfl)) ?_))))))))
  refine s_o rfl rfl (ao_callH rfl rfl rfl rfl (pf_Len _ k _ H) fun vln Hvln hvln => ?_)
  obtain ⟨rfl, e⟩ := hvln
  rw [e]; clear e
  refine s_q rfl rfl (q_mv (.inl rfl) (is_sc rfl)) ?_
  refine s_q rfl rfl (q_as (bl_no (show ¬ ((es.length : Nat) : Int) ≤ (m : Int) by omega)) (q_leq rfl rfl rfl)) ?_
  refine s_nil (n_n (w_ifF rfl (w_skip (n_n (w_seq (w_reg (s_q rfl rfl (q_mv (.inl rfl) (by first | exact is_box rfl | exact is_hp rfl | exact is_pin rfl | exact is_sc rfl | exact rfl)) ?_)))))))
  refine s_o rfl rfl (ao_callH rfl rfl rfl rfl (pf_Front _ k _ H (by omega) (by omega)) fun vfr Hvfr hvfr => ?_)
  obtain ⟨e_, e⟩ := hvfr
  rw [e]; clear e
  replace e_ : vfr = D.hp (es[0]'(by omega)).1 0 := e_
  subst e_
  refine s_q rfl rfl (q_mv (.inr rfl) (by first | exact is_box rfl | exact is_hp rfl | exact is_pin rfl | exact is_sc rfl | exact rfl)) ?_
  refine s_nil (n_n (w_seq (w_seq (w_reg (s_q rfl rfl (q_mv (.inr rfl) (is_sc rfl)) ?_)))))
  refine s_nil (n_n (w_block ?_))
  refine w_loop (fun env A => ∃ (i : Nat) (hi : i ≤ m), Binds env [(5, i64 m), (7, .hp (es[i]'(by omega)).1 0), (8, i64 i), (4, .box 0 0)] ∧ A = ⟨[.cells [.sc (.string ⟨⟨[]⟩⟩), .sc (.float .f64 0), .sc (.string ⟨⟨[]⟩⟩), .sc (.slice none 0 0), .sc (.slice none 0 0), .sc (.bool false), .sc (.string ⟨⟨[]⟩⟩), .sc (.int .u8 0), .sc (.pointer none), .sc (.pointer none)]], fun _ => false, 0, h⟩) (fun env _ => m - ctr (env 8)) ?_ ?_
  · exact ⟨0, Nat.zero_le _, ⟨rfl, rfl, rfl, rfl, trivial⟩, rfl⟩
  · rintro env A ⟨i, hi, hB, rfl⟩
    rw [hB.eq]; clear hB
    refine w_seq (w_seq (w_reg (s_q rfl rfl (q_mv (.inl rfl) (is_sc rfl)) ?_)))
    refine s_q rfl rfl (q_mv (.inl rfl) (is_sc rfl)) ?_
    refine s_q rfl rfl (q_lss rfl rfl rfl) ?_
    refine s_nil (n_n (w_if (is_scb rfl) (fun h36 => ?_) (fun h36 => ?_)))
    · have hlt : i < m := by have h' : (i : Int) < ((m : Nat) : Int) := of_decide_eq_true h36; omega
      refine w_skip (n_n (w_seq (w_block (w_reg (s_q rfl rfl (q_mv (.inl rfl) (by first | exact is_box rfl | exact is_hp rfl | exact is_pin rfl | exact is_sc rfl | exact rfl)) ?_)))))
      refine s_o rfl rfl (ao_callH rfl rfl rfl rfl (pf_NextA _ k es H i (by omega) (by omega)) fun vnx Hvnx hvnx => ?_)
      obtain ⟨e_, e⟩ := hvnx
      rw [e]; clear e
      replace e_ : vnx = D.hp (es[i + 1]'(by omega)).1 0 := e_
      subst e_
      refine s_q rfl rfl (q_mv (.inr rfl) (by first | exact is_box rfl | exact is_hp rfl | exact is_pin rfl | exact is_sc rfl | exact rfl)) ?_
      refine s_nil (b_n (n_n (w_reg (s_q rfl rfl (q_mv (.inl rfl) (is_sc rfl)) ?_))))
      refine s_q rfl rfl (q_add rfl rfl rfl) ?_
      refine s_q rfl rfl (q_mv (.inr rfl) (is_sc rfl)) ?_
      refine s_nil (n_n ?_)
      have hw : IntKind.i64.wrap ((i : Int) + 1) = ((i + 1 : Nat) : Int) := wrap_nat (by omega)
      refine ⟨⟨i + 1, hlt, ⟨rfl, rfl, i64_eq hw, rfl, trivial⟩, rfl⟩, ?_⟩
      show m - (IntKind.i64.wrap ((i : Int) + 1)).toNat < m - (i : Int).toNat
      rw [hw]; omega
    · have hge : m ≤ i := by have h' : ¬ (i : Int) < ((m : Nat) : Int) := of_decide_eq_false h36; omega
      have him : m = i := by omega
      subst him
      refine w_exit (n_e (n_e (b_hit (n_n (w_seq (w_reg (s_q rfl rfl (q_mv (.inl rfl) (by first | exact is_box rfl | exact is_hp rfl | exact is_pin rfl | exact is_sc rfl | exact rfl)) ?_)))))))
      refine s_q rfl rfl (q_nil rfl rfl rfl) ?_
      refine s_q rfl rfl (q_field rfl rfl (by exact rfl)) ?_
      refine s_q rfl rfl (q_loadH rfl rfl (d := .ifc 75 (fs[m]).d) (by show Heap.get h _ 3 = _; rw [H.val _ (List.getElem_mem hme), hat m hme])) ?_
      refine s_q rfl rfl (q_asr rfl rfl) ?_
      refine s_u rfl rfl (as_st rfl rfl (by first | exact (rfl : _ = D.agg [_, _, _, _, _, _, _, _, _, _]) | exact rfl) rfl (by exact rfl) (by exact rfl) (by exact Nat.le_of_ble_eq_true rfl) (by exact (rfl : _ = [_, _, _, _, _, _, _, _, _, _]))) ?_
      refine s_nil (n_n (w_ret ?_))
      -- end 0
      refine r_r (ra_cell (by exact (rfl : _ = some (D.agg [_, _, _, _, _, _, _, _, _, _]))) ra_nil) (by first | exact (rfl : _ = D.agg [_, _, _, _, _, _, _, _, _, _]) | exact rfl) (by exact rfl) (Sub.refl _) ?_
      rfl


-- pub-tallysheet/pub/excelize.DoorCHOOSE
theorem pf_DoorCHOOSEE (ivs : List IV) (w m : Nat) (tx : List UInt8) (hl2 : 2 ≤ ivs.length) (hl9 : ivs.length ≤ 1000) (hi0 : innX ivs[0] = fNum w) (hin0 : ∀ v ∈ ivs, PF Tryz.prog G 66 [v.d] (innX v).d) (hv : PF Tryz.prog G 61 [(fNum w).d] (st tx)) (ha : PF Tryz.prog G 67 [st tx] (.tup [i64 m, .sc .nilIface])) (hm : ivs.length ≤ m) (hin : PF Tryz.prog G 27 [ilst ivs] (ilst ivs)) (hout : PF Tryz.prog G 25 [(iErr [35, 86, 65, 76, 85, 69, 33]).d] (iErr [35, 86, 65, 76, 85, 69, 33]).d) : PF Tryz.prog G 36 [ilst ivs] (iErr [35, 86, 65, 76, 85, 69, 33]).d := by
  refine PC.intro rfl Tryz.func36 rfl (Nat.le_of_ble_eq_true rfl) rfl ?_
  refine w_seq (w_reg (s_s rfl rfl (as_alloc0 (id := 0) rfl rfl (by exact (rfl : _ = [_, _, _, _]))) ?_))
  refine s_nil (n_n (w_seq (w_reg (s_o rfl rfl (ao_callH rfl rfl rfl rfl (pf_doorFuncs _) fun v3 Hv3 hv3 => ?_)))))
  obtain ⟨kf, rfl⟩ := hv3
  refine s_q rfl rfl (q_mv (.inl rfl) (by first | exact is_im rfl | exact is_gs rfl | exact is_lit rfl | exact is_ms rfl | exact is_sc rfl | exact rfl)) ?_
  refine s_o rfl rfl (ao_callH rfl rfl rfl rfl (pf_innerList _ ivs (by omega) innX hin0) fun v5 Hv5 hv5 => ?_)
  obtain ⟨kl, es, rfl, hL, hes⟩ := hv5
  refine s_o rfl rfl (ao_callH rfl rfl rfl rfl (pf_CHOOSEE _ kf kl es hL (ivs.map innX) w m tx (by rw [hes, List.map_map]; rfl) (by simpa using hl2) (by simpa using hl9) (by simpa using hi0) hv ha (by simpa using hm)) fun v6 Hv6 hv6 => ?_)
  obtain ⟨t, rfl⟩ := hv6
  refine s_q rfl rfl (q_call rfl rfl rfl rfl (pf_doorE _ _)) ?_
  refine s_u rfl rfl (as_st rfl rfl (by first | exact (rfl : _ = D.agg [_, _, _, _]) | exact rfl) rfl (by exact rfl) (by exact rfl) (by exact Nat.le_of_ble_eq_true rfl) (by exact (rfl : _ = [_, _, _, _]))) ?_
  refine s_nil (n_n (w_ret ?_))
  -- end 0
  refine r_r (ra_cell (by exact (rfl : _ = some (D.agg [_, _, _, _]))) ra_nil) (by first | exact (rfl : _ = D.agg [_, _, _, _]) | exact rfl) (by exact rfl) sub_no ?_
  rfl


-- pub-tallysheet/impl.CHOOSE
theorem pf_ImplCHOOSEE (ivs : List IV) (w m : Nat) (tx : List UInt8) (hl2 : 2 ≤ ivs.length) (hl9 : ivs.length ≤ 1000) (hi0 : innX ivs[0] = fNum w) (hin0 : ∀ v ∈ ivs, PF Tryz.prog G 66 [v.d] (innX v).d) (hv : PF Tryz.prog G 61 [(fNum w).d] (st tx)) (ha : PF Tryz.prog G 67 [st tx] (.tup [i64 m, .sc .nilIface])) (hm : ivs.length ≤ m) (hin : PF Tryz.prog G 27 [ilst ivs] (ilst ivs)) (hout : PF Tryz.prog G 25 [(iErr [35, 86, 65, 76, 85, 69, 33]).d] (iErr [35, 86, 65, 76, 85, 69, 33]).d) : PF Tryz.prog G 14 [ilst ivs] (iErr [35, 86, 65, 76, 85, 69, 33]).d := by
  refine PC.intro rfl Tryz.func14 rfl (Nat.le_of_ble_eq_true rfl) rfl ?_
  refine w_seq (w_reg (s_s rfl rfl (as_alloc0 (id := 0) rfl rfl (by exact (rfl : _ = [_, _, _, _]))) ?_))
  refine s_nil (n_n (w_seq (w_reg (s_q rfl rfl (q_mv (.inl rfl) (by first | exact is_im rfl | exact is_gs rfl | exact is_lit rfl | exact is_ms rfl | exact is_sc rfl | exact rfl)) ?_))))
  refine s_q rfl rfl (q_call rfl rfl rfl rfl hin) ?_
  refine s_q rfl rfl (q_call rfl rfl rfl rfl (pf_DoorCHOOSEE ivs w m tx hl2 hl9 hi0 hin0 hv ha hm hin hout)) ?_
  refine s_q rfl rfl (q_call rfl rfl rfl rfl hout) ?_
  refine s_u rfl rfl (as_st rfl rfl (by first | exact (rfl : _ = D.agg [_, _, _, _]) | exact rfl) rfl (by exact rfl) (by exact rfl) (by exact Nat.le_of_ble_eq_true rfl) (by exact (rfl : _ = [_, _, _, _]))) ?_
  refine s_nil (n_n (w_ret ?_))
  -- end 0
  refine r_r (ra_cell (by exact (rfl : _ = some (D.agg [_, _, _, _]))) ra_nil) (by first | exact (rfl : _ = D.agg [_, _, _, _]) | exact rfl) (by exact rfl) sub_no ?_
  rfl


-- pub-tallysheet/pub/excelize.DoorCHOOSE
theorem pf_DoorCHOOSEV (ivs : List IV) (w m : Nat) (tx : List UInt8) (hl2 : 2 ≤ ivs.length) (hl9 : ivs.length ≤ 1000) (hi0 : innX ivs[0] = fNum w) (hin0 : ∀ v ∈ ivs, PF Tryz.prog G 66 [v.d] (innX v).d) (hv : PF Tryz.prog G 61 [(fNum w).d] (st tx)) (ha : PF Tryz.prog G 67 [st tx] (.tup [i64 m, .sc .nilIface])) (hm : m < ivs.length) (r : IV) (hd : PF Tryz.prog G 42 [(innX ivs[m]).d] r.d) (hin : PF Tryz.prog G 27 [ilst ivs] (ilst ivs)) (hout : PF Tryz.prog G 25 [(r).d] (r).d) : PF Tryz.prog G 36 [ilst ivs] (r).d := by
  refine PC.intro rfl Tryz.func36 rfl (Nat.le_of_ble_eq_true rfl) rfl ?_
  refine w_seq (w_reg (s_s rfl rfl (as_alloc0 (id := 0) rfl rfl (by exact (rfl : _ = [_, _, _, _]))) ?_))
  refine s_nil (n_n (w_seq (w_reg (s_o rfl rfl (ao_callH rfl rfl rfl rfl (pf_doorFuncs _) fun v3 Hv3 hv3 => ?_)))))
  obtain ⟨kf, rfl⟩ := hv3
  refine s_q rfl rfl (q_mv (.inl rfl) (by first | exact is_im rfl | exact is_gs rfl | exact is_lit rfl | exact is_ms rfl | exact is_sc rfl | exact rfl)) ?_
  refine s_o rfl rfl (ao_callH rfl rfl rfl rfl (pf_innerList _ ivs (by omega) innX hin0) fun v5 Hv5 hv5 => ?_)
  obtain ⟨kl, es, rfl, hL, hes⟩ := hv5
  refine s_o rfl rfl (ao_callH rfl rfl rfl rfl (pf_CHOOSEV _ kf kl es hL (ivs.map innX) w m tx (by rw [hes, List.map_map]; rfl) (by simpa using hl2) (by simpa using hl9) (by simpa using hi0) hv ha (by simpa using hm)) fun v6 Hv6 hv6 => ?_)
  replace hv6 : v6 = (innX ivs[m]).d := by rw [hv6]; congr 1; simp
  subst hv6
  refine s_q rfl rfl (q_call rfl rfl rfl rfl hd) ?_
  refine s_u rfl rfl (as_st rfl rfl (by first | exact (rfl : _ = D.agg [_, _, _, _]) | exact rfl) rfl (by exact rfl) (by exact rfl) (by exact Nat.le_of_ble_eq_true rfl) (by exact (rfl : _ = [_, _, _, _]))) ?_
  refine s_nil (n_n (w_ret ?_))
  -- end 0
  refine r_r (ra_cell (by exact (rfl : _ = some (D.agg [_, _, _, _]))) ra_nil) (by first | exact (rfl : _ = D.agg [_, _, _, _]) | exact rfl) (by exact rfl) sub_no ?_
  rfl


-- pub-tallysheet/impl.CHOOSE
theorem pf_ImplCHOOSEV (ivs : List IV) (w m : Nat) (tx : List UInt8) (hl2 : 2 ≤ ivs.length) (hl9 : ivs.length ≤ 1000) (hi0 : innX ivs[0] = fNum w) (hin0 : ∀ v ∈ ivs, PF Tryz.prog G 66 [v.d] (innX v).d) (hv : PF Tryz.prog G 61 [(fNum w).d] (st tx)) (ha : PF Tryz.prog G 67 [st tx] (.tup [i64 m, .sc .nilIface])) (hm : m < ivs.length) (r : IV) (hd : PF Tryz.prog G 42 [(innX ivs[m]).d] r.d) (hin : PF Tryz.prog G 27 [ilst ivs] (ilst ivs)) (hout : PF Tryz.prog G 25 [(r).d] (r).d) : PF Tryz.prog G 14 [ilst ivs] (r).d := by
  refine PC.intro rfl Tryz.func14 rfl (Nat.le_of_ble_eq_true rfl) rfl ?_
  refine w_seq (w_reg (s_s rfl rfl (as_alloc0 (id := 0) rfl rfl (by exact (rfl : _ = [_, _, _, _]))) ?_))
  refine s_nil (n_n (w_seq (w_reg (s_q rfl rfl (q_mv (.inl rfl) (by first | exact is_im rfl | exact is_gs rfl | exact is_lit rfl | exact is_ms rfl | exact is_sc rfl | exact rfl)) ?_))))
  refine s_q rfl rfl (q_call rfl rfl rfl rfl hin) ?_
  refine s_q rfl rfl (q_call rfl rfl rfl rfl (pf_DoorCHOOSEV ivs w m tx hl2 hl9 hi0 hin0 hv ha hm r hd hin hout)) ?_
  refine s_q rfl rfl (q_call rfl rfl rfl rfl hout) ?_
  refine s_u rfl rfl (as_st rfl rfl (by first | exact (rfl : _ = D.agg [_, _, _, _]) | exact rfl) rfl (by exact rfl) (by exact rfl) (by exact Nat.le_of_ble_eq_true rfl) (by exact (rfl : _ = [_, _, _, _]))) ?_
  refine s_nil (n_n (w_ret ?_))
  -- end 0
  refine r_r (ra_cell (by exact (rfl : _ = some (D.agg [_, _, _, _]))) ra_nil) (by first | exact (rfl : _ = D.agg [_, _, _, _]) | exact rfl) (by exact rfl) sub_no ?_
  rfl

end Go.Proofs.YtopgbalmdocboaaGreatDoor.Zz
