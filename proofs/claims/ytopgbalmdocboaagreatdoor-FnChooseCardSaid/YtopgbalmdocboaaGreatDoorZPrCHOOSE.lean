/- Walks of the functions, printed by program, and the logic behind them: each theorem says what one function or one step answers. -/
import Derived.Test.YtopgbalmdocboaaGreatDoorZAny
import Derived.Test.YtopgbalmdocboaaGreatDoorZSm
import Derived.Shelf.Abstract
import Derived.Shelf.Strconv.Atoi
namespace Go.Proofs.YtopgbalmdocboaaGreatDoor.Zz
open Go.Abs
set_option maxRecDepth 100000
set_option linter.unusedVariables false
set_option linter.unusedSimpArgs false
set_option maxHeartbeats 4000000
variable {G : Nat → D}
instance : IFT Tryz.prog 101 := ⟨by kernel_rfl⟩

def Tryz.lays172_ren : Go.Shelf.Ren := ⟨fun | 172 => 67 | 244 => 151 | 245 => 152 | 247 => 241 | 279 => 242 | 280 => 243 | 281 => 244 | 282 => 245 | 287 => 263 | 316 => 264 | 171 => 266 | 205 => 265 | 321 => 297 | 322 => 298 | 243 => 299 | 246 => 328 | 283 => 343 | 284 => 290 | 285 => 318 | 286 => 344 | 129 => 278 | 317 => 291 | 318 => 319 | 319 => 354 | 320 => 355 | 337 => 356 | 338 => 357 | n => n, fun | 9 => 9 | 3 => 3 | 75 => 101 | 76 => 102 | 4 => 4 | 5 => 5 | 167 => 202 | 37 => 150 | 0 => 0 | 85 => 203 | 2 => 2 | 168 => 205 | 53 => 235 | 175 => 236 | 46 => 62 | 210 => 239 | 127 => 213 | 145 => 276 | 143 => 274 | 21 => 21 | 171 => 266 | 173 => 326 | 212 => 297 | 51 => 230 | 20 => 20 | 213 => 344 | 232 => 262 | 233 => 346 | 80 => 94 | n => n, fun | 15 => 6 | 16 => 7 | 17 => 9 | 18 => 17 | 19 => 18 | n => n⟩
theorem Tryz.lays172 : Go.Proofs.Lays.n172 Tryz.prog Tryz.lays172_ren where
  mixed := by kernel_rfl
  f129 := Tryz.func278.trans (congrArg some (by kernel_rfl))
  f171 := Tryz.func266.trans (congrArg some (by kernel_rfl))
  f172 := Tryz.func67.trans (congrArg some (by kernel_rfl))
  f205 := Tryz.func265.trans (congrArg some (by kernel_rfl))
  f243 := Tryz.func299.trans (congrArg some (by kernel_rfl))
  f244 := Tryz.func151.trans (congrArg some (by kernel_rfl))
  f245 := Tryz.func152.trans (congrArg some (by kernel_rfl))
  f246 := Tryz.func328.trans (congrArg some (by kernel_rfl))
  f247 := Tryz.func241.trans (congrArg some (by kernel_rfl))
  f279 := Tryz.func242.trans (congrArg some (by kernel_rfl))
  f280 := Tryz.func243.trans (congrArg some (by kernel_rfl))
  f281 := Tryz.func244.trans (congrArg some (by kernel_rfl))
  f282 := Tryz.func245.trans (congrArg some (by kernel_rfl))
  f283 := Tryz.func343.trans (congrArg some (by kernel_rfl))
  f284 := Tryz.func290.trans (congrArg some (by kernel_rfl))
  f285 := Tryz.func318.trans (congrArg some (by kernel_rfl))
  f286 := Tryz.func344.trans (congrArg some (by kernel_rfl))
  f287 := Tryz.func263.trans (congrArg some (by kernel_rfl))
  f316 := Tryz.func264.trans (congrArg some (by kernel_rfl))
  f317 := Tryz.func291.trans (congrArg some (by kernel_rfl))
  f318 := Tryz.func319.trans (congrArg some (by kernel_rfl))
  f319 := Tryz.func354.trans (congrArg some (by kernel_rfl))
  f320 := Tryz.func355.trans (congrArg some (by kernel_rfl))
  f321 := Tryz.func297.trans (congrArg some (by kernel_rfl))
  f322 := Tryz.func298.trans (congrArg some (by kernel_rfl))
  f337 := Tryz.func356.trans (congrArg some (by kernel_rfl))
  f338 := Tryz.func357.trans (congrArg some (by kernel_rfl))
  t0 := Tryz.underlying0
  a0 := Tryz.isAgg0
  z0 := Tryz.sizeOf0
  v0 := Tryz.zeroValue0
  t2 := Tryz.underlying2
  a2 := Tryz.isAgg2
  z2 := Tryz.sizeOf2
  v2 := Tryz.zeroValue2
  t3 := Tryz.underlying3
  a3 := Tryz.isAgg3
  z3 := Tryz.sizeOf3
  v3 := Tryz.zeroValue3
  t4 := Tryz.underlying4
  a4 := Tryz.isAgg4
  z4 := Tryz.sizeOf4
  v4 := Tryz.zeroValue4
  t5 := Tryz.underlying5
  a5 := Tryz.isAgg5
  z5 := Tryz.sizeOf5
  v5 := Tryz.zeroValue5
  t9 := Tryz.underlying9
  a9 := Tryz.isAgg9
  z9 := Tryz.sizeOf9
  v9 := Tryz.zeroValue9
  t20 := Tryz.underlying20
  a20 := Tryz.isAgg20
  z20 := Tryz.sizeOf20
  v20 := Tryz.zeroValue20
  t21 := Tryz.underlying21
  a21 := Tryz.isAgg21
  z21 := Tryz.sizeOf21
  v21 := Tryz.zeroValue21
  t37 := Tryz.underlying150
  a37 := Tryz.isAgg150
  z37 := Tryz.sizeOf150
  v37 := Tryz.zeroValue150
  t46 := Tryz.underlying62
  a46 := Tryz.isAgg62
  z46 := Tryz.sizeOf62
  v46 := Tryz.zeroValue62
  t51 := Tryz.underlying230
  a51 := Tryz.isAgg230
  z51 := Tryz.sizeOf230
  v51 := Tryz.zeroValue230
  t53 := Tryz.underlying235
  a53 := Tryz.isAgg235
  z53 := Tryz.sizeOf235
  v53 := Tryz.zeroValue235
  t75 := Tryz.underlying101
  a75 := Tryz.isAgg101
  z75 := Tryz.sizeOf101
  v75 := Tryz.zeroValue101
  t76 := Tryz.underlying102
  a76 := Tryz.isAgg102
  z76 := Tryz.sizeOf102
  v76 := Tryz.zeroValue102
  t85 := Tryz.underlying203
  a85 := Tryz.isAgg203
  z85 := Tryz.sizeOf203
  v85 := Tryz.zeroValue203
  t127 := Tryz.underlying213
  a127 := Tryz.isAgg213
  z127 := Tryz.sizeOf213
  v127 := Tryz.zeroValue213
  t143 := Tryz.underlying274
  a143 := Tryz.isAgg274
  z143 := Tryz.sizeOf274
  v143 := Tryz.zeroValue274
  t145 := Tryz.underlying276
  a145 := Tryz.isAgg276
  z145 := Tryz.sizeOf276
  v145 := Tryz.zeroValue276
  t167 := Tryz.underlying202
  a167 := Tryz.isAgg202
  z167 := Tryz.sizeOf202
  v167 := Tryz.zeroValue202
  t168 := Tryz.underlying205
  a168 := Tryz.isAgg205
  z168 := Tryz.sizeOf205
  v168 := Tryz.zeroValue205
  t171 := Tryz.underlying266
  a171 := Tryz.isAgg266
  z171 := Tryz.sizeOf266
  v171 := Tryz.zeroValue266
  t173 := Tryz.underlying326
  a173 := Tryz.isAgg326
  z173 := Tryz.sizeOf326
  v173 := Tryz.zeroValue326
  t175 := Tryz.underlying236
  a175 := Tryz.isAgg236
  z175 := Tryz.sizeOf236
  v175 := Tryz.zeroValue236
  t210 := Tryz.underlying239
  a210 := Tryz.isAgg239
  z210 := Tryz.sizeOf239
  v210 := Tryz.zeroValue239
  t212 := Tryz.underlying297
  a212 := Tryz.isAgg297
  z212 := Tryz.sizeOf297
  v212 := Tryz.zeroValue297
  t213 := Tryz.underlying344
  a213 := Tryz.isAgg344
  z213 := Tryz.sizeOf344
  t232 := Tryz.underlying262
  a232 := Tryz.isAgg262
  z232 := Tryz.sizeOf262
  v232 := Tryz.zeroValue262
  t233 := Tryz.underlying346
  a233 := Tryz.isAgg346
  z233 := Tryz.sizeOf346
  v233 := Tryz.zeroValue346
  g15 := by kernel_rfl
  g16 := by kernel_rfl
  g17 := by kernel_rfl
  g18 := by kernel_rfl
  g19 := by kernel_rfl
theorem pf_Atoi (s : List UInt8) (n : Int) (hl : s.length ≤ 18) (h : Lib.atoi s = some n) : PF Tryz.prog G 67 [st s] (.tup [i64 n, .sc .nilIface]) :=
  pf_shelf fun g Prot w cargs hr ha => by
    simp only [repL] at ha
    obtain ⟨v, r, rfl, h1, rfl⟩ := ha
    simp only [rep] at h1
    subst h1
    refine (Any.strconv_Atoi Tryz.lays172 ⟨⟨s⟩⟩ n hl h w).mono fun e w' ⟨h2, t, h3⟩ => ⟨_, h2, by rw [h3]; exact Lib.bytesWorld_below _ _ _, ?_⟩
    simp only [rep]
    exact ⟨[.int .i64 n, .nilIface], rfl, by simp only [repL, rep]; exact ⟨_, _, rfl, rfl, _, _, rfl, rfl, rfl⟩⟩


-- (*pub-tallysheet/pub/excelize.formulaFuncs).CHOOSE
theorem pf_CHOOSEE (h : Heap) (kf k : Nat) (es : List (Nat × D)) (H : IsList h k es) (fs : List F) (w m : Nat) (tx : List UInt8) (hes : es.map (·.2) = fs.map fun f => D.ifc 75 f.d) (hfl : 2 ≤ fs.length) (hf9 : fs.length ≤ 1000) (hf0 : fs[0] = fNum w) (hv : PF Tryz.prog G 61 [(fNum w).d] (st tx)) (ha : PF Tryz.prog G 67 [st tx] (.tup [i64 m, .sc .nilIface])) (hm : fs.length ≤ m) : ACall Tryz.prog G 46 true [.hp kf 0, .hp k 0] h (fun ret _ => ∃ t, ret = (fErr [35, 86, 65, 76, 85, 69, 33] t).d) := by
  have hel : es.length = fs.length := by have := congrArg List.length hes; simpa using this
  have hat : ∀ i (hi : i < es.length), es[i].2 = D.ifc 75 (fs[i]'(by omega)).d := fun i hi => by
    have h1 : (es.map (·.2))[i]? = some es[i].2 := by simp [hi]
    rw [hes, List.getElem?_map, List.getElem?_eq_getElem (by omega)] at h1
    exact (Option.some.inj h1).symm
  have hv0 : Heap.get h (es[0]'(by omega)).1 3 = some (.ifc 75 (fNum w).d) := by
    rw [H.val _ (List.getElem_mem (by omega)), hat 0 (by omega), hf0]
  refine ACall.intro rfl Tryz.func46 rfl (Nat.le_of_ble_eq_true rfl) rfl ?_
  refine w_seq (w_reg (s_s rfl rfl (as_alloc0 (id := 0) rfl rfl (by exact (rfl : _ = [_, _, _, _, _, _, _, _, _, _]))) ?_))
  refine s_nil (n_n (w_seq (w_seq (w_reg (s_q rfl rfl (q_mv (.inl rfl) (by first | exact is_box rfl | exact is_hp rfl | exact is_pin rfl | exact is_sc rfl | exact rfl)) ?_)))))
  refine s_o rfl rfl (ao_callH rfl rfl rfl rfl (pf_Len _ k _ H) fun vln Hvln hvln => ?_)
  obtain ⟨rfl, e⟩ := hvln
  rw [e]; clear e
  refine s_q rfl rfl (q_as (bl_no (show ¬ ((es.length : Nat) : Int) < 2 by omega)) (q_lss rfl rfl rfl)) ?_
  refine s_nil (n_n (w_ifF rfl (w_skip (n_n (w_seq (w_reg (s_q rfl rfl (q_mv (.inl rfl) (by first | exact is_box rfl | exact is_hp rfl | exact is_pin rfl | exact is_sc rfl | exact rfl)) ?_)))))))
  refine s_o rfl rfl (ao_callH rfl rfl rfl rfl (pf_Front _ k _ H (by omega) (by omega)) fun vfr Hvfr hvfr => ?_)
  obtain ⟨e_, e⟩ := hvfr
  rw [e]; clear e
  replace e_ : vfr = D.hp (es[0]'(by omega)).1 0 := e_
  subst e_
  refine s_q rfl rfl (q_nil rfl rfl rfl) ?_
  refine s_q rfl rfl (q_field rfl rfl (by exact rfl)) ?_
  refine s_q rfl rfl (q_loadH rfl rfl (d := .ifc 75 (fNum w).d) (by exact hv0)) ?_
  refine s_q rfl rfl (q_asr rfl rfl) ?_
  refine s_q rfl rfl (q_call rfl rfl rfl rfl hv) ?_
  refine s_q rfl rfl (q_call rfl rfl rfl rfl ha) ?_
  refine s_q rfl rfl (q_mv (.inl rfl) (by first | exact (rfl : _ = D.tup [_, _]) | exact rfl)) ?_
  refine s_q rfl rfl (q_extract rfl rfl rfl) ?_
  refine s_q rfl rfl (q_extract rfl rfl rfl) ?_
  refine s_q rfl rfl (q_mv (.inr rfl) (is_sc rfl)) ?_
  refine s_q rfl rfl (q_mv (.inr rfl) (by first | exact is_ifc rfl | exact is_sc rfl | exact rfl)) ?_
  refine s_nil (n_n (w_seq (w_seq (w_reg (s_q rfl rfl (q_mv (.inl rfl) (by first | exact is_ifc rfl | exact is_sc rfl | exact rfl)) ?_)))))
  refine s_q rfl rfl (q_ifNeN rfl rfl rfl) ?_
  refine s_nil (n_n (w_ifF rfl (w_skip (n_n (w_seq (w_seq (w_reg (s_q rfl rfl (q_mv (.inl rfl) (by first | exact is_box rfl | exact is_hp rfl | exact is_pin rfl | exact is_sc rfl | exact rfl)) ?_))))))))
  refine s_o rfl rfl (ao_callH rfl rfl rfl rfl (pf_Len _ k _ H) fun vln Hvln hvln => ?_)
  obtain ⟨rfl, e⟩ := hvln
  rw [e]; clear e
  refine s_q rfl rfl (q_mv (.inl rfl) (is_sc rfl)) ?_
  refine s_q rfl rfl (q_as (bl_yes (show ((es.length : Nat) : Int) ≤ (m : Int) by omega)) (q_leq rfl rfl rfl)) ?_
  refine s_nil (n_n (w_ifT rfl (w_seq (w_reg (s_q rfl rfl (q_call rfl rfl rfl rfl (pf_newErr _ _)) ?_)))))
  refine s_u rfl rfl (as_st rfl rfl (by first | exact (rfl : _ = D.agg [_, _, _, _, _, _, _, _, _, _]) | exact rfl) rfl (by exact rfl) (by exact rfl) (by exact Nat.le_of_ble_eq_true rfl) (by exact (rfl : _ = [_, _, _, _, _, _, _, _, _, _]))) ?_
  refine s_nil (n_n (w_ret (n_r ?_)))
  -- end 0
  refine r_r (ra_cell (by exact (rfl : _ = some (D.agg [_, _, _, _, _, _, _, _, _, _]))) ra_nil) (by first | exact (rfl : _ = D.agg [_, _, _, _, _, _, _, _, _, _]) | exact rfl) (by exact rfl) (Sub.refl _) ?_
  exact ⟨_, rfl⟩


-- (*pub-tallysheet/pub/excelize.formulaFuncs).CHOOSE
theorem pf_CHOOSEV (h : Heap) (kf k : Nat) (es : List (Nat × D)) (H : IsList h k es) (fs : List F) (w m : Nat) (tx : List UInt8) (hes : es.map (·.2) = fs.map fun f => D.ifc 75 f.d) (hfl : 2 ≤ fs.length) (hf9 : fs.length ≤ 1000) (hf0 : fs[0] = fNum w) (hv : PF Tryz.prog G 61 [(fNum w).d] (st tx)) (ha : PF Tryz.prog G 67 [st tx] (.tup [i64 m, .sc .nilIface])) (hm : m < fs.length) : ACall Tryz.prog G 46 true [.hp kf 0, .hp k 0] h (fun ret _ => ret = (fs[m]).d) := by
  have hel : es.length = fs.length := by have := congrArg List.length hes; simpa using this
  have hat : ∀ i (hi : i < es.length), es[i].2 = D.ifc 75 (fs[i]'(by omega)).d := fun i hi => by
    have h1 : (es.map (·.2))[i]? = some es[i].2 := by simp [hi]
    rw [hes, List.getElem?_map, List.getElem?_eq_getElem (by omega)] at h1
    exact (Option.some.inj h1).symm
  have hv0 : Heap.get h (es[0]'(by omega)).1 3 = some (.ifc 75 (fNum w).d) := by
    rw [H.val _ (List.getElem_mem (by omega)), hat 0 (by omega), hf0]
  have hme : m < es.length := by omega
  refine ACall.intro rfl Tryz.func46 rfl (Nat.le_of_ble_eq_true rfl) rfl ?_
  refine w_seq (w_reg (s_s rfl rfl (as_alloc0 (id := 0) rfl rfl (by exact (rfl : _ = [_, _, _, _, _, _, _, _, _, _]))) ?_))
  refine s_nil (n_n (w_seq (w_seq (w_reg (s_q rfl rfl (q_mv (.inl rfl) (by first | exact is_box rfl | exact is_hp rfl | exact is_pin rfl | exact is_sc rfl | exact rfl)) ?_)))))
  refine s_o rfl rfl (ao_callH rfl rfl rfl rfl (pf_Len _ k _ H) fun vln Hvln hvln => ?_)
  obtain ⟨rfl, e⟩ := hvln
  rw [e]; clear e
  refine s_q rfl rfl (q_as (bl_no (show ¬ ((es.length : Nat) : Int) < 2 by omega)) (q_lss rfl rfl rfl)) ?_
  refine s_nil (n_n (w_ifF rfl (w_skip (n_n (w_seq (w_reg (s_q rfl rfl (q_mv (.inl rfl) (by first | exact is_box rfl | exact is_hp rfl | exact is_pin rfl | exact is_sc rfl | exact rfl)) ?_)))))))
  refine s_o rfl rfl (ao_callH rfl rfl rfl rfl (pf_Front _ k _ H (by omega) (by omega)) fun vfr Hvfr hvfr => ?_)
  obtain ⟨e_, e⟩ := hvfr
  rw [e]; clear e
  replace e_ : vfr = D.hp (es[0]'(by omega)).1 0 := e_
  subst e_
  refine s_q rfl rfl (q_nil rfl rfl rfl) ?_
  refine s_q rfl rfl (q_field rfl rfl (by exact rfl)) ?_
  refine s_q rfl rfl (q_loadH rfl rfl (d := .ifc 75 (fNum w).d) (by exact hv0)) ?_
  refine s_q rfl rfl (q_asr rfl rfl) ?_
  refine s_q rfl rfl (q_call rfl rfl rfl rfl hv) ?_
  refine s_q rfl rfl (q_call rfl rfl rfl rfl ha) ?_
  refine s_q rfl rfl (q_mv (.inl rfl) (by first | exact (rfl : _ = D.tup [_, _]) | exact rfl)) ?_
  refine s_q rfl rfl (q_extract rfl rfl rfl) ?_
  refine s_q rfl rfl (q_extract rfl rfl rfl) ?_
  refine s_q rfl rfl (q_mv (.inr rfl) (is_sc rfl)) ?_
  refine s_q rfl rfl (q_mv (.inr rfl) (by first | exact is_ifc rfl | exact is_sc rfl | exact rfl)) ?_
  refine s_nil (n_n (w_seq (w_seq (w_reg (s_q rfl rfl (q_mv (.inl rfl) (by first | exact is_ifc rfl | exact is_sc rfl | exact rfl)) ?_)))))
  refine s_q rfl rfl (q_ifNeN rfl rfl rfl) ?_
  refine s_nil (n_n (w_ifF rfl (w_skip (n_n (w_seq (w_seq (w_reg (s_q rfl rfl (q_mv (.inl rfl) (by first | exact is_box rfl | exact is_hp rfl | exact is_pin rfl | exact is_sc rfl | exact rfl)) ?_))))))))
  refine s_o rfl rfl (ao_callH rfl rfl rfl rfl (pf_Len _ k _ H) fun vln Hvln hvln => ?_)
  obtain ⟨rfl, e⟩ := hvln
  rw [e]; clear e
  refine s_q rfl rfl (q_mv (.inl rfl) (is_sc rfl)) ?_
  refine s_q rfl rfl (q_as (bl_no (show ¬ ((es.length : Nat) : Int) ≤ (m : Int) by omega)) (q_leq rfl rfl rfl)) ?_
  refine s_nil (n_n (w_ifF rfl (w_skip (n_n (w_seq (w_reg (s_q rfl rfl (q_mv (.inl rfl) (by first | exact is_box rfl | exact is_hp rfl | exact is_pin rfl | exact is_sc rfl | exact rfl)) ?_)))))))
  refine s_o rfl rfl (ao_callH rfl rfl rfl rfl (pf_Front _ k _ H (by omega) (by omega)) fun vfr Hvfr hvfr => ?_)
  obtain ⟨e_, e⟩ := hvfr
  rw [e]; clear e
  replace e_ : vfr = D.hp (es[0]'(by omega)).1 0 := e_
  subst e_
  refine s_q rfl rfl (q_mv (.inr rfl) (by first | exact is_box rfl | exact is_hp rfl | exact is_pin rfl | exact is_sc rfl | exact rfl)) ?_
  refine s_nil (n_n (w_seq (w_seq (w_reg (s_q rfl rfl (q_mv (.inr rfl) (is_sc rfl)) ?_)))))
  refine s_nil (n_n (w_block ?_))
  refine w_loop (fun env A => ∃ (i : Nat) (hi : i ≤ m), Binds env [(5, i64 m), (7, .hp (es[i]'(by omega)).1 0), (8, i64 i), (4, .box 0 0)] ∧ A = ⟨[.cells [.sc (.string ⟨⟨[]⟩⟩), .sc (.float .f64 0), .sc (.string ⟨⟨[]⟩⟩), .sc (.slice none 0 0), .sc (.slice none 0 0), .sc (.bool false), .sc (.string ⟨⟨[]⟩⟩), .sc (.int .u8 0), .sc (.pointer none), .sc (.pointer none)]], fun _ => false, 0, h⟩) (fun env _ => m - ctr (env 8)) ?_ ?_
  · exact ⟨0, Nat.zero_le _, ⟨rfl, rfl, rfl, rfl, trivial⟩, rfl⟩
  · rintro env A ⟨i, hi, hB, rfl⟩
    rw [hB.eq]; clear hB
    refine w_seq (w_seq (w_reg (s_q rfl rfl (q_mv (.inl rfl) (is_sc rfl)) ?_)))
    refine s_q rfl rfl (q_mv (.inl rfl) (is_sc rfl)) ?_
    refine s_q rfl rfl (q_lss rfl rfl rfl) ?_
    refine s_nil (n_n (w_if (is_scb rfl) (fun h36 => ?_) (fun h36 => ?_)))
    · have hlt : i < m := by have h' : (i : Int) < ((m : Nat) : Int) := of_decide_eq_true h36; omega
      refine w_skip (n_n (w_seq (w_block (w_reg (s_q rfl rfl (q_mv (.inl rfl) (by first | exact is_box rfl | exact is_hp rfl | exact is_pin rfl | exact is_sc rfl | exact rfl)) ?_)))))
      refine s_o rfl rfl (ao_callH rfl rfl rfl rfl (pf_NextA _ k es H i (by omega) (by omega)) fun vnx Hvnx hvnx => ?_)
      obtain ⟨e_, e⟩ := hvnx
      rw [e]; clear e
      replace e_ : vnx = D.hp (es[i + 1]'(by omega)).1 0 := e_
      subst e_
      refine s_q rfl rfl (q_mv (.inr rfl) (by first | exact is_box rfl | exact is_hp rfl | exact is_pin rfl | exact is_sc rfl | exact rfl)) ?_
      refine s_nil (b_n (n_n (w_reg (s_q rfl rfl (q_mv (.inl rfl) (is_sc rfl)) ?_))))
      refine s_q rfl rfl (q_add rfl rfl rfl) ?_
      refine s_q rfl rfl (q_mv (.inr rfl) (is_sc rfl)) ?_
      refine s_nil (n_n ?_)
      have hw : IntKind.i64.wrap ((i : Int) + 1) = ((i + 1 : Nat) : Int) := wrap_nat (by omega)
      refine ⟨⟨i + 1, hlt, ⟨rfl, rfl, i64_eq hw, rfl, trivial⟩, rfl⟩, ?_⟩
      show m - (IntKind.i64.wrap ((i : Int) + 1)).toNat < m - (i : Int).toNat
      rw [hw]; omega
    · have hge : m ≤ i := by have h' : ¬ (i : Int) < ((m : Nat) : Int) := of_decide_eq_false h36; omega
      have him : m = i := by omega
      subst him
      refine w_exit (n_e (n_e (b_hit (n_n (w_seq (w_reg (s_q rfl rfl (q_mv (.inl rfl) (by first | exact is_box rfl | exact is_hp rfl | exact is_pin rfl | exact is_sc rfl | exact rfl)) ?_)))))))
      refine s_q rfl rfl (q_nil rfl rfl rfl) ?_
      refine s_q rfl rfl (q_field rfl rfl (by exact rfl)) ?_
      refine s_q rfl rfl (q_loadH rfl rfl (d := .ifc 75 (fs[m]).d) (by show Heap.get h _ 3 = _; rw [H.val _ (List.getElem_mem hme), hat m hme])) ?_
      refine s_q rfl rfl (q_asr rfl rfl) ?_
      refine s_u rfl rfl (as_st rfl rfl (by first | exact (rfl : _ = D.agg [_, _, _, _, _, _, _, _, _, _]) | exact rfl) rfl (by exact rfl) (by exact rfl) (by exact Nat.le_of_ble_eq_true rfl) (by exact (rfl : _ = [_, _, _, _, _, _, _, _, _, _]))) ?_
      refine s_nil (n_n (w_ret ?_))
      -- end 0
      refine r_r (ra_cell (by exact (rfl : _ = some (D.agg [_, _, _, _, _, _, _, _, _, _]))) ra_nil) (by first | exact (rfl : _ = D.agg [_, _, _, _, _, _, _, _, _, _]) | exact rfl) (by exact rfl) (Sub.refl _) ?_
      rfl


-- pub-tallysheet/pub/excelize.DoorCHOOSE
theorem pf_DoorCHOOSEE (ivs : List IV) (w m : Nat) (tx : List UInt8) (hl2 : 2 ≤ ivs.length) (hl9 : ivs.length ≤ 1000) (hi0 : innX ivs[0] = fNum w) (hin0 : ∀ v ∈ ivs, PF Tryz.prog G 66 [v.d] (innX v).d) (hv : PF Tryz.prog G 61 [(fNum w).d] (st tx)) (ha : PF Tryz.prog G 67 [st tx] (.tup [i64 m, .sc .nilIface])) (hm : ivs.length ≤ m) (hin : PF Tryz.prog G 27 [ilst ivs] (ilst ivs)) (hout : PF Tryz.prog G 25 [(iErr [35, 86, 65, 76, 85, 69, 33]).d] (iErr [35, 86, 65, 76, 85, 69, 33]).d) : PF Tryz.prog G 36 [ilst ivs] (iErr [35, 86, 65, 76, 85, 69, 33]).d := by
  refine PC.intro rfl Tryz.func36 rfl (Nat.le_of_ble_eq_true rfl) rfl ?_
  refine w_seq (w_reg (s_s rfl rfl (as_alloc0 (id := 0) rfl rfl (by exact (rfl : _ = [_, _, _, _]))) ?_))
  refine s_nil (n_n (w_seq (w_reg (s_o rfl rfl (ao_callH rfl rfl rfl rfl (pf_doorFuncs _) fun v3 Hv3 hv3 => ?_)))))
  obtain ⟨kf, rfl⟩ := hv3
  refine s_q rfl rfl (q_mv (.inl rfl) (by first | exact is_im rfl | exact is_gs rfl | exact is_lit rfl | exact is_ms rfl | exact is_sc rfl | exact rfl)) ?_
  refine s_o rfl rfl (ao_callH rfl rfl rfl rfl (pf_innerList _ ivs (by omega) innX hin0) fun v5 Hv5 hv5 => ?_)
  obtain ⟨kl, es, rfl, hL, hes⟩ := hv5
  refine s_o rfl rfl (ao_callH rfl rfl rfl rfl (pf_CHOOSEE _ kf kl es hL (ivs.map innX) w m tx (by rw [hes, List.map_map]; rfl) (by simpa using hl2) (by simpa using hl9) (by simpa using hi0) hv ha (by simpa using hm)) fun v6 Hv6 hv6 => ?_)
  obtain ⟨t, rfl⟩ := hv6
  refine s_q rfl rfl (q_call rfl rfl rfl rfl (pf_doorE _ _)) ?_
  refine s_u rfl rfl (as_st rfl rfl (by first | exact (rfl : _ = D.agg [_, _, _, _]) | exact rfl) rfl (by exact rfl) (by exact rfl) (by exact Nat.le_of_ble_eq_true rfl) (by exact (rfl : _ = [_, _, _, _]))) ?_
  refine s_nil (n_n (w_ret ?_))
  -- end 0
  refine r_r (ra_cell (by exact (rfl : _ = some (D.agg [_, _, _, _]))) ra_nil) (by first | exact (rfl : _ = D.agg [_, _, _, _]) | exact rfl) (by exact rfl) sub_no ?_
  rfl


-- pub-tallysheet/impl.CHOOSE
theorem pf_ImplCHOOSEE (ivs : List IV) (w m : Nat) (tx : List UInt8) (hl2 : 2 ≤ ivs.length) (hl9 : ivs.length ≤ 1000) (hi0 : innX ivs[0] = fNum w) (hin0 : ∀ v ∈ ivs, PF Tryz.prog G 66 [v.d] (innX v).d) (hv : PF Tryz.prog G 61 [(fNum w).d] (st tx)) (ha : PF Tryz.prog G 67 [st tx] (.tup [i64 m, .sc .nilIface])) (hm : ivs.length ≤ m) (hin : PF Tryz.prog G 27 [ilst ivs] (ilst ivs)) (hout : PF Tryz.prog G 25 [(iErr [35, 86, 65, 76, 85, 69, 33]).d] (iErr [35, 86, 65, 76, 85, 69, 33]).d) : PF Tryz.prog G 14 [ilst ivs] (iErr [35, 86, 65, 76, 85, 69, 33]).d := by
  refine PC.intro rfl Tryz.func14 rfl (Nat.le_of_ble_eq_true rfl) rfl ?_
  refine w_seq (w_reg (s_s rfl rfl (as_alloc0 (id := 0) rfl rfl (by exact (rfl : _ = [_, _, _, _]))) ?_))
  refine s_nil (n_n (w_seq (w_reg (s_q rfl rfl (q_mv (.inl rfl) (by first | exact is_im rfl | exact is_gs rfl | exact is_lit rfl | exact is_ms rfl | exact is_sc rfl | exact rfl)) ?_))))
  refine s_q rfl rfl (q_call rfl rfl rfl rfl hin) ?_
  refine s_q rfl rfl (q_call rfl rfl rfl rfl (pf_DoorCHOOSEE ivs w m tx hl2 hl9 hi0 hin0 hv ha hm hin hout)) ?_
  refine s_q rfl rfl (q_call rfl rfl rfl rfl hout) ?_
  refine s_u rfl rfl (as_st rfl rfl (by first | exact (rfl : _ = D.agg [_, _, _, _]) | exact rfl) rfl (by exact rfl) (by exact rfl) (by exact Nat.le_of_ble_eq_true rfl) (by exact (rfl : _ = [_, _, _, _]))) ?_
  refine s_nil (n_n (w_ret ?_))
  -- end 0
  refine r_r (ra_cell (by exact (rfl : _ = some (D.agg [_, _, _, _]))) ra_nil) (by first | exact (rfl : _ = D.agg [_, _, _, _]) | exact rfl) (by exact rfl) sub_no ?_
  rfl


-- pub-tallysheet/pub/excelize.DoorCHOOSE
theorem pf_DoorCHOOSEV (ivs : List IV) (w m : Nat) (tx : List UInt8) (hl2 : 2 ≤ ivs.length) (hl9 : ivs.length ≤ 1000) (hi0 : innX ivs[0] = fNum w) (hin0 : ∀ v ∈ ivs, PF Tryz.prog G 66 [v.d] (innX v).d) (hv : PF Tryz.prog G 61 [(fNum w).d] (st tx)) (ha : PF Tryz.prog G 67 [st tx] (.tup [i64 m, .sc .nilIface])) (hm : m < ivs.length) (r : IV) (hd : PF Tryz.prog G 42 [(innX ivs[m]).d] r.d) (hin : PF Tryz.prog G 27 [ilst ivs] (ilst ivs)) (hout : PF Tryz.prog G 25 [(r).d] (r).d) : PF Tryz.prog G 36 [ilst ivs] (r).d := by
  refine PC.intro rfl Tryz.func36 rfl (Nat.le_of_ble_eq_true rfl) rfl ?_
  refine w_seq (w_reg (s_s rfl rfl (as_alloc0 (id := 0) rfl rfl (by exact (rfl : _ = [_, _, _, _]))) ?_))
  refine s_nil (n_n (w_seq (w_reg (s_o rfl rfl (ao_callH rfl rfl rfl rfl (pf_doorFuncs _) fun v3 Hv3 hv3 => ?_)))))
  obtain ⟨kf, rfl⟩ := hv3
  refine s_q rfl rfl (q_mv (.inl rfl) (by first | exact is_im rfl | exact is_gs rfl | exact is_lit rfl | exact is_ms rfl | exact is_sc rfl | exact rfl)) ?_
  refine s_o rfl rfl (ao_callH rfl rfl rfl rfl (pf_innerList _ ivs (by omega) innX hin0) fun v5 Hv5 hv5 => ?_)
  obtain ⟨kl, es, rfl, hL, hes⟩ := hv5
  refine s_o rfl rfl (ao_callH rfl rfl rfl rfl (pf_CHOOSEV _ kf kl es hL (ivs.map innX) w m tx (by rw [hes, List.map_map]; rfl) (by simpa using hl2) (by simpa using hl9) (by simpa using hi0) hv ha (by simpa using hm)) fun v6 Hv6 hv6 => ?_)
  replace hv6 : v6 = (innX ivs[m]).d := by rw [hv6]; congr 1; simp
  subst hv6
  refine s_q rfl rfl (q_call rfl rfl rfl rfl hd) ?_
  refine s_u rfl rfl (as_st rfl rfl (by first | exact (rfl : _ = D.agg [_, _, _, _]) | exact rfl) rfl (by exact rfl) (by exact rfl) (by exact Nat.le_of_ble_eq_true rfl) (by exact (rfl : _ = [_, _, _, _]))) ?_
  refine s_nil (n_n (w_ret ?_))
  -- end 0
  refine r_r (ra_cell (by exact (rfl : _ = some (D.agg [_, _, _, _]))) ra_nil) (by first | exact (rfl : _ = D.agg [_, _, _, _]) | exact rfl) (by exact rfl) sub_no ?_
  rfl


-- pub-tallysheet/impl.CHOOSE
theorem pf_ImplCHOOSEV (ivs : List IV) (w m : Nat) (tx : List UInt8) (hl2 : 2 ≤ ivs.length) (hl9 : ivs.length ≤ 1000) (hi0 : innX ivs[0] = fNum w) (hin0 : ∀ v ∈ ivs, PF Tryz.prog G 66 [v.d] (innX v).d) (hv : PF Tryz.prog G 61 [(fNum w).d] (st tx)) (ha : PF Tryz.prog G 67 [st tx] (.tup [i64 m, .sc .nilIface])) (hm : m < ivs.length) (r : IV) (hd : PF Tryz.prog G 42 [(innX ivs[m]).d] r.d) (hin : PF Tryz.prog G 27 [ilst ivs] (ilst ivs)) (hout : PF Tryz.prog G 25 [(r).d] (r).d) : PF Tryz.prog G 14 [ilst ivs] (r).d := by
  refine PC.intro rfl Tryz.func14 rfl (Nat.le_of_ble_eq_true rfl) rfl ?_
  refine w_seq (w_reg (s_s rfl rfl (as_alloc0 (id := 0) rfl rfl (by exact (rfl : _ = [_, _, _, _]))) ?_))
  refine s_nil (n_n (w_seq (w_reg (s_q rfl rfl (q_mv (.inl rfl) (by first | exact is_im rfl | exact is_gs rfl | exact is_lit rfl | exact is_ms rfl | exact is_sc rfl | exact rfl)) ?_))))
  refine s_q rfl rfl (q_call rfl rfl rfl rfl hin) ?_
  refine s_q rfl rfl (q_call rfl rfl rfl rfl (pf_DoorCHOOSEV ivs w m tx hl2 hl9 hi0 hin0 hv ha hm r hd hin hout)) ?_
  refine s_q rfl rfl (q_call rfl rfl rfl rfl hout) ?_
  refine s_u rfl rfl (as_st rfl rfl (by first | exact (rfl : _ = D.agg [_, _, _, _]) | exact rfl) rfl (by exact rfl) (by exact rfl) (by exact Nat.le_of_ble_eq_true rfl) (by exact (rfl : _ = [_, _, _, _]))) ?_
  refine s_nil (n_n (w_ret ?_))
  -- end 0
  refine r_r (ra_cell (by exact (rfl : _ = some (D.agg [_, _, _, _]))) ra_nil) (by first | exact (rfl : _ = D.agg [_, _, _, _]) | exact rfl) (by exact rfl) sub_no ?_
  rfl

end Go.Proofs.YtopgbalmdocboaaGreatDoor.Zz
