/- Walks of the functions, printed by program, and the logic behind them: each theorem says what one function or one step answers. -/
import Derived.Test.YtopgbalmdocboaaGreatDoorZWe
import Derived.Test.YtopgbalmdocboaaGreatDoorZSm
import Derived.Test.YtopgbalmdocboaaGreatDoorZIt2
namespace Go.Proofs.YtopgbalmdocboaaGreatDoor.Zz
open Go.Abs
set_option maxRecDepth 100000
set_option linter.unusedVariables false
set_option linter.unusedSimpArgs false
set_option maxHeartbeats 4000000
variable {G : Nat → D}

-- pub-tallysheet/impl.in
theorem pf_inG (l : List IV) (hl : l.length < 1000000000) (hr : ∀ v ∈ l, v.rows.length < 1000000000 ∧ ∀ r ∈ v.rows, r.length < 1000000000) : PF Tryz.prog G 27 [ilst l] (ilst l) := by
  have hin : ∀ r : List IU, r.length < 1000000000 → PF Tryz.prog G 27 [ilstU r] (ilstU r) := fun r h => by
    have := pf_in (G := G) (r.map IU.v) (by simpa using h) (fun v hv => by obtain ⟨x, _, rfl⟩ := List.mem_map.1 hv; rfl)
    rw [ilst_U] at this; exact this
  refine PC.intro rfl Tryz.func27 rfl (Nat.le_of_ble_eq_true rfl) rfl ?_
  refine w_seq (w_reg (s_q rfl rfl (q_mv (.inr rfl) (by first | exact is_im rfl | exact is_gs rfl | exact is_lit rfl | exact is_ms rfl | exact is_sc rfl | exact rfl)) ?_))
  refine s_nil (n_n (w_seq (w_reg (s_s rfl rfl (as_nil (e := 57) (.inl rfl) rfl) ?_))))
  refine s_nil (n_n (w_seq (w_seq (w_reg (s_q rfl rfl (q_mv (.inl rfl) (by first | exact is_im rfl | exact is_gs rfl | exact is_lit rfl | exact is_ms rfl | exact is_sc rfl | exact rfl)) ?_)))))
  refine s_q rfl rfl (q_len rfl rfl rfl) ?_
  refine s_q rfl rfl (q_mv (.inl rfl) (is_sc rfl)) ?_
  refine s_nil (n_n (w_block ?_))
  refine w_loop (fun env A => ∃ (i t : Nat) (o : List LO) (live : Nat → Bool) (ln : Nat), i ≤ l.length ∧ Binds env [(3, .gs t 57 ((l.take i).flatMap IV.c) (l.take i).length), (9, ilst l), (10, i64 l.length), (11, i64 i)] ∧ A = ⟨o, live, ln, noHeap⟩ ∧ live t = true ∧ t < ln) (fun env _ => l.length - ctr (env 11)) ?_ ?_
  · exact ⟨0, 0, _, _, _, Nat.zero_le _, ⟨rfl, rfl, rfl, rfl, trivial⟩, rfl, rfl, Nat.lt_succ_self _⟩
  · rintro env A ⟨i, t, o, live, ln, hi, hB, rfl, hv, htl⟩
    rw [hB.eq]; clear hB
    rw [show (⟨o, live, ln, noHeap⟩ : AH) = ⟨o ++ [], live, ln, noHeap⟩ by rw [List.append_nil]]
    refine w_seq (w_reg (s_q rfl rfl (q_lss rfl rfl rfl) ?_))
    refine s_nil (n_n (w_seq (w_if (is_scb rfl) (fun h12 => ?_) (fun h12 => ?_))))
    · have hlt : i < l.length := by have h' : (i : Int) < ((l.length : Nat) : Int) := of_decide_eq_true h12; omega
      obtain ⟨hr1, hr2⟩ := hr _ (List.getElem_mem hlt)
      refine w_skip (n_n (w_seq (w_block (w_seq (w_reg (s_q rfl rfl (q_index rfl rfl rfl rfl (Int.natCast_nonneg _) (by omega)) ?_))))))
      refine s_q rfl rfl (q_loadPin rfl rfl (by exact take_ilst hlt)) ?_
      refine s_s rfl rfl (as_allocT (os := o) (tail := []) rfl rfl rfl (by exact (rfl : _ = [_, _, _, _]))) ?_
      refine s_u rfl rfl (as_stT (os := o) (tail := [_]) (j := 0) rfl rfl rfl (by first | exact (rfl : _ = D.agg [_, _, _, _]) | exact rfl) (by exact rfl) (by exact rfl) (by exact rfl) (by exact Nat.le_of_ble_eq_true rfl) (by exact (rfl : _ = [_, _, _, _])) (by exact (rfl : _ = [_]))) ?_
      refine s_nil (n_n (w_seq (w_reg (s_q rfl rfl (q_field rfl rfl (by exact rfl)) ?_))))
      refine s_q rfl rfl (q_loadT (os := o) (tail := [_]) (j := 0) rfl rfl rfl (by exact rfl) (by exact (rfl : _ = some (D.sc _)))) ?_
      refine s_q rfl rfl (q_field rfl rfl (by exact rfl)) ?_
      refine s_q rfl rfl (q_loadT (os := o) (tail := [_]) (j := 0) rfl rfl rfl (by exact rfl) (by exact (rfl : _ = some (D.sc _)))) ?_
      refine s_q rfl rfl (q_field rfl rfl (by exact rfl)) ?_
      refine s_q rfl rfl (q_loadT (os := o) (tail := [_]) (j := 0) rfl rfl rfl (by exact rfl) (by exact (rfl : _ = some (D.sc _)))) ?_
      refine s_q rfl rfl (q_build rfl (pt_cons (is_sc rfl) (pt_cons (is_sc rfl) (pt_cons (is_sc rfl) pt_nil))) (by exact (rfl : _ = some [_, _, _, _]))) ?_
      refine s_s rfl rfl (as_allocT (os := o) (tail := [_]) rfl rfl rfl (by exact (rfl : _ = [_, _, _, _]))) ?_
      refine s_u rfl rfl (as_stT (os := o) (tail := [_, _]) (j := 1) rfl rfl rfl (by first | exact (rfl : _ = D.agg [_, _, _, _]) | exact rfl) (by exact rfl) (by exact rfl) (by exact rfl) (by exact Nat.le_of_ble_eq_true rfl) (by exact (rfl : _ = [_, _, _, _])) (by exact (rfl : _ = [_, _]))) ?_
      refine s_nil (n_n (w_seq (w_seq (w_reg (s_q rfl rfl (q_field rfl rfl (by exact rfl)) ?_)))))
      refine s_q rfl rfl (q_loadT (os := o) (tail := [_, _]) (j := 0) rfl rfl rfl (by exact rfl) (by exact rfl)) ?_
      refine s_q rfl rfl (q_len rfl rfl rfl) ?_
      refine s_s rfl rfl (as_mvNilT (os := o) (tail := [_, _]) (j := 1) (off := 3) (e := 59) (.inr rfl) rfl rfl rfl rfl (by exact (rfl : _ = [_, _]))) ?_
      refine s_nil (n_n (w_block ?_))
      refine w_loop (fun env A => ∃ (j t2 n : Nat) (xs : List D) (live2 : Nat → Bool) (ln2 : Nat), j ≤ l[i].rows.length ∧ Binds env [(3, .gs t 57 ((l.take i).flatMap IV.c) (l.take i).length), (9, ilst l), (10, i64 l.length), (11, i64 i), (6, .box (o.length + 1) 0), (23, .im (l[i].rows.map ilstU) l[i].rows.length), (24, i64 l[i].rows.length), (25, i64 j)] ∧ A = ⟨o ++ [.cells (IV.c l[i]), .cells [i64 l[i].kind, fl l[i].num, st l[i].text, .gs t2 59 xs n]], live2, ln2, noHeap⟩ ∧ xs = (l[i].rows.take j).map ilstU ∧ n = (l[i].rows.take j).length ∧ live2 t = true ∧ live2 t2 = true ∧ t < ln2 ∧ t2 < ln2 ∧ t ≠ t2) (fun env _ => l[i].rows.length - ctr (env 25)) ?_ ?_
      · exact ⟨0, _, 0, [], _, _, Nat.zero_le _, ⟨rfl, rfl, rfl, rfl, rfl, rfl, rfl, rfl, trivial⟩, rfl, rfl, rfl, live_tags_old (A := ⟨_, live, ln, noHeap⟩) hv, live_tags ⟨_, live, ln, noHeap⟩, Nat.lt_succ_of_lt htl, Nat.lt_succ_self _, Nat.ne_of_lt htl⟩
      · clear hv htl
        rintro env A ⟨j, t2, n, xs, live2, ln2, hj, hB, rfl, rfl, rfl, hv, hv2, htl, htl2, hne⟩
        rw [hB.eq]; clear hB
        refine w_seq (w_reg (s_q rfl rfl (q_lss rfl rfl rfl) ?_))
        refine s_nil (n_n (w_seq (w_if (is_scb rfl) (fun h26 => ?_) (fun h26 => ?_))))
        · have hjlt : j < l[i].rows.length := by have h' : (j : Int) < ((l[i].rows.length : Nat) : Int) := of_decide_eq_true h26; omega
          refine w_skip (n_n (w_seq (w_block (w_seq (w_reg (s_q rfl rfl (q_index rfl rfl rfl rfl (Int.natCast_nonneg _) (by omega)) ?_))))))
          refine s_q rfl rfl (q_loadPin rfl rfl (take_map ilstU hjlt)) ?_
          refine s_q rfl rfl (q_mv (.inr rfl) (by first | exact is_im rfl | exact is_gs rfl | exact is_lit rfl | exact is_ms rfl | exact is_sc rfl | exact rfl)) ?_
          refine s_nil (n_n (w_draw [0, 1, 0, 4, 12, 31, 63, 127] [0, 1, 0, 0, 0, 3, 0, 3] rfl ?_))
          refine d_q0 rfl rfl (q_field rfl rfl (by exact rfl)) ?_
          refine d_q1 rfl rfl (q_loadT (os := o) (tail := [_, _]) (j := 1) rfl rfl rfl (by exact rfl) (by exact rfl)) ?_
          refine d_q0 rfl rfl (q_mv (.inl rfl) (by first | exact is_im rfl | exact is_gs rfl | exact is_lit rfl | exact is_ms rfl | exact is_sc rfl | exact rfl)) ?_
          refine d_q0 rfl rfl (q_call rfl rfl rfl rfl (hin _ (hr2 _ (List.getElem_mem hjlt)))) ?_
          refine d_q0 rfl rfl (q_bs rfl (pt_cons (by first | exact is_im rfl | exact is_gs rfl | exact is_lit rfl | exact is_ms rfl | exact is_sc rfl | exact rfl) pt_nil) (by decide) (by decide) (by exact (rfl : _ = some [_])) (by exact (rfl : _ = [_])) (by exact rfl) (by exact rfl)) ?_
          refine d_s3 rfl rfl (as_append rfl rfl hv2 rfl rfl (by decide) (by simp [List.length_map]) (by exact rfl) (by show _ * 24 ≤ _; simp only [List.length_take]; omega) (by show _ ≤ 9223372036854775807; simp only [List.length_take]; omega)) ?_
          refine d_q0 rfl rfl (q_field rfl rfl (by exact rfl)) ?_
          refine d_u3 rfl rfl (as_stT (os := o) (tail := [_, _]) (j := 1) rfl rfl rfl (by first | exact is_im rfl | exact is_gs rfl | exact is_lit rfl | exact is_ms rfl | exact is_sc rfl | exact rfl) (by exact rfl) (by exact rfl) (by exact rfl) (by exact Nat.le_of_ble_eq_true rfl) (by exact (rfl : _ = [_, _, _, _])) (by exact (rfl : _ = [_, _]))) ?_
          refine d_nil (b_n (n_n (w_reg (s_q rfl rfl (q_add rfl rfl rfl) ?_))))
          refine s_q rfl rfl (q_mv (.inl rfl) (is_sc rfl)) ?_
          refine s_nil (n_n ?_)
          have hw : IntKind.i64.wrap ((j : Int) + 1) = ((j + 1 : Nat) : Int) := wrap_nat (by omega)
          refine ⟨⟨j + 1, ln2, _, _, _, _, hjlt, ⟨rfl, rfl, rfl, rfl, rfl, rfl, rfl, i64_eq hw, trivial⟩, rfl, ?_, ?_, live_app_old (A := ⟨_, live2, ln2, noHeap⟩) hv hne, live_app ⟨_, live2, ln2, noHeap⟩ t2, Nat.lt_succ_of_lt htl, Nat.lt_succ_self _, Nat.ne_of_lt htl⟩, ?_⟩
          · rw [List.take_succ_eq_append_getElem hjlt, List.map_append]; rfl
          · rw [List.take_succ_eq_append_getElem hjlt, List.length_append]; rfl
          · show l[i].rows.length - (IntKind.i64.wrap ((j : Int) + 1)).toNat < l[i].rows.length - (j : Int).toNat
            rw [hw]; omega
        · have hjge : l[i].rows.length ≤ j := by have h' : ¬ (j : Int) < ((l[i].rows.length : Nat) : Int) := of_decide_eq_false h26; omega
          rw [List.take_of_length_le hjge]
          refine w_exit (n_e (n_e (b_hit (n_n (w_reg (s_q rfl rfl (q_mv (.inl rfl) (by first | exact is_im rfl | exact is_gs rfl | exact is_lit rfl | exact is_ms rfl | exact is_sc rfl | exact rfl)) ?_))))))
          refine s_q rfl rfl (q_loadT (os := o) (tail := [_, _]) (j := 1) rfl rfl rfl (by exact rfl) (by exact (rfl : _ = some (D.agg [_, _, _, _])))) ?_
          refine s_q rfl rfl (q_bs rfl (pt_cons (by first | exact (rfl : _ = D.agg [_, _, _, _]) | exact rfl) pt_nil) (by decide) (by decide) (by exact (rfl : _ = some [_, _, _, _])) (by exact (rfl : _ = [_, _, _, _])) (by exact rfl) (by exact rfl)) ?_
          refine s_s rfl rfl (as_append rfl rfl hv rfl rfl (by decide) (by exact len_ilst _) (by exact rfl) (by show _ * 56 ≤ _; simp only [List.length_take]; omega) (by show _ ≤ 9223372036854775807; simp only [List.length_take]; omega)) ?_
          refine s_q rfl rfl (q_mv (.inr rfl) (by first | exact is_im rfl | exact is_gs rfl | exact is_lit rfl | exact is_ms rfl | exact is_sc rfl | exact rfl)) ?_
          refine s_nil (b_n (n_n (w_reg (s_q rfl rfl (q_add rfl rfl rfl) ?_))))
          refine s_q rfl rfl (q_mv (.inl rfl) (is_sc rfl)) ?_
          refine s_nil (n_n ?_)
          have hw : IntKind.i64.wrap ((i : Int) + 1) = ((i + 1 : Nat) : Int) := wrap_nat (by omega)
          refine ⟨⟨i + 1, ln2, _, _, _, hlt, ⟨?_, rfl, rfl, i64_eq hw, trivial⟩, rfl, live_app ⟨_, live2, ln2, noHeap⟩ t, Nat.lt_succ_self _⟩, ?_⟩
          · rw [List.take_succ_eq_append_getElem hlt]
            refine Eq.trans ?_ (gs_catI _ [l[i]])
            refine gs_eq ?_ rfl
            rw [show [l[i]].flatMap IV.c = IV.c l[i] by simp]; rfl
          · show l.length - (IntKind.i64.wrap ((i : Int) + 1)).toNat < l.length - (i : Int).toNat
            rw [hw]; omega
    · have hge : l.length ≤ i := by have h' : ¬ (i : Int) < ((l.length : Nat) : Int) := of_decide_eq_false h12; omega
      rw [List.take_of_length_le hge]
      refine w_exit (n_e (n_e (b_hit (n_n (w_seq (w_reg (s_q rfl rfl (q_mv (.inl rfl) (by first | exact is_im rfl | exact is_gs rfl | exact is_lit rfl | exact is_ms rfl | exact is_sc rfl | exact rfl)) ?_)))))))
      refine s_q rfl rfl (q_mv (.inr rfl) (by first | exact is_im rfl | exact is_gs rfl | exact is_lit rfl | exact is_ms rfl | exact is_sc rfl | exact rfl)) ?_
      refine s_nil (n_n (w_ret ?_))
      -- end 0
      refine r_r (ra_tmp (by first | exact is_im rfl | exact is_gs rfl | exact is_lit rfl | exact is_ms rfl | exact is_sc rfl | exact rfl) ra_nil) (by first | exact is_im rfl | exact is_gs rfl | exact is_lit rfl | exact is_ms rfl | exact is_sc rfl | exact rfl) (by exact rfl) sub_no ?_
      rfl

end Go.Proofs.YtopgbalmdocboaaGreatDoor.Zz
namespace Go.Proofs.YtopgbalmdocboaaGreatDoor.Zz
open Go.Abs
set_option maxRecDepth 100000
set_option linter.unusedVariables false
set_option linter.unusedSimpArgs false
set_option maxHeartbeats 4000000
variable {G : Nat → D}

-- (*container/list.List).insertValue
theorem pf_insertValueG (h : Heap) (k : Nat) (es : List (Nat × D)) (H : IsList h k es) (t : TypeId) (dv : D) (hx : ext dv = true) (hb : es.length < 1000000000) : ACall Tryz.prog G 148 true [.hp k 0, .ifc t dv, .hp (ring k (es.map (·.1)) es.length) 0] h (fun v h' => ∃ e, v = .hp e 0 ∧ IsList h' k (es ++ [(e, .ifc t dv)]) ∧ h e = none ∧ Keep h h' (k :: es.map (·.1))) := by
  refine ACall.intro rfl Tryz.func148 rfl (Nat.le_of_ble_eq_true rfl) rfl ?_
  refine w_seq (w_reg (s_q rfl rfl (q_mv (.inr rfl) (by first | exact is_box rfl | exact is_hp rfl | exact is_pin rfl | exact is_sc rfl | exact rfl)) ?_))
  refine s_nil (n_n (w_seq (w_reg (s_q rfl rfl (q_mv (.inl rfl) (by first | exact is_box rfl | exact is_hp rfl | exact is_pin rfl | exact is_sc rfl | exact rfl)) ?_))))
  refine s_q rfl rfl (q_mv (.inl rfl) (by first | exact is_ifc rfl | exact is_sc rfl | exact rfl)) ?_
  refine s_q rfl rfl (q_build rfl (pt_cons (by first | exact is_ifc rfl | exact is_sc rfl | exact rfl) pt_nil) (by exact (rfl : _ = some [_, _, _, _]))) ?_
  refine s_o rfl rfl (ao_boxH rfl (by first | exact (rfl : _ = D.agg [_, _, _, _]) | exact rfl) (by exact rfl) (show ext (D.agg [.sc (.pointer none), .sc (.pointer none), .sc (.pointer none), .ifc t dv]) = true by simp [ext, ext.extL, hx]) fun k10 hk10 => ?_)
  have hk : h k10 = none := hk10
  have H' := H.add [.sc (.pointer none), .sc (.pointer none), .sc (.pointer none), .ifc t dv] hk
  have hfr := H.fresh hk
  have he : Heap.len (Heap.add h k10 [.sc (.pointer none), .sc (.pointer none), .sc (.pointer none), .ifc t dv]) k10 = some 4 := by simp [Heap.len, Heap.add]
  have hm := H'.len (Nat.le_refl es.length)
  have hrm : ring k (es.map (·.1)) es.length ∈ k :: es.map (·.1) := ring_mem (by simp)
  have hne1 : k10 ≠ ring k (es.map (·.1)) es.length := fun x => hfr (x ▸ hrm)
  have hne2 : k10 ≠ k := fun x => hfr (by simp [x])
  have hnx := H'.next es.length (Nat.le_refl _)
  rw [H.back] at hnx
  refine s_q rfl rfl (q_mv (.inl rfl) (by first | exact is_box rfl | exact is_hp rfl | exact is_pin rfl | exact is_sc rfl | exact rfl)) ?_
  refine s_o rfl rfl (ao_callH rfl rfl rfl rfl (pf_insert _ k k10 (ring k (es.map (·.1)) es.length) es.length hm.choose he (H'.klen) hm.choose_spec.1 hm.choose_spec.2 hne1 hne2 hnx H'.n hb) fun v12 Hv12 hv12 => ?_)
  obtain ⟨rfl, rfl⟩ := hv12
  refine s_q rfl rfl (q_mv (.inr rfl) (by first | exact is_box rfl | exact is_hp rfl | exact is_pin rfl | exact is_sc rfl | exact rfl)) ?_
  refine s_nil (n_n (w_ret ?_))
  -- end 0
  refine r_r (ra_tmp (by first | exact is_box rfl | exact is_hp rfl | exact is_pin rfl | exact is_sc rfl | exact rfl) ra_nil) (by first | exact is_box rfl | exact is_hp rfl | exact is_pin rfl | exact is_sc rfl | exact rfl) (by exact rfl) (Sub.refl _) ?_
  refine ⟨k10, rfl, insBack_isList H' he (by simp [Heap.get, Heap.add]) hfr, hk, fun x hx hn => ?_⟩
  have hx1 : x ≠ k10 := fun e => hn (e ▸ hk)
  have hx2 : x ≠ k := fun e => hx (e ▸ List.mem_cons_self)
  have hx3 : x ≠ ring k (es.map (·.1)) es.length := fun e => hx (e ▸ hrm)
  exact (insBack_off hx2 hx3 hx1).trans (if_neg hx1)


-- (*container/list.List).PushBack
theorem pf_PushBackG (h : Heap) (k : Nat) (es : List (Nat × D)) (H : IsList h k es) (t : TypeId) (dv : D) (hx : ext dv = true) (hb : es.length < 1000000000) : ACall Tryz.prog G 65 true [.hp k 0, .ifc t dv] h (fun v h' => ∃ e, v = .hp e 0 ∧ IsList h' k (es ++ [(e, .ifc t dv)]) ∧ h e = none ∧ Keep h h' (k :: es.map (·.1))) := by
  refine ACall.intro rfl Tryz.func65 rfl (Nat.le_of_ble_eq_true rfl) rfl ?_
  refine w_seq (w_reg (s_q rfl rfl (q_mv (.inr rfl) (by first | exact is_box rfl | exact is_hp rfl | exact is_pin rfl | exact is_sc rfl | exact rfl)) ?_))
  refine s_nil (n_n (w_seq (w_reg (s_q rfl rfl (q_mv (.inl rfl) (by first | exact is_box rfl | exact is_hp rfl | exact is_pin rfl | exact is_sc rfl | exact rfl)) ?_))))
  refine s_o rfl rfl (ao_callH rfl rfl rfl rfl (pf_lazyInit _ k es H) fun v6 Hv6 hv6 => ?_)
  obtain rfl := hv6
  refine s_nil (n_n (w_seq (w_reg (s_q rfl rfl (q_mv (.inl rfl) (by first | exact is_box rfl | exact is_hp rfl | exact is_pin rfl | exact is_sc rfl | exact rfl)) ?_))))
  refine s_q rfl rfl (q_mv (.inl rfl) (by first | exact is_ifc rfl | exact is_sc rfl | exact rfl)) ?_
  refine s_q rfl rfl (q_mv (.inl rfl) (by first | exact is_box rfl | exact is_hp rfl | exact is_pin rfl | exact is_sc rfl | exact rfl)) ?_
  refine s_q rfl rfl (q_nil rfl rfl rfl) ?_
  refine s_q rfl rfl (q_field rfl rfl (by exact rfl)) ?_
  refine s_q rfl rfl (q_field rfl rfl (by exact rfl)) ?_
  refine s_q rfl rfl (q_loadH rfl rfl (d := .hp (ring k (es.map (·.1)) es.length) 0) (by have := H.prev es.length (Nat.le_refl _); rw [H.back] at this; exact this)) ?_
  refine s_o rfl rfl (ao_callHN (ds := [.hp k 0, .ifc t dv, .hp (ring k (es.map (·.1)) es.length) 0]) rfl rfl rfl (by simp [ext.extL, ext, hx]) (pf_insertValueG _ k es H t dv hx hb) fun v14 Hv14 hv14 => ?_)
  obtain ⟨e, rfl, hL, hK1, hK2⟩ := hv14
  refine s_q rfl rfl (q_mv (.inr rfl) (by first | exact is_box rfl | exact is_hp rfl | exact is_pin rfl | exact is_sc rfl | exact rfl)) ?_
  refine s_nil (n_n (w_ret ?_))
  -- end 0
  refine r_r (ra_tmp (by first | exact is_box rfl | exact is_hp rfl | exact is_pin rfl | exact is_sc rfl | exact rfl) ra_nil) (by first | exact is_box rfl | exact is_hp rfl | exact is_pin rfl | exact is_sc rfl | exact rfl) (by exact rfl) (Sub.refl _) ?_
  exact ⟨e, rfl, hL, hK1, hK2⟩


-- container/list.New
theorem pf_NewG (h : Heap) : ACall Tryz.prog G 64 true [] h (fun v h' => ∃ k, v = .hp k 0 ∧ IsList h' k [] ∧ h k = none ∧ Keep h h' []) := by
  refine ACall.intro rfl Tryz.func64 rfl (Nat.le_of_ble_eq_true rfl) rfl ?_
  refine w_seq (w_reg (s_q rfl rfl (q_mv (.inr rfl) (by first | exact is_box rfl | exact is_hp rfl | exact is_pin rfl | exact is_sc rfl | exact rfl)) ?_))
  refine s_nil (n_n (w_seq (w_reg (s_o rfl rfl (ao_allocH rfl fun k1 hk1 => ?_)))))
  refine s_o rfl rfl (ao_callH rfl rfl rfl rfl (pf_Init _ k1 (by simp [Heap.len, AH.hset])) fun v2 Hv2 hv2 => ?_)
  obtain ⟨rfl, rfl⟩ := hv2
  refine s_q rfl rfl (q_mv (.inr rfl) (by first | exact is_box rfl | exact is_hp rfl | exact is_pin rfl | exact is_sc rfl | exact rfl)) ?_
  refine s_nil (n_n (w_ret ?_))
  -- end 0
  refine r_r (ra_tmp (by first | exact is_box rfl | exact is_hp rfl | exact is_pin rfl | exact is_sc rfl | exact rfl) ra_nil) (by first | exact is_box rfl | exact is_hp rfl | exact is_pin rfl | exact is_sc rfl | exact rfl) (by exact rfl) (Sub.refl _) ?_
  refine ⟨k1, rfl, initList (by simp [Heap.len, AH.hset]), hk1, fun x _ hn => ?_⟩
  have hx1 : x ≠ k1 := fun e => hn (e ▸ hk1)
  exact (put_off hx1).trans ((put_off hx1).trans ((put_off hx1).trans (if_neg hx1)))

end Go.Proofs.YtopgbalmdocboaaGreatDoor.Zz
namespace Go.Proofs.YtopgbalmdocboaaGreatDoor.Zz
open Go.Abs
set_option maxRecDepth 100000
set_option linter.unusedVariables false
set_option linter.unusedSimpArgs false
set_option maxHeartbeats 4000000
variable {G : Nat → D}

-- pub-tallysheet/pub/excelize.newMatrixFormulaArg
theorem pf_newMatI (cs : List D) (n : Nat) : PF Tryz.prog G 76 [.im cs n] (.agg [st [], fl 0, st [], .im [] 0, .im cs n, bl false, st [], .sc (.int .u8 4), .sc (.pointer none), .sc (.pointer none)]) := by
  refine PC.intro rfl Tryz.func76 rfl (Nat.le_of_ble_eq_true rfl) rfl ?_
  refine w_seq (w_reg (s_s rfl rfl (as_alloc0 (id := 0) rfl rfl (by exact (rfl : _ = [_, _, _, _, _, _, _, _, _, _]))) ?_))
  refine s_nil (n_n (w_seq (w_reg (s_q rfl rfl (q_mv (.inl rfl) (by first | exact is_im rfl | exact is_gs rfl | exact is_lit rfl | exact is_ms rfl | exact is_sc rfl | exact rfl)) ?_))))
  refine s_q rfl rfl (q_build rfl (pt_cons (is_sc rfl) (pt_cons (by first | exact is_im rfl | exact is_gs rfl | exact is_lit rfl | exact is_ms rfl | exact is_sc rfl | exact rfl) pt_nil)) (by exact (rfl : _ = some [_, _, _, _, _, _, _, _, _, _]))) ?_
  refine s_u rfl rfl (as_st rfl rfl (by first | exact (rfl : _ = D.agg [_, _, _, _, _, _, _, _, _, _]) | exact rfl) rfl (by exact rfl) (by exact rfl) (by exact Nat.le_of_ble_eq_true rfl) (by exact (rfl : _ = [_, _, _, _, _, _, _, _, _, _]))) ?_
  refine s_nil (n_n (w_ret ?_))
  -- end 0
  refine r_r (ra_cell (by exact (rfl : _ = some (D.agg [_, _, _, _, _, _, _, _, _, _]))) ra_nil) (by first | exact (rfl : _ = D.agg [_, _, _, _, _, _, _, _, _, _]) | exact rfl) (by exact rfl) sub_no ?_
  rfl


-- pub-tallysheet/pub/excelize.innerArg
theorem pf_innerTab (h : Heap) (rows : List (List IU)) (f : IU → F) (hl : rows.length < 1000000000) (hne : ¬ rows = []) (hr : ∀ r ∈ rows, r.length < 1000000000) (hf : ∀ r ∈ rows, ∀ u ∈ r, PF Tryz.prog G 66 [(IU.v u).d] (f u).d) : ACall Tryz.prog G 66 true [(tabI rows).d] h (fun v h' => ∃ kr kc rg, v = matF (rows.map (·.map f)) kr kc ∧ IsList h' kr [] ∧ IsList h' kc [rg] ∧ ¬ kr = kc ∧ h kr = none ∧ h kc = none ∧ h rg.1 = none ∧ Keep h h' []) := by
  have hpos : 0 < rows.length := List.length_pos_iff.mpr hne
  refine ACall.intro rfl Tryz.func66 rfl (Nat.le_of_ble_eq_true rfl) rfl ?_
  refine w_seq (w_reg (s_s rfl rfl (as_box0 (id := 0) rfl (by first | exact (rfl : _ = D.agg [_, _, _, _]) | exact rfl) (by exact rfl) rfl (by exact (rfl : _ = [_, _, _, _]))) ?_))
  refine s_s rfl rfl (as_alloc0 (id := 1) rfl rfl (by exact (rfl : _ = [_, _, _, _, _, _, _, _, _, _]))) ?_
  refine s_nil (n_n (w_seq (w_seq (w_reg (s_q rfl rfl (q_field rfl rfl (by exact rfl)) ?_)))))
  refine s_q rfl rfl (q_load rfl rfl (by exact (rfl : _ = some (D.sc _)))) ?_
  refine s_nil (n_n (w_block (w_seq (w_reg (s_q rfl rfl (q_eql rfl rfl rfl) ?_)))))
  refine s_q rfl rfl (q_mv (.inr rfl) (is_sc rfl)) ?_
  refine s_nil (n_n (w_ifF rfl (w_seq (w_reg (s_q rfl rfl (q_eql rfl rfl rfl) ?_)))))
  refine s_q rfl rfl (q_mv (.inr rfl) (is_sc rfl)) ?_
  refine s_nil (n_n (w_ifF rfl (w_seq (w_reg (s_q rfl rfl (q_eql rfl rfl rfl) ?_)))))
  refine s_q rfl rfl (q_mv (.inr rfl) (is_sc rfl)) ?_
  refine s_nil (n_n (w_ifF rfl (w_seq (w_reg (s_q rfl rfl (q_eql rfl rfl rfl) ?_)))))
  refine s_q rfl rfl (q_mv (.inr rfl) (is_sc rfl)) ?_
  refine s_nil (n_n (w_ifF rfl (w_seq (w_reg (s_q rfl rfl (q_eql rfl rfl rfl) ?_)))))
  refine s_q rfl rfl (q_mv (.inr rfl) (is_sc rfl)) ?_
  refine s_nil (n_n (w_ifT rfl (w_seq (w_reg (s_s rfl rfl (as_nil (e := 70) (.inl rfl) rfl) ?_)))))
  refine s_nil (n_n (w_seq (w_seq (w_reg (s_q rfl rfl (q_field rfl rfl (by exact rfl)) ?_)))))
  refine s_q rfl rfl (q_load rfl rfl (by exact rfl)) ?_
  refine s_q rfl rfl (q_len rfl rfl rfl) ?_
  refine s_q rfl rfl (q_mv (.inl rfl) (is_sc rfl)) ?_
  refine s_nil (n_n (w_block ?_))
  refine w_loop (fun env A => ∃ (i t : Nat) (o : List LO) (live : Nat → Bool) (ln : Nat), i ≤ rows.length ∧ Binds env [(1, .box 0 0), (2, .box 1 0), (3, .gs t 70 ((rows.take i).map fun r => lstF (r.map f)) ((rows.take i).map fun r => lstF (r.map f)).length), (38, .im (rows.map ilstU) rows.length), (39, i64 rows.length), (40, i64 i)] ∧ A = ⟨(.cells (IV.c (tabI rows)) :: .cells [.sc (.string ⟨⟨[]⟩⟩), .sc (.float .f64 0), .sc (.string ⟨⟨[]⟩⟩), .sc (.slice none 0 0), .sc (.slice none 0 0), .sc (.bool false), .sc (.string ⟨⟨[]⟩⟩), .sc (.int .u8 0), .sc (.pointer none), .sc (.pointer none)] :: o), live, ln, h⟩ ∧ live t = true ∧ t < ln) (fun env _ => rows.length - ctr (env 40)) ?_ ?_
  · exact ⟨0, 0, [], _, _, Nat.zero_le _, ⟨rfl, rfl, rfl, rfl, rfl, rfl, trivial⟩, rfl, rfl, Nat.lt_succ_self _⟩
  · rintro env A ⟨i, t, o, live, ln, hi, hB, rfl, hv, htl⟩
    rw [hB.eq]; clear hB
    rw [show (⟨(.cells (IV.c (tabI rows)) :: .cells [.sc (.string ⟨⟨[]⟩⟩), .sc (.float .f64 0), .sc (.string ⟨⟨[]⟩⟩), .sc (.slice none 0 0), .sc (.slice none 0 0), .sc (.bool false), .sc (.string ⟨⟨[]⟩⟩), .sc (.int .u8 0), .sc (.pointer none), .sc (.pointer none)] :: o), live, ln, h⟩ : AH) = ⟨(.cells (IV.c (tabI rows)) :: .cells [.sc (.string ⟨⟨[]⟩⟩), .sc (.float .f64 0), .sc (.string ⟨⟨[]⟩⟩), .sc (.slice none 0 0), .sc (.slice none 0 0), .sc (.bool false), .sc (.string ⟨⟨[]⟩⟩), .sc (.int .u8 0), .sc (.pointer none), .sc (.pointer none)] :: o) ++ [], live, ln, h⟩ by rw [List.append_nil]]
    refine w_seq (w_reg (s_q rfl rfl (q_lss rfl rfl rfl) ?_))
    refine s_nil (n_n (w_seq (w_if (is_scb rfl) (fun h41 => ?_) (fun h41 => ?_))))
    · have hlt : i < rows.length := by have h' : (i : Int) < ((rows.length : Nat) : Int) := of_decide_eq_true h41; omega
      have hrl := hr _ (List.getElem_mem hlt)
      refine w_skip (n_n (w_seq (w_block (w_seq (w_reg (s_q rfl rfl (q_index rfl rfl rfl rfl (Int.natCast_nonneg _) (by omega)) ?_))))))
      refine s_q rfl rfl (q_loadPin rfl rfl (take_map ilstU hlt)) ?_
      refine s_q rfl rfl (q_mv (.inr rfl) (by first | exact is_im rfl | exact is_gs rfl | exact is_lit rfl | exact is_ms rfl | exact is_sc rfl | exact rfl)) ?_
      refine s_nil (n_n (w_seq (w_reg (s_s rfl rfl (as_nil (e := 75) (.inl rfl) rfl) ?_))))
      refine s_nil (n_n (w_seq (w_seq (w_reg (s_q rfl rfl (q_mv (.inl rfl) (by first | exact is_im rfl | exact is_gs rfl | exact is_lit rfl | exact is_ms rfl | exact is_sc rfl | exact rfl)) ?_)))))
      refine s_q rfl rfl (q_len rfl rfl rfl) ?_
      refine s_q rfl rfl (q_mv (.inl rfl) (is_sc rfl)) ?_
      refine s_nil (n_n (w_block ?_))
      refine w_loop (fun env A => ∃ (j t2 : Nat) (o : List LO) (live2 : Nat → Bool) (ln2 : Nat), j ≤ rows[i].length ∧ Binds env [(1, .box 0 0), (2, .box 1 0), (3, .gs t 70 ((rows.take i).map fun r => lstF (r.map f)) ((rows.take i).map fun r => lstF (r.map f)).length), (38, .im (rows.map ilstU) rows.length), (39, i64 rows.length), (40, i64 i), (6, .gs t2 75 (((rows[i].take j).map f).flatMap F.c) ((rows[i].take j).map f).length), (44, ilstU rows[i]), (45, i64 rows[i].length), (46, i64 j)] ∧ A = ⟨(.cells (IV.c (tabI rows)) :: .cells [.sc (.string ⟨⟨[]⟩⟩), .sc (.float .f64 0), .sc (.string ⟨⟨[]⟩⟩), .sc (.slice none 0 0), .sc (.slice none 0 0), .sc (.bool false), .sc (.string ⟨⟨[]⟩⟩), .sc (.int .u8 0), .sc (.pointer none), .sc (.pointer none)] :: o), live2, ln2, h⟩ ∧ live2 t = true ∧ live2 t2 = true ∧ t < ln2 ∧ t2 < ln2 ∧ t ≠ t2) (fun env _ => rows[i].length - ctr (env 46)) ?_ ?_
      · exact ⟨0, _, o, _, _, Nat.zero_le _, ⟨rfl, rfl, rfl, rfl, rfl, rfl, rfl, rfl, rfl, rfl, trivial⟩, by rw [List.append_nil]; rfl, live_tags_old (A := ⟨_, live, ln, h⟩) hv, live_tags ⟨_, live, ln, h⟩, Nat.lt_succ_of_lt htl, Nat.lt_succ_self _, Nat.ne_of_lt htl⟩
      · clear hv htl
        rintro env A ⟨j, t2, o, live2, ln2, hj, hB, rfl, hv, hv2, htl, htl2, hne⟩
        rw [hB.eq]; clear hB
        rw [show (⟨(.cells (IV.c (tabI rows)) :: .cells [.sc (.string ⟨⟨[]⟩⟩), .sc (.float .f64 0), .sc (.string ⟨⟨[]⟩⟩), .sc (.slice none 0 0), .sc (.slice none 0 0), .sc (.bool false), .sc (.string ⟨⟨[]⟩⟩), .sc (.int .u8 0), .sc (.pointer none), .sc (.pointer none)] :: o), live2, ln2, h⟩ : AH) = ⟨(.cells (IV.c (tabI rows)) :: .cells [.sc (.string ⟨⟨[]⟩⟩), .sc (.float .f64 0), .sc (.string ⟨⟨[]⟩⟩), .sc (.slice none 0 0), .sc (.slice none 0 0), .sc (.bool false), .sc (.string ⟨⟨[]⟩⟩), .sc (.int .u8 0), .sc (.pointer none), .sc (.pointer none)] :: o) ++ [], live2, ln2, h⟩ by rw [List.append_nil]]
        refine w_seq (w_reg (s_q rfl rfl (q_lss rfl rfl rfl) ?_))
        refine s_nil (n_n (w_seq (w_if (is_scb rfl) (fun h47 => ?_) (fun h47 => ?_))))
        · have hjlt : j < rows[i].length := by have h' : (j : Int) < ((rows[i].length : Nat) : Int) := of_decide_eq_true h47; omega
          refine w_skip (n_n (w_seq (w_block (w_seq (w_reg (s_q rfl rfl (q_index rfl rfl rfl rfl (Int.natCast_nonneg _) (by omega)) ?_))))))
          refine s_q rfl rfl (q_loadPin rfl rfl (take_ilstU hjlt)) ?_
          refine s_s rfl rfl (as_allocT (os := (.cells (IV.c (tabI rows)) :: .cells [.sc (.string ⟨⟨[]⟩⟩), .sc (.float .f64 0), .sc (.string ⟨⟨[]⟩⟩), .sc (.slice none 0 0), .sc (.slice none 0 0), .sc (.bool false), .sc (.string ⟨⟨[]⟩⟩), .sc (.int .u8 0), .sc (.pointer none), .sc (.pointer none)] :: o)) (tail := []) rfl rfl rfl (by exact (rfl : _ = [_, _, _, _]))) ?_
          refine s_u rfl rfl (as_stT (os := (.cells (IV.c (tabI rows)) :: .cells [.sc (.string ⟨⟨[]⟩⟩), .sc (.float .f64 0), .sc (.string ⟨⟨[]⟩⟩), .sc (.slice none 0 0), .sc (.slice none 0 0), .sc (.bool false), .sc (.string ⟨⟨[]⟩⟩), .sc (.int .u8 0), .sc (.pointer none), .sc (.pointer none)] :: o)) (tail := [_]) (j := 0) rfl rfl rfl (by first | exact (rfl : _ = D.agg [_, _, _, _]) | exact rfl) (by exact rfl) (by exact rfl) (by exact rfl) (by exact Nat.le_of_ble_eq_true rfl) (by exact (rfl : _ = [_, _, _, _])) (by exact (rfl : _ = [_]))) ?_
          refine s_nil (n_n (w_reg (s_q rfl rfl (q_mv (.inl rfl) (by first | exact is_im rfl | exact is_gs rfl | exact is_lit rfl | exact is_ms rfl | exact is_sc rfl | exact rfl)) ?_)))
          refine s_q rfl rfl (q_loadT (os := (.cells (IV.c (tabI rows)) :: .cells [.sc (.string ⟨⟨[]⟩⟩), .sc (.float .f64 0), .sc (.string ⟨⟨[]⟩⟩), .sc (.slice none 0 0), .sc (.slice none 0 0), .sc (.bool false), .sc (.string ⟨⟨[]⟩⟩), .sc (.int .u8 0), .sc (.pointer none), .sc (.pointer none)] :: o)) (tail := [_]) (j := 0) rfl rfl rfl (by exact rfl) (by exact (rfl : _ = some (D.agg [_, _, _, _])))) ?_
          refine s_q rfl rfl (q_call rfl rfl rfl rfl (hf _ (List.getElem_mem hlt) _ (List.getElem_mem hjlt))) ?_
          refine s_q rfl rfl (q_bs rfl (pt_cons (by first | exact (rfl : _ = D.agg [_, _, _, _, _, _, _, _, _, _]) | exact rfl) pt_nil) (by decide) (by decide) (by exact (rfl : _ = some [_, _, _, _, _, _, _, _, _, _])) (by exact (rfl : _ = [_, _, _, _, _, _, _, _, _, _])) (by exact rfl) (by exact rfl)) ?_
          refine s_s rfl rfl (as_append rfl rfl hv2 rfl rfl (by decide) (by exact len_lstF _) (by exact rfl) (by show _ * 136 ≤ _; simp only [List.length_map, List.length_take]; omega) (by show _ ≤ 9223372036854775807; simp only [List.length_map, List.length_take]; omega)) ?_
          refine s_q rfl rfl (q_mv (.inr rfl) (by first | exact is_im rfl | exact is_gs rfl | exact is_lit rfl | exact is_ms rfl | exact is_sc rfl | exact rfl)) ?_
          refine s_nil (b_n (n_n (w_reg (s_q rfl rfl (q_add rfl rfl rfl) ?_))))
          refine s_q rfl rfl (q_mv (.inl rfl) (is_sc rfl)) ?_
          refine s_nil (n_n ?_)
          have hw : IntKind.i64.wrap ((j : Int) + 1) = ((j + 1 : Nat) : Int) := wrap_nat (by omega)
          refine ⟨⟨j + 1, ln2, _, _, _, hjlt, ⟨rfl, rfl, rfl, rfl, rfl, rfl, ?_, rfl, rfl, i64_eq hw, trivial⟩, rfl, live_app_old (A := ⟨_, live2, ln2, h⟩) hv hne, live_app ⟨_, live2, ln2, h⟩ t2, Nat.lt_succ_of_lt htl, Nat.lt_succ_self _, Nat.ne_of_lt htl⟩, ?_⟩
          · rw [List.take_succ_eq_append_getElem hjlt, List.map_append, List.flatMap_append, List.length_append]; rfl
          · show rows[i].length - (IntKind.i64.wrap ((j : Int) + 1)).toNat < rows[i].length - (j : Int).toNat
            rw [hw]; omega
        · have hjge : rows[i].length ≤ j := by have h' : ¬ (j : Int) < ((rows[i].length : Nat) : Int) := of_decide_eq_false h47; omega
          rw [List.take_of_length_le hjge]
          refine w_exit (n_e (n_e (b_hit (n_n (w_reg (s_q rfl rfl (q_mv (.inl rfl) (by first | exact is_im rfl | exact is_gs rfl | exact is_lit rfl | exact is_ms rfl | exact is_sc rfl | exact rfl)) ?_))))))
          refine s_q rfl rfl (q_mv (.inl rfl) (by first | exact is_im rfl | exact is_gs rfl | exact is_lit rfl | exact is_ms rfl | exact is_sc rfl | exact rfl)) ?_
          refine s_q rfl rfl (q_bs rfl (pt_cons (by first | exact is_im rfl | exact is_gs rfl | exact is_lit rfl | exact is_ms rfl | exact is_sc rfl | exact rfl) pt_nil) (by decide) (by decide) (by exact (rfl : _ = some [_])) (by exact (rfl : _ = [_])) (by exact rfl) (by exact rfl)) ?_
          refine s_s rfl rfl (as_append rfl rfl hv rfl rfl (by decide) (by simp [List.length_map]) (by exact rfl) (by show _ * 24 ≤ _; simp only [List.length_map, List.length_take]; omega) (by show _ ≤ 9223372036854775807; simp only [List.length_map, List.length_take]; omega)) ?_
          refine s_q rfl rfl (q_mv (.inr rfl) (by first | exact is_im rfl | exact is_gs rfl | exact is_lit rfl | exact is_ms rfl | exact is_sc rfl | exact rfl)) ?_
          refine s_nil (b_n (n_n (w_reg (s_q rfl rfl (q_add rfl rfl rfl) ?_))))
          refine s_q rfl rfl (q_mv (.inl rfl) (is_sc rfl)) ?_
          refine s_nil (n_n ?_)
          have hw : IntKind.i64.wrap ((i : Int) + 1) = ((i + 1 : Nat) : Int) := wrap_nat (by omega)
          refine ⟨⟨i + 1, ln2, o ++ [], _, _, hlt, ⟨rfl, rfl, ?_, rfl, rfl, i64_eq hw, trivial⟩, rfl, live_app ⟨_, live2, ln2, h⟩ t, Nat.lt_succ_self _⟩, ?_⟩
          · rw [List.take_succ_eq_append_getElem hlt, List.map_append, List.length_append]; rfl
          · show rows.length - (IntKind.i64.wrap ((i : Int) + 1)).toNat < rows.length - (i : Int).toNat
            rw [hw]; omega
    · have hge : rows.length ≤ i := by have h' : ¬ (i : Int) < ((rows.length : Nat) : Int) := of_decide_eq_false h41; omega
      rw [List.take_of_length_le hge]
      refine w_exit (n_e (n_e (b_hit (n_n (w_seq (w_reg (s_q rfl rfl (q_mv (.inl rfl) (by first | exact is_im rfl | exact is_gs rfl | exact is_lit rfl | exact is_ms rfl | exact is_sc rfl | exact rfl)) ?_)))))))
      refine s_q rfl rfl (q_call rfl rfl rfl rfl (pf_newMatI _ _)) ?_
      refine s_s rfl rfl (as_allocT (os := (.cells (IV.c (tabI rows)) :: .cells [.sc (.string ⟨⟨[]⟩⟩), .sc (.float .f64 0), .sc (.string ⟨⟨[]⟩⟩), .sc (.slice none 0 0), .sc (.slice none 0 0), .sc (.bool false), .sc (.string ⟨⟨[]⟩⟩), .sc (.int .u8 0), .sc (.pointer none), .sc (.pointer none)] :: o)) (tail := []) rfl rfl rfl (by exact (rfl : _ = [_, _, _, _, _, _, _, _, _, _]))) ?_
      refine s_u rfl rfl (as_stT (os := (.cells (IV.c (tabI rows)) :: .cells [.sc (.string ⟨⟨[]⟩⟩), .sc (.float .f64 0), .sc (.string ⟨⟨[]⟩⟩), .sc (.slice none 0 0), .sc (.slice none 0 0), .sc (.bool false), .sc (.string ⟨⟨[]⟩⟩), .sc (.int .u8 0), .sc (.pointer none), .sc (.pointer none)] :: o)) (tail := [_]) (j := 0) rfl rfl rfl (by first | exact (rfl : _ = D.agg [_, _, _, _, _, _, _, _, _, _]) | exact rfl) (by exact rfl) (by exact rfl) (by exact rfl) (by exact Nat.le_of_ble_eq_true rfl) (by exact (rfl : _ = [_, _, _, _, _, _, _, _, _, _])) (by exact (rfl : _ = [_]))) ?_
      refine s_nil (n_n (w_seq (w_seq (w_reg (s_q rfl rfl (q_mv (.inl rfl) (by first | exact is_im rfl | exact is_gs rfl | exact is_lit rfl | exact is_ms rfl | exact is_sc rfl | exact rfl)) ?_)))))
      refine s_q rfl rfl (q_len rfl rfl rfl) ?_
      refine s_q rfl rfl (q_as (bl_yes (show (0 : Int) < (((rows.map fun r => lstF (r.map f)).length : Nat) : Int) by rw [List.length_map]; omega)) (q_gtr rfl rfl rfl)) ?_
      refine s_nil (n_n (w_ifT rfl (w_seq (w_reg (s_o rfl rfl (ao_callH rfl rfl rfl rfl (pf_NewG _) fun v66 Hv66 hv66 => ?_))))))
      obtain ⟨kr, rfl, HR, hkr, hK1⟩ := hv66
      replace hkr : h kr = none := hkr
      replace hK1 : Keep h Hv66 [] := hK1
      refine s_o rfl rfl (ao_callH rfl rfl rfl rfl (pf_NewG _) fun v67 Hv67 hv67 => ?_)
      obtain ⟨kc, rfl, HC, hkc, hK2⟩ := hv67
      replace hkc : Hv66 kc = none := hkc
      replace hK2 : Keep Hv66 Hv67 [] := hK2
      have HC2 := HC
      refine s_q rfl rfl (q_field rfl rfl (by exact rfl)) ?_
      refine s_u rfl rfl (as_stT (os := (.cells (IV.c (tabI rows)) :: .cells [.sc (.string ⟨⟨[]⟩⟩), .sc (.float .f64 0), .sc (.string ⟨⟨[]⟩⟩), .sc (.slice none 0 0), .sc (.slice none 0 0), .sc (.bool false), .sc (.string ⟨⟨[]⟩⟩), .sc (.int .u8 0), .sc (.pointer none), .sc (.pointer none)] :: o)) (tail := [_]) (j := 0) rfl rfl rfl (by first | exact is_box rfl | exact is_hp rfl | exact is_pin rfl | exact is_sc rfl | exact rfl) (by exact rfl) (by exact rfl) (by exact rfl) (by exact Nat.le_of_ble_eq_true rfl) (by exact (rfl : _ = [_, _, _, _, _, _, _, _, _, _])) (by exact (rfl : _ = [_]))) ?_
      refine s_q rfl rfl (q_field rfl rfl (by exact rfl)) ?_
      refine s_u rfl rfl (as_stT (os := (.cells (IV.c (tabI rows)) :: .cells [.sc (.string ⟨⟨[]⟩⟩), .sc (.float .f64 0), .sc (.string ⟨⟨[]⟩⟩), .sc (.slice none 0 0), .sc (.slice none 0 0), .sc (.bool false), .sc (.string ⟨⟨[]⟩⟩), .sc (.int .u8 0), .sc (.pointer none), .sc (.pointer none)] :: o)) (tail := [_]) (j := 0) rfl rfl rfl (by first | exact is_box rfl | exact is_hp rfl | exact is_pin rfl | exact is_sc rfl | exact rfl) (by exact rfl) (by exact rfl) (by exact rfl) (by exact Nat.le_of_ble_eq_true rfl) (by exact (rfl : _ = [_, _, _, _, _, _, _, _, _, _])) (by exact (rfl : _ = [_]))) ?_
      refine s_nil (n_n (w_draw [0, 1, 0, 0, 8, 24, 56, 0, 128, 504, 1020, 2044, 4095] [0, 1, 0, 0, 0, 1, 0, 0, 0, 0, 0, 0, 4] rfl ?_))
      refine d_q0 rfl rfl (q_field rfl rfl (by exact rfl)) ?_
      refine d_q1 rfl rfl (q_loadT (os := (.cells (IV.c (tabI rows)) :: .cells [.sc (.string ⟨⟨[]⟩⟩), .sc (.float .f64 0), .sc (.string ⟨⟨[]⟩⟩), .sc (.slice none 0 0), .sc (.slice none 0 0), .sc (.bool false), .sc (.string ⟨⟨[]⟩⟩), .sc (.int .u8 0), .sc (.pointer none), .sc (.pointer none)] :: o)) (tail := [_]) (j := 0) rfl rfl rfl (by exact rfl) (by exact rfl)) ?_
      refine d_q0 rfl rfl (q_build rfl (pt_cons (is_sc rfl) (pt_cons (is_sc rfl) (pt_cons (is_sc rfl) pt_nil))) (by exact (rfl : _ = some [_, _, _]))) ?_
      refine d_q0 rfl rfl (q_mv (.inl rfl) (by first | exact is_im rfl | exact is_gs rfl | exact is_lit rfl | exact is_ms rfl | exact is_sc rfl | exact rfl)) ?_
      refine d_q0 rfl rfl (q_index rfl rfl rfl rfl (Int.le_refl _) (by show (0 : Int) < (((rows.map fun r => lstF (r.map f)).length : Nat) : Int); rw [List.length_map]; omega)) ?_
      refine d_q1 rfl rfl (q_loadPin rfl rfl (take_map (i := 0) (fun r => lstF (r.map f)) hpos)) ?_
      refine d_q0 rfl rfl (q_len rfl rfl rfl) ?_
      refine d_q0 rfl rfl (q_mv (.inl rfl) (by first | exact is_im rfl | exact is_gs rfl | exact is_lit rfl | exact is_ms rfl | exact is_sc rfl | exact rfl)) ?_
      refine d_q0 rfl rfl (q_len rfl rfl rfl) ?_
      refine d_q0 rfl rfl (q_build rfl (pt_cons (is_sc rfl) (pt_cons (is_sc rfl) (pt_cons (is_sc rfl) pt_nil))) (by exact (rfl : _ = some [_, _, _]))) ?_
      refine d_q0 rfl rfl (q_build rfl (pt_cons (by first | exact (rfl : _ = D.agg [_, _, _]) | exact rfl) (pt_cons (by first | exact (rfl : _ = D.agg [_, _, _]) | exact rfl) pt_nil)) (by exact (rfl : _ = some [_, _, _, _, _, _]))) ?_
      refine d_q0 rfl rfl (q_ifc rfl (by first | exact (rfl : _ = D.agg [_, _, _, _, _, _]) | exact rfl)) ?_
      refine d_o4 rfl rfl (ao_callH rfl rfl rfl rfl (pf_PushBackG _ kc [] HC2 _ _ rfl (by simp)) fun v82 Hv82 hv82 => ?_)
      obtain ⟨rg, rfl, HC3, hrg, hK3⟩ := hv82
      replace hrg : Hv67 rg = none := hrg
      replace hK3 : Keep Hv67 Hv82 [kc] := hK3
      refine n_n (w_seq (w_reg (s_q rfl rfl (q_loadT (os := (.cells (IV.c (tabI rows)) :: .cells [.sc (.string ⟨⟨[]⟩⟩), .sc (.float .f64 0), .sc (.string ⟨⟨[]⟩⟩), .sc (.slice none 0 0), .sc (.slice none 0 0), .sc (.bool false), .sc (.string ⟨⟨[]⟩⟩), .sc (.int .u8 0), .sc (.pointer none), .sc (.pointer none)] :: o)) (tail := [_]) (j := 0) rfl rfl rfl (by exact rfl) (by exact (rfl : _ = some (D.agg [_, _, _, _, _, _, _, _, _, _])))) ?_)))
      refine s_u rfl rfl (as_st rfl rfl (by first | exact (rfl : _ = D.agg [_, _, _, _, _, _, _, _, _, _]) | exact rfl) rfl (by exact rfl) (by exact rfl) (by exact Nat.le_of_ble_eq_true rfl) (by exact (rfl : _ = [_, _, _, _, _, _, _, _, _, _]))) ?_
      refine s_nil (n_n (w_ret (b_r (n_r ?_))))
      -- end 0
      refine r_r (ra_cell (by exact (rfl : _ = some (D.agg [_, _, _, _, _, _, _, _, _, _]))) ra_nil) (by first | exact (rfl : _ = D.agg [_, _, _, _, _, _, _, _, _, _]) | exact rfl) (by exact rfl) (Sub.refl _) ?_
      have hrc : ¬ kr = kc := fun e => by have := HR.some (x := kr) List.mem_cons_self; rw [e] at this; exact this hkc
      have hkc0 : h kc = none := by
        cases hh : h kc with
        | none => rfl
        | some c => have := hK1 kc (by simp) (by rw [hh]; simp); rw [hkc, hh] at this; cases this
      have HR2 := HR.keep hK2 (fun x hx => by simp)
      have HR3 := HR2.keep hK3 (fun x hx => by simp at hx ⊢; rw [hx]; exact hrc)
      have hK12 : Keep h _ [] := hK1.trans hK2 (fun x hx => by cases hx)
      have hrg0 : h rg = none := by
        cases hh : h rg with
        | none => rfl
        | some c => have := hK12 rg (by simp) (by rw [hh]; simp); rw [hrg, hh] at this; cases this
      have hK : Keep h _ [] := hK12.trans hK3 (fun x hx hn => by simp at hx; rw [hx] at hn; exact absurd hkc0 hn)
      refine ⟨kr, kc, _, ?_, HR3, HC3, hrc, hkr, hkc0, hrg0, hK⟩
      unfold matF
      simp only [List.length_map, List.map_map]
      rfl

end Go.Proofs.YtopgbalmdocboaaGreatDoor.Zz
namespace Go.Proofs.YtopgbalmdocboaaGreatDoor.Zz
open Go.Abs
set_option maxRecDepth 100000
set_option linter.unusedVariables false
set_option linter.unusedSimpArgs false
set_option maxHeartbeats 4000000
variable {G : Nat → D}

-- pub-tallysheet/pub/excelize.innerList
theorem pf_innerListT (h : Heap) (rows : List (List IU)) (ivs : List IV) (hl : ivs.length < 100000000) (hrl : rows.length < 1000000000) (hrne : ¬ rows = []) (hrr : ∀ r ∈ rows, r.length < 1000000000) (hcell : ∀ r ∈ rows, ∀ u ∈ r, PF Tryz.prog G 66 [(IU.v u).d] (innX (IU.v u)).d) (hf : ∀ v ∈ ivs, PF Tryz.prog G 66 [v.d] (innX v).d) : ACall Tryz.prog G 45 true [ilst (tabI rows :: ivs)] h (fun v h' => ∃ k es kr kc rg, v = .hp k 0 ∧ IsList h' k es ∧ es.map (·.2) = (WL 75 (rows.map (·.map fun u => innX (IU.v u))) kr kc (ivs.map innX)) ∧ TabAt h' kr kc rg (k :: es.map (·.1))) := by
  refine ACall.intro rfl Tryz.func45 rfl (Nat.le_of_ble_eq_true rfl) rfl ?_
  refine w_seq (w_reg (s_q rfl rfl (q_mv (.inr rfl) (by first | exact is_box rfl | exact is_hp rfl | exact is_pin rfl | exact is_sc rfl | exact rfl)) ?_))
  refine s_nil (n_n (w_seq (w_reg (s_o rfl rfl (ao_callH rfl rfl rfl rfl (pf_New _) fun v6 Hv6 hv6 => ?_)))))
  obtain ⟨k, rfl, hL⟩ := hv6
  refine s_q rfl rfl (q_mv (.inr rfl) (by first | exact is_box rfl | exact is_hp rfl | exact is_pin rfl | exact is_sc rfl | exact rfl)) ?_
  refine s_nil (n_n (w_seq (w_seq (w_reg (s_q rfl rfl (q_mv (.inl rfl) (by first | exact is_im rfl | exact is_gs rfl | exact is_lit rfl | exact is_ms rfl | exact is_sc rfl | exact rfl)) ?_)))))
  refine s_q rfl rfl (q_len rfl rfl rfl) ?_
  refine s_q rfl rfl (q_mv (.inl rfl) (is_sc rfl)) ?_
  refine s_nil (n_n (w_block ?_))
  refine w_loop (fun env A => ∃ (i : Nat) (es : List (Nat × D)) (o : List LO) (hh : Heap) (kr kc : Nat) (rg : Nat × D), i ≤ (tabI rows :: ivs).length ∧ IsList hh k es ∧ es.map (·.2) = (WL 75 (rows.map (·.map fun u => innX (IU.v u))) kr kc (ivs.map innX)).take i ∧ (i = 0 ∨ TabAt hh kr kc rg (k :: es.map (·.1))) ∧ Binds env [(3, .hp k 0), (7, ilst (tabI rows :: ivs)), (8, i64 (tabI rows :: ivs).length), (9, i64 i)] ∧ A = ⟨o, fun _ => false, 0, hh⟩) (fun env _ => (tabI rows :: ivs).length - ctr (env 9)) ?_ ?_
  · exact ⟨0, [], _, _, 0, 0, (0, .sc (.pointer none)), Nat.zero_le _, hL, rfl, .inl rfl, ⟨rfl, rfl, rfl, rfl, trivial⟩, rfl⟩
  · clear hL
    rintro env A ⟨i, es, o, hh, kr, kc, rg, hi, hL, hes, hT, hB, rfl⟩
    rw [hB.eq]; clear hB
    rw [show (⟨o, fun _ => false, 0, hh⟩ : AH) = ⟨o ++ [], fun _ => false, 0, hh⟩ by rw [List.append_nil]]
    refine w_seq (w_reg (s_q rfl rfl (q_lss rfl rfl rfl) ?_))
    refine s_nil (n_n (w_seq (w_if (is_scb rfl) (fun h10 => ?_) (fun h10 => ?_))))
    · have hlt : i < (tabI rows :: ivs).length := by have h' : (i : Int) < (((tabI rows :: ivs).length : Nat) : Int) := of_decide_eq_true h10; omega
      have hel : es.length = i := by have := congrArg List.length hes; simp only [List.length_map, List.length_take, WL, List.length_cons] at this; simp only [List.length_cons] at hi hlt; omega
      simp only [List.length_cons] at hi
      have hlen0 : (tabI rows :: ivs).length = ivs.length + 1 := rfl
      have hcall : ACall Tryz.prog G 66 true [((tabI rows :: ivs)[i]).d] hh (fun w h2 => Keep hh h2 [] ∧ ext w = true ∧ ∃ kr2 kc2 rg2, (WL 75 (rows.map (·.map fun u => innX (IU.v u))) kr2 kc2 (ivs.map innX)).take (i + 1) = (WL 75 (rows.map (·.map fun u => innX (IU.v u))) kr kc (ivs.map innX)).take i ++ [.ifc 75 w] ∧ TabAt h2 kr2 kc2 rg2 (k :: es.map (·.1))) := by
        rcases Nat.eq_zero_or_pos i with h0 | h0
        · subst h0
          refine (pf_innerTab (G := G) hh rows (fun u => innX (IU.v u)) hrl hrne hrr hcell).mono fun w h2 ⟨kr2, kc2, rg2, e1, e2, e3, e4, e5, e6, e7, e8⟩ => ⟨e8, by rw [e1]; rfl, kr2, kc2, rg2, by rw [e1]; rfl, e2, e3, e4, ?_⟩
          have key : ∀ x, hh x = none → x ∉ k :: es.map (·.1) := fun x hx hm => hL.some hm hx
          exact ⟨key _ e5, key _ e6, key _ e7⟩
        · have hT' := hT.resolve_left (by omega)
          obtain ⟨j, rfl⟩ : ∃ j, i = j + 1 := ⟨i - 1, by omega⟩
          have hj : j < ivs.length := by omega
          have hW : (WL 75 (rows.map (·.map fun u => innX (IU.v u))) kr kc (ivs.map innX)).take (j + 1 + 1) = (WL 75 (rows.map (·.map fun u => innX (IU.v u))) kr kc (ivs.map innX)).take (j + 1) ++ [.ifc 75 (innX ivs[j]).d] := by
            rw [List.take_succ_eq_append_getElem (by simp [WL]; omega)]
            simp [WL]
          refine ((hf ivs[j] (List.getElem_mem hj)).at hh).mono fun w h2 ⟨e1, e2⟩ => ⟨by rw [e2]; exact Keep.refl _ _, by rw [e1]; rfl, kr, kc, rg, by rw [hW, e1], by rw [e2]; exact hT'⟩
      refine w_skip (n_n (w_seq (w_block (w_seq (w_reg (s_q rfl rfl (q_index rfl rfl rfl rfl (Int.natCast_nonneg _) (by show ((i : Nat) : Int) < (((tabI rows :: ivs).length : Nat) : Int); omega)) ?_))))))
      refine s_q rfl rfl (q_loadPin rfl rfl (by exact take_ilst hlt)) ?_
      refine s_s rfl rfl (as_allocT (os := o) (tail := []) rfl rfl rfl (by exact (rfl : _ = [_, _, _, _]))) ?_
      refine s_u rfl rfl (as_stT (os := o) (tail := [_]) (j := 0) rfl rfl rfl (by first | exact (rfl : _ = D.agg [_, _, _, _]) | exact rfl) (by exact rfl) (by exact rfl) (by exact rfl) (by exact Nat.le_of_ble_eq_true rfl) (by exact (rfl : _ = [_, _, _, _])) (by exact (rfl : _ = [_]))) ?_
      refine s_nil (n_n (w_reg (s_q rfl rfl (q_mv (.inl rfl) (by first | exact is_box rfl | exact is_hp rfl | exact is_pin rfl | exact is_sc rfl | exact rfl)) ?_)))
      refine s_q rfl rfl (q_loadT (os := o) (tail := [_]) (j := 0) rfl rfl rfl (by exact rfl) (by exact (rfl : _ = some (D.agg [_, _, _, _])))) ?_
      refine s_o rfl rfl (ao_callH rfl rfl rfl rfl hcall fun v15 Hv15 hv15 => ?_)
      obtain ⟨hK15, hx15, kr2, kc2, rg2, hW2, hT2⟩ := hv15
      replace hK15 : Keep hh Hv15 [] := hK15
      have hL15 := hL.keep hK15 (fun x hx => by simp)
      refine s_q rfl rfl (q_ifc rfl (by first | exact (rfl : _ = D.agg [_, _, _, _, _, _, _, _, _, _]) | exact rfl)) ?_
      refine s_o rfl rfl (ao_callHN (ds := [.hp k 0, .ifc 75 v15]) rfl rfl rfl (by simp [ext.extL, ext, hx15]) (pf_PushBackG _ k es hL15 75 v15 hx15 (by omega)) fun v17 Hv17 hv17 => ?_)
      obtain ⟨e, rfl, hL2, he2, hK17⟩ := hv17
      replace he2 : Hv15 e = none := he2
      replace hK17 : Keep Hv15 Hv17 (k :: es.map (·.1)) := hK17
      refine s_nil (b_n (n_n (w_reg (s_q rfl rfl (q_add rfl rfl rfl) ?_))))
      refine s_q rfl rfl (q_mv (.inl rfl) (is_sc rfl)) ?_
      refine s_nil (n_n ?_)
      have hw : IntKind.i64.wrap ((i : Int) + 1) = ((i + 1 : Nat) : Int) := wrap_nat (by omega)
      refine ⟨⟨i + 1, _, _, _, kr2, kc2, rg2, hlt, hL2, ?_, .inr ?_, ⟨rfl, rfl, rfl, i64_eq hw, trivial⟩, rfl⟩, ?_⟩
      · rw [List.map_append, hes, hW2]; rfl
      · have h1 := (hT2.more he2).keep hK17 (fun x hx => List.mem_append_left _ hx)
        rw [List.map_append]; exact h1
      · show (tabI rows :: ivs).length - (IntKind.i64.wrap ((i : Int) + 1)).toNat < (tabI rows :: ivs).length - (i : Int).toNat
        rw [hw]; omega
    · have hge : (tabI rows :: ivs).length ≤ i := by have h' : ¬ (i : Int) < (((tabI rows :: ivs).length : Nat) : Int) := of_decide_eq_false h10; omega
      simp only [List.length_cons] at hi hge
      refine w_exit (n_e (n_e (b_hit (n_n (w_seq (w_reg (s_q rfl rfl (q_mv (.inl rfl) (by first | exact is_box rfl | exact is_hp rfl | exact is_pin rfl | exact is_sc rfl | exact rfl)) ?_)))))))
      refine s_q rfl rfl (q_mv (.inr rfl) (by first | exact is_box rfl | exact is_hp rfl | exact is_pin rfl | exact is_sc rfl | exact rfl)) ?_
      refine s_nil (n_n (w_ret ?_))
      -- end 0
      refine r_r (ra_tmp (by first | exact is_box rfl | exact is_hp rfl | exact is_pin rfl | exact is_sc rfl | exact rfl) ra_nil) (by first | exact is_box rfl | exact is_hp rfl | exact is_pin rfl | exact is_sc rfl | exact rfl) (by exact rfl) (Sub.refl _) ?_
      refine ⟨k, es, kr, kc, rg, rfl, hL, ?_, hT.resolve_left (by omega)⟩
      rw [hes, List.take_of_length_le (by simp [WL]; omega)]

end Go.Proofs.YtopgbalmdocboaaGreatDoor.Zz
