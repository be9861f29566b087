/- Walks of the functions, printed by program: each theorem says what one function answers. -/
import Derived.Test.YtjobmjfdlkjaoaaGreatDoorZPrGcd
import Derived.Test.YtjobmjfdlkjaoaaGreatDoorZNx
import Derived.Test.YtjobmjfdlkjaoaaGreatDoorZBit
namespace Go.Proofs.YtjobmjfdlkjaoaaGreatDoor.Zz
open Go.Abs
set_option maxRecDepth 100000
set_option linter.unusedVariables false
set_option linter.unusedSimpArgs false
set_option maxHeartbeats 4000000
variable {G : Nat → D}

-- (*pub-tallysheet/pub/excelize.formulaFuncs).LCM
theorem pf_LCM (h : Heap) (kf k : Nat) (es : List (Nat × D)) (H : IsList h k es) (ns : List Int) (g : Int → Nat) (hes : es.map (·.2) = ns.map fun n => .ifc 61 (fNum (g n)).d) (hg : ∀ n ∈ ns, Fy 0 (g n) n) (hgb : ∀ n ∈ ns, g n < 2 ^ 64) (hok : ∀ n ∈ ns, 0 ≤ n ∧ n ≤ 1000) (h30 : ns.length ≤ 30) (hne : ¬ ns = []) (L : Nat) (hL : lcmI 1 ns = some L) : ACall Tryz.prog G 46 true [.hp kf 0, .hp k 0] h (fun ret _ => ∃ r, ret = (fNum r).d ∧ Fy 0 r (L : Int) ∧ r < 2 ^ 64) := by
  have h0 : 0 < ns.length := List.length_pos_iff.mpr hne
  have hle : es.length = ns.length := by have := congrArg List.length hes; simpa using this
  have hg0 : Fy 0 (g ns[0]) ns[0] := hg _ (List.getElem_mem h0)
  have hb0 := hgb _ (List.getElem_mem h0)
  have hk0 := hok _ (List.getElem_mem h0)
  have hn0 : fcmp .lss .f64 (g ns[0]) 0 = false := by rw [fcmp_lss0 hg0.whole]; exact decide_eq_false (by omega)
  have hz0 : ¬ (ns[0] = 0 ∨ 1000000 < 1) := fun hb => by have := lcm_bad (o := 1) h0 hb; rw [List.drop_zero, hL] at this; cases this
  have hL1 : lcmI ns[0].toNat (ns.drop 1) = some L := by have := lcm_step (o := 1) h0 hz0; rw [List.drop_zero, hL, Nat.gcd_one_left, Nat.div_self (by omega), Nat.one_mul] at this; exact this.symm
  have hg0' : Fy 0 (g ns[0]) ((ns[0].toNat : Nat) : Int) := by rw [Int.toNat_of_nonneg hk0.1]; exact hg0
  refine ACall.intro rfl Tryz.func46 rfl (Nat.le_of_ble_eq_true rfl) rfl ?_
  refine w_seq (w_reg (s_s rfl rfl (as_alloc0 (id := 0) rfl rfl (by exact (rfl : _ = [_, _, _, _, _, _, _, _, _, _]))) ?_))
  refine s_nil (n_n (w_seq (w_seq (w_reg (s_q rfl rfl (q_mv (.inl rfl) (by first | exact is_box rfl | exact is_hp rfl | exact is_pin rfl | exact is_sc rfl | exact rfl)) ?_)))))
  refine s_o rfl rfl (ao_callH rfl rfl rfl rfl (pf_Len _ k _ H) fun vln Hvln hvln => ?_)
  obtain ⟨rfl, e⟩ := hvln
  rw [e]; clear e
  refine s_q rfl rfl (q_as (bl_no (show ¬ (es.length : Int) = 0 by omega)) (q_eql rfl rfl rfl)) ?_
  refine s_nil (n_n (w_ifF rfl (w_skip (n_n (w_seq (w_reg (s_q rfl rfl (q_mv (.inr rfl) (is_sc rfl)) ?_)))))))
  refine s_nil (n_n (w_seq (w_reg (s_s rfl rfl (as_nil (e := 38) (.inl rfl) rfl) ?_))))
  refine s_nil (n_n (w_seq (w_reg (s_q rfl rfl (q_mv (.inr rfl) (by first | exact is_ifc rfl | exact is_sc rfl | exact rfl)) ?_))))
  refine s_nil (n_n (w_seq (w_seq (w_reg (s_q rfl rfl (q_mv (.inl rfl) (by first | exact is_box rfl | exact is_hp rfl | exact is_pin rfl | exact is_sc rfl | exact rfl)) ?_)))))
  refine s_o rfl rfl (ao_callH rfl rfl rfl rfl (pf_Front _ k _ H (by omega) (by omega)) fun vfr Hvfr hvfr => ?_)
  obtain ⟨rfl, e⟩ := hvfr
  rw [e]; clear e
  refine s_q rfl rfl (q_mv (.inr rfl) (by first | exact is_box rfl | exact is_hp rfl | exact is_pin rfl | exact is_sc rfl | exact rfl)) ?_
  refine s_nil (n_n (w_block ?_))
  refine w_loop (fun env A => ∃ (i t : Nat) (o : List LO) (live : Nat → Bool) (ln : Nat), i ≤ ns.length ∧ Binds env [(4, .box 0 0), (6, .gs t 38 ((ns.take i).map fun n => fl (g n)) (ns.take i).length), (8, ptrAt es i)] ∧ A = ⟨.cells [.sc (.string ⟨⟨[]⟩⟩), .sc (.float .f64 0), .sc (.string ⟨⟨[]⟩⟩), .sc (.slice none 0 0), .sc (.slice none 0 0), .sc (.bool false), .sc (.string ⟨⟨[]⟩⟩), .sc (.int .u8 0), .sc (.pointer none), .sc (.pointer none)] :: o, live, ln, h⟩ ∧ live t = true) (fun env _ => ns.length - lenG (env 6)) ?_ ?_
  · exact ⟨0, _, [], _, _, Nat.zero_le _, ⟨rfl, rfl, (ptrAt_lt (by omega)).symm, trivial⟩, rfl, rfl⟩
  · rintro env A ⟨i, t, o, live, ln, hi, hB, rfl, hv⟩
    rw [hB.eq]; clear hB
    rw [show (⟨.cells [.sc (.string ⟨⟨[]⟩⟩), .sc (.float .f64 0), .sc (.string ⟨⟨[]⟩⟩), .sc (.slice none 0 0), .sc (.slice none 0 0), .sc (.bool false), .sc (.string ⟨⟨[]⟩⟩), .sc (.int .u8 0), .sc (.pointer none), .sc (.pointer none)] :: o, live, ln, h⟩ : AH) = ⟨(.cells [.sc (.string ⟨⟨[]⟩⟩), .sc (.float .f64 0), .sc (.string ⟨⟨[]⟩⟩), .sc (.slice none 0 0), .sc (.slice none 0 0), .sc (.bool false), .sc (.string ⟨⟨[]⟩⟩), .sc (.int .u8 0), .sc (.pointer none), .sc (.pointer none)] :: o) ++ [], live, ln, h⟩ by rw [List.append_nil]]
    refine w_seq (w_seq (w_reg (s_q rfl rfl (q_mv (.inl rfl) (by first | exact is_box rfl | exact is_hp rfl | exact is_pin rfl | exact is_sc rfl | exact rfl)) ?_)))
    refine s_q rfl rfl (q_ptrAt rfl rfl rfl) ?_
    refine s_nil (n_n (w_if (is_scb rfl) (fun h19 => ?_) (fun h19 => ?_)))
    · have hlt : i < es.length := of_decide_eq_true h19
      have hltn : i < ns.length := by omega
      rw [ptrAt_lt hlt]
      have hval : Heap.get h es[i].1 3 = some (.ifc 61 (fNum (g ns[i])).d) := by
        rw [H.val _ (List.getElem_mem hlt)]
        have h1 : (es.map (·.2))[i]'(by simpa using hlt) = es[i].2 := by simp
        rw [← h1]; simp [hes]
      refine w_skip (n_n (w_seq (w_block (w_seq (w_reg (s_q rfl rfl (q_mv (.inl rfl) (by first | exact is_box rfl | exact is_hp rfl | exact is_pin rfl | exact is_sc rfl | exact rfl)) ?_))))))
      refine s_q rfl rfl (q_nil rfl rfl rfl) ?_
      refine s_q rfl rfl (q_field rfl rfl (by exact rfl)) ?_
      refine s_q rfl rfl (q_loadH rfl rfl (d := .ifc 61 (fNum (g ns[i])).d) (by exact hval)) ?_
      refine s_q rfl rfl (q_asr rfl rfl) ?_
      refine s_s rfl rfl (as_allocT (os := (.cells [.sc (.string ⟨⟨[]⟩⟩), .sc (.float .f64 0), .sc (.string ⟨⟨[]⟩⟩), .sc (.slice none 0 0), .sc (.slice none 0 0), .sc (.bool false), .sc (.string ⟨⟨[]⟩⟩), .sc (.int .u8 0), .sc (.pointer none), .sc (.pointer none)] :: o)) (tail := []) rfl rfl rfl (by exact (rfl : _ = [_, _, _, _, _, _, _, _, _, _]))) ?_
      refine s_u rfl rfl (as_stT (os := (.cells [.sc (.string ⟨⟨[]⟩⟩), .sc (.float .f64 0), .sc (.string ⟨⟨[]⟩⟩), .sc (.slice none 0 0), .sc (.slice none 0 0), .sc (.bool false), .sc (.string ⟨⟨[]⟩⟩), .sc (.int .u8 0), .sc (.pointer none), .sc (.pointer none)] :: o)) (tail := [_]) (j := 0) rfl rfl rfl (by first | exact (rfl : _ = D.agg [_, _, _, _, _, _, _, _, _, _]) | exact rfl) (by exact rfl) (by exact rfl) (by exact rfl) (by exact Nat.le_of_ble_eq_true rfl) (by exact (rfl : _ = [_, _, _, _, _, _, _, _, _, _])) (by exact (rfl : _ = [_]))) ?_
      refine s_nil (n_n (w_seq (w_seq (w_reg (s_q rfl rfl (q_field rfl rfl (by exact rfl)) ?_)))))
      refine s_q rfl rfl (q_loadT (os := (.cells [.sc (.string ⟨⟨[]⟩⟩), .sc (.float .f64 0), .sc (.string ⟨⟨[]⟩⟩), .sc (.slice none 0 0), .sc (.slice none 0 0), .sc (.bool false), .sc (.string ⟨⟨[]⟩⟩), .sc (.int .u8 0), .sc (.pointer none), .sc (.pointer none)] :: o)) (tail := [_]) (j := 0) rfl rfl rfl (by exact rfl) (by exact (rfl : _ = some (D.sc _)))) ?_
      refine s_nil (n_n (w_block (w_seq (w_reg (s_q rfl rfl (q_eql rfl rfl rfl) ?_)))))
      refine s_q rfl rfl (q_mv (.inr rfl) (is_sc rfl)) ?_
      refine s_nil (n_n (w_ifF rfl (w_seq (w_reg (s_q rfl rfl (q_eql rfl rfl rfl) ?_)))))
      refine s_q rfl rfl (q_mv (.inr rfl) (is_sc rfl)) ?_
      refine s_nil (n_n (w_ifT rfl (w_reg (s_q rfl rfl (q_field rfl rfl (by exact rfl)) ?_))))
      refine s_q rfl rfl (q_loadT (os := (.cells [.sc (.string ⟨⟨[]⟩⟩), .sc (.float .f64 0), .sc (.string ⟨⟨[]⟩⟩), .sc (.slice none 0 0), .sc (.slice none 0 0), .sc (.bool false), .sc (.string ⟨⟨[]⟩⟩), .sc (.int .u8 0), .sc (.pointer none), .sc (.pointer none)] :: o)) (tail := [_]) (j := 0) rfl rfl rfl (by exact rfl) (by exact (rfl : _ = some (D.sc _)))) ?_
      refine s_q rfl rfl (q_mv (.inr rfl) (is_sc rfl)) ?_
      refine s_nil (b_n (n_n (w_reg (s_q rfl rfl (q_mv (.inl rfl) (by first | exact is_im rfl | exact is_gs rfl | exact is_lit rfl | exact is_ms rfl | exact is_sc rfl | exact rfl)) ?_))))
      refine s_q rfl rfl (q_mv (.inl rfl) (is_sc rfl)) ?_
      refine s_q rfl rfl (q_bs rfl (pt_cons (is_sc rfl) pt_nil) (by decide) (by decide) (by exact (rfl : _ = some [_])) (by exact (rfl : _ = [_])) (by exact rfl) (by exact rfl)) ?_
      refine s_s rfl rfl (as_append rfl rfl hv rfl rfl (by decide) (by simp) (by exact rfl) (by show _ * 8 ≤ _; simp only [List.length_take]; omega) (by show _ ≤ 9223372036854775807; simp only [List.length_take]; omega)) ?_
      refine s_q rfl rfl (q_mv (.inr rfl) (by first | exact is_im rfl | exact is_gs rfl | exact is_lit rfl | exact is_ms rfl | exact is_sc rfl | exact rfl)) ?_
      refine s_nil (b_n (n_n (w_reg (s_q rfl rfl (q_mv (.inl rfl) (by first | exact is_box rfl | exact is_hp rfl | exact is_pin rfl | exact is_sc rfl | exact rfl)) ?_))))
      refine s_o rfl rfl (ao_callH rfl rfl rfl rfl (pf_Next _ k es H i (by omega)) fun vnx Hvnx hvnx => ?_)
      obtain ⟨rfl, e⟩ := hvnx
      rw [e]; clear e
      refine s_q rfl rfl (q_mv (.inr rfl) (by first | exact is_box rfl | exact is_hp rfl | exact is_pin rfl | exact is_sc rfl | exact rfl)) ?_
      refine s_nil (n_n ?_)
      refine ⟨⟨i + 1, ln, _, _, _, hltn, ⟨rfl, ?_, rfl, trivial⟩, rfl, ?_⟩, ?_⟩
      · rw [List.take_succ_eq_append_getElem hltn, List.map_append, List.length_append]; rfl
      · exact live_app ⟨_, live, ln, h⟩ t
      · show ns.length - ((ns.take i).length + 1) < ns.length - (ns.take i).length
        rw [List.length_take]; omega
    · have hge : ¬ i < es.length := of_decide_eq_false h19
      rw [List.take_of_length_le (by omega : ns.length ≤ i)]
      refine w_exit (n_e (n_e (b_hit (n_n (w_seq (w_seq (w_reg (s_q rfl rfl (q_mv (.inl rfl) (by first | exact is_im rfl | exact is_gs rfl | exact is_lit rfl | exact is_ms rfl | exact is_sc rfl | exact rfl)) ?_))))))))
      refine s_q rfl rfl (q_index rfl rfl rfl rfl (Int.le_refl _) (by show (0 : Int) < (ns.length : Int); omega)) ?_
      refine s_q rfl rfl (q_loadPin rfl rfl (take_map (l := ns) (i := 0) (fun n => fl (g n)) h0)) ?_
      refine s_q rfl rfl (q_fcmpV rfl rfl rfl rfl hn0) ?_
      refine s_nil (n_n (w_ifF rfl (w_skip (n_n (w_seq (w_seq (w_reg (s_q rfl rfl (q_mv (.inl rfl) (by first | exact is_im rfl | exact is_gs rfl | exact is_lit rfl | exact is_ms rfl | exact is_sc rfl | exact rfl)) ?_))))))))
      refine s_q rfl rfl (q_len rfl rfl rfl) ?_
      refine s_q rfl rfl (q_eql rfl rfl rfl) ?_
      refine s_nil (n_n (w_if (is_scb rfl) (fun h60 => ?_) (fun h60 => ?_)))
      · have h1 : ns.length = 1 := by have := of_decide_eq_true h60; omega
        refine w_seq (w_reg (s_q rfl rfl (q_mv (.inl rfl) (by first | exact is_im rfl | exact is_gs rfl | exact is_lit rfl | exact is_ms rfl | exact is_sc rfl | exact rfl)) ?_))
        refine s_q rfl rfl (q_index rfl rfl rfl rfl (Int.le_refl _) (by show (0 : Int) < (ns.length : Int); omega)) ?_
        refine s_q rfl rfl (q_loadPin rfl rfl (take_map (l := ns) (i := 0) (fun n => fl (g n)) h0)) ?_
        refine s_q rfl rfl (q_call rfl rfl rfl rfl (pf_newNum _ _ hg0.whole)) ?_
        refine s_u rfl rfl (as_st rfl rfl (by first | exact (rfl : _ = D.agg [_, _, _, _, _, _, _, _, _, _]) | exact rfl) rfl (by exact rfl) (by exact rfl) (by exact Nat.le_of_ble_eq_true rfl) (by exact (rfl : _ = [_, _, _, _, _, _, _, _, _, _]))) ?_
        refine s_nil (n_n (w_ret (n_r ?_)))
        -- end 0
        refine r_r (ra_cell (by exact (rfl : _ = some (D.agg [_, _, _, _, _, _, _, _, _, _]))) ra_nil) (by first | exact (rfl : _ = D.agg [_, _, _, _, _, _, _, _, _, _]) | exact rfl) (by exact rfl) (Sub.refl _) ?_
        refine ⟨_, rfl, ?_, clean_lt hb0⟩
        rw [lcm_end (by omega)] at hL1
        cases hL1
        exact Fy.clean hg0'
      · have h1 : ¬ ns.length = 1 := by have := of_decide_eq_false h60; omega
        refine w_skip (n_n (w_seq (w_reg (s_q rfl rfl (q_mv (.inl rfl) (by first | exact is_im rfl | exact is_gs rfl | exact is_lit rfl | exact is_ms rfl | exact is_sc rfl | exact rfl)) ?_))))
        refine s_q rfl rfl (q_index rfl rfl rfl rfl (Int.le_refl _) (by show (0 : Int) < (ns.length : Int); omega)) ?_
        refine s_q rfl rfl (q_loadPin rfl rfl (take_map (l := ns) (i := 0) (fun n => fl (g n)) h0)) ?_
        refine s_q rfl rfl (q_mv (.inr rfl) (is_sc rfl)) ?_
        refine s_nil (n_n (w_seq (w_seq (w_reg (s_q rfl rfl (q_mv (.inr rfl) (is_sc rfl)) ?_)))))
        refine s_nil (n_n (w_block ?_))
        refine w_loop (fun env A => ∃ j b o2 : Nat, 1 ≤ j ∧ j ≤ ns.length ∧ 1 ≤ o2 ∧ o2 ≤ 1000000000 ∧ Fy 0 b (o2 : Int) ∧ b < 2 ^ 64 ∧ lcmI o2 (ns.drop j) = some L ∧ Binds env [(4, .box 0 0), (6, .gs t 38 (ns.map fun n => fl (g n)) ns.length), (10, fl b), (11, i64 j)] ∧ A = ⟨.cells [.sc (.string ⟨⟨[]⟩⟩), .sc (.float .f64 0), .sc (.string ⟨⟨[]⟩⟩), .sc (.slice none 0 0), .sc (.slice none 0 0), .sc (.bool false), .sc (.string ⟨⟨[]⟩⟩), .sc (.int .u8 0), .sc (.pointer none), .sc (.pointer none)] :: o, live, ln, h⟩) (fun env _ => ns.length - ctr (env 11)) ?_ ?_
        · exact ⟨1, _, ns[0].toNat, Nat.le_refl _, by omega, by omega, by omega, hg0', hb0, hL1, ⟨rfl, rfl, rfl, rfl, trivial⟩, by simp⟩
        · rintro env A ⟨j, b, o2, hj1, hj, ho1, ho2, hb, hb64, hD, hB, rfl⟩
          rw [hB.eq]; clear hB
          refine w_seq (w_seq (w_reg (s_q rfl rfl (q_mv (.inl rfl) (is_sc rfl)) ?_)))
          refine s_q rfl rfl (q_mv (.inl rfl) (by first | exact is_im rfl | exact is_gs rfl | exact is_lit rfl | exact is_ms rfl | exact is_sc rfl | exact rfl)) ?_
          refine s_q rfl rfl (q_len rfl rfl rfl) ?_
          refine s_q rfl rfl (q_lss rfl rfl rfl) ?_
          refine s_nil (n_n (w_if (is_scb rfl) (fun h71 => ?_) (fun h71 => ?_)))
          · have hlt : j < ns.length := by have := of_decide_eq_true h71; omega
            have hnb : ¬ (ns[j] = 0 ∨ 1000000 < o2) := fun hb => by rw [lcm_bad hlt hb] at hD; cases hD
            have hkj := hok _ (List.getElem_mem hlt)
            have hgj : Fy 0 (g ns[j]) ((ns[j].toNat : Nat) : Int) := by rw [Int.toNat_of_nonneg hkj.1]; exact hg _ (List.getElem_mem hlt)
            have hnj : fcmp .lss .f64 (g ns[j]) 0 = false := by rw [fcmp_lss0 hgj.whole]; exact decide_eq_false (by omega)
            have hq := lcm_le ho1 (by omega) (show 1 ≤ ns[j].toNat by omega) (by omega)
            refine w_skip (n_n (w_seq (w_block (w_seq (w_seq (w_reg (s_q rfl rfl (q_mv (.inl rfl) (by first | exact is_im rfl | exact is_gs rfl | exact is_lit rfl | exact is_ms rfl | exact is_sc rfl | exact rfl)) ?_)))))))
            refine s_q rfl rfl (q_mv (.inl rfl) (is_sc rfl)) ?_
            refine s_q rfl rfl (q_index rfl rfl rfl rfl (Int.natCast_nonneg _) (by omega)) ?_
            refine s_q rfl rfl (q_loadPin rfl rfl (take_map (l := ns) (fun n => fl (g n)) hlt)) ?_
            refine s_q rfl rfl (q_fcmpV rfl rfl rfl rfl hnj) ?_
            refine s_nil (n_n (w_ifF rfl (w_skip (n_n (w_reg (s_q rfl rfl (q_mv (.inl rfl) (is_sc rfl)) ?_))))))
            refine s_q rfl rfl (q_mv (.inl rfl) (by first | exact is_im rfl | exact is_gs rfl | exact is_lit rfl | exact is_ms rfl | exact is_sc rfl | exact rfl)) ?_
            refine s_q rfl rfl (q_mv (.inl rfl) (is_sc rfl)) ?_
            refine s_q rfl rfl (q_index rfl rfl rfl rfl (Int.natCast_nonneg _) (by omega)) ?_
            refine s_q rfl rfl (q_loadPin rfl rfl (take_map (l := ns) (fun n => fl (g n)) hlt)) ?_
            refine s_o rfl rfl (ao_call rfl rfl rfl rfl (pf_lcm _ _ o2 ns[j].toNat hb hgj ho1 (by omega) (by omega) (by omega)) fun vl hvl => ?_)
            obtain ⟨b2, rfl, hb2⟩ := hvl
            refine s_q rfl rfl (q_mv (.inr rfl) (is_sc rfl)) ?_
            refine s_nil (b_n (n_n (w_reg (s_q rfl rfl (q_mv (.inl rfl) (is_sc rfl)) ?_))))
            refine s_q rfl rfl (q_add rfl rfl rfl) ?_
            refine s_q rfl rfl (q_mv (.inr rfl) (is_sc rfl)) ?_
            refine s_nil (n_n ?_)
            have hw : IntKind.i64.wrap ((j : Int) + 1) = ((j + 1 : Nat) : Int) := wrap_nat (by omega)
            rw [lcm_step hlt hnb] at hD
            refine ⟨⟨j + 1, b2, _, by omega, hlt, hq.1, hq.2.1, hb2.1, hb2.2, hD, ⟨rfl, rfl, rfl, i64_eq hw, trivial⟩, rfl⟩, ?_⟩
            show ns.length - (IntKind.i64.wrap ((j : Int) + 1)).toNat < ns.length - (j : Int).toNat
            rw [hw]; omega
          · have hge : ns.length ≤ j := by have := of_decide_eq_false h71; omega
            refine w_exit (n_e (n_e (b_hit (n_n (w_seq (w_reg (s_q rfl rfl (q_mv (.inl rfl) (is_sc rfl)) ?_)))))))
            refine s_q rfl rfl (q_call rfl rfl rfl rfl (pf_newNum _ _ hb.whole)) ?_
            refine s_u rfl rfl (as_st rfl rfl (by first | exact (rfl : _ = D.agg [_, _, _, _, _, _, _, _, _, _]) | exact rfl) rfl (by exact rfl) (by exact rfl) (by exact Nat.le_of_ble_eq_true rfl) (by exact (rfl : _ = [_, _, _, _, _, _, _, _, _, _]))) ?_
            refine s_nil (n_n (w_ret ?_))
            -- end 1
            refine r_r (ra_cell (by exact (rfl : _ = some (D.agg [_, _, _, _, _, _, _, _, _, _]))) ra_nil) (by first | exact (rfl : _ = D.agg [_, _, _, _, _, _, _, _, _, _]) | exact rfl) (by exact rfl) (Sub.refl _) ?_
            refine ⟨_, rfl, ?_, clean_lt hb64⟩
            rw [lcm_end hge] at hD
            cases hD
            exact Fy.clean hb

end Go.Proofs.YtjobmjfdlkjaoaaGreatDoor.Zz
