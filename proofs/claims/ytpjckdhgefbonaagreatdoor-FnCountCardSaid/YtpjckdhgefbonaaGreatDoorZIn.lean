/- Walks of the functions, printed by program, and the logic behind them: each theorem says what one function or one step answers. -/
import Derived.Test.YtpjckdhgefbonaaGreatDoorZWe
import Derived.Test.YtpjckdhgefbonaaGreatDoorZMa
import Derived.Test.YtpjckdhgefbonaaGreatDoorZIt2
namespace Go.Proofs.YtpjckdhgefbonaaGreatDoor.Zz
open Go.Abs
set_option maxRecDepth 100000
set_option linter.unusedVariables false
set_option linter.unusedSimpArgs false
set_option maxHeartbeats 4000000
variable {G : Nat → D}

-- pub-tallysheet/impl.in
theorem pf_inG (l : List IV) (hl : l.length < 1000000000) (hr : ∀ v ∈ l, v.rows.length < 1000000000 ∧ ∀ r ∈ v.rows, r.length < 1000000000) : PF Tryz.prog G 35 [ilst l] (ilst l) := by
  have hin : ∀ r : List IU, r.length < 1000000000 → PF Tryz.prog G 35 [ilstU r] (ilstU r) := fun r h => by
    have := pf_in (G := G) (r.map IU.v) (by simpa using h) (fun v hv => by obtain ⟨x, _, rfl⟩ := List.mem_map.1 hv; rfl)
    rw [ilst_U] at this; exact this
  refine PC.intro rfl Tryz.func35 rfl (Nat.le_of_ble_eq_true rfl) rfl ?_
  refine w_seq (w_reg (s_q rfl rfl (q_mv (.inr rfl) (by first | exact is_im rfl | exact is_gs rfl | exact is_lit rfl | exact is_ms rfl | exact is_sc rfl | exact rfl)) ?_))
  refine s_nil (n_n (w_seq (w_reg (s_s rfl rfl (as_nil (e := 63) (.inl rfl) rfl) ?_))))
  refine s_nil (n_n (w_seq (w_seq (w_reg (s_q rfl rfl (q_mv (.inl rfl) (by first | exact is_im rfl | exact is_gs rfl | exact is_lit rfl | exact is_ms rfl | exact is_sc rfl | exact rfl)) ?_)))))
  refine s_q rfl rfl (q_len rfl rfl rfl) ?_
  refine s_q rfl rfl (q_mv (.inl rfl) (is_sc rfl)) ?_
  refine s_nil (n_n (w_block ?_))
  refine w_loop (fun env A => ∃ (i t : Nat) (o : List LO) (live : Nat → Bool) (ln : Nat), i ≤ l.length ∧ Binds env [(3, .gs t 63 ((l.take i).flatMap IV.c) (l.take i).length), (9, ilst l), (10, i64 l.length), (11, i64 i)] ∧ A = ⟨o, live, ln, noHeap⟩ ∧ live t = true ∧ t < ln) (fun env _ => l.length - ctr (env 11)) ?_ ?_
  · exact ⟨0, 0, _, _, _, Nat.zero_le _, ⟨rfl, rfl, rfl, rfl, trivial⟩, rfl, rfl, Nat.lt_succ_self _⟩
  · rintro env A ⟨i, t, o, live, ln, hi, hB, rfl, hv, htl⟩
    rw [hB.eq]; clear hB
    rw [show (⟨o, live, ln, noHeap⟩ : AH) = ⟨o ++ [], live, ln, noHeap⟩ by rw [List.append_nil]]
    refine w_seq (w_reg (s_q rfl rfl (q_lss rfl rfl rfl) ?_))
    refine s_nil (n_n (w_seq (w_if (is_scb rfl) (fun h12 => ?_) (fun h12 => ?_))))
    · have hlt : i < l.length := by have h' : (i : Int) < ((l.length : Nat) : Int) := of_decide_eq_true h12; omega
      obtain ⟨hr1, hr2⟩ := hr _ (List.getElem_mem hlt)
      refine w_skip (n_n (w_seq (w_block (w_seq (w_reg (s_q rfl rfl (q_index rfl rfl rfl rfl (Int.natCast_nonneg _) (by omega)) ?_))))))
      refine s_q rfl rfl (q_loadPin rfl rfl (by exact take_ilst hlt)) ?_
      refine s_s rfl rfl (as_allocT (os := o) (tail := []) rfl rfl rfl (by exact (rfl : _ = [_, _, _, _]))) ?_
      refine s_u rfl rfl (as_stT (os := o) (tail := [_]) (j := 0) rfl rfl rfl (by first | exact (rfl : _ = D.agg [_, _, _, _]) | exact rfl) (by exact rfl) (by exact rfl) (by exact rfl) (by exact Nat.le_of_ble_eq_true rfl) (by exact (rfl : _ = [_, _, _, _])) (by exact (rfl : _ = [_]))) ?_
      refine s_nil (n_n (w_seq (w_reg (s_q rfl rfl (q_field rfl rfl (by exact rfl)) ?_))))
      refine s_q rfl rfl (q_loadT (os := o) (tail := [_]) (j := 0) rfl rfl rfl (by exact rfl) (by exact (rfl : _ = some (D.sc _)))) ?_
      refine s_q rfl rfl (q_field rfl rfl (by exact rfl)) ?_
      refine s_q rfl rfl (q_loadT (os := o) (tail := [_]) (j := 0) rfl rfl rfl (by exact rfl) (by exact (rfl : _ = some (D.sc _)))) ?_
      refine s_q rfl rfl (q_field rfl rfl (by exact rfl)) ?_
      refine s_q rfl rfl (q_loadT (os := o) (tail := [_]) (j := 0) rfl rfl rfl (by exact rfl) (by exact (rfl : _ = some (D.sc _)))) ?_
      refine s_q rfl rfl (q_build rfl (pt_cons (is_sc rfl) (pt_cons (is_sc rfl) (pt_cons (is_sc rfl) pt_nil))) (by exact (rfl : _ = some [_, _, _, _]))) ?_
      refine s_s rfl rfl (as_allocT (os := o) (tail := [_]) rfl rfl rfl (by exact (rfl : _ = [_, _, _, _]))) ?_
      refine s_u rfl rfl (as_stT (os := o) (tail := [_, _]) (j := 1) rfl rfl rfl (by first | exact (rfl : _ = D.agg [_, _, _, _]) | exact rfl) (by exact rfl) (by exact rfl) (by exact rfl) (by exact Nat.le_of_ble_eq_true rfl) (by exact (rfl : _ = [_, _, _, _])) (by exact (rfl : _ = [_, _]))) ?_
      refine s_nil (n_n (w_seq (w_seq (w_reg (s_q rfl rfl (q_field rfl rfl (by exact rfl)) ?_)))))
      refine s_q rfl rfl (q_loadT (os := o) (tail := [_, _]) (j := 0) rfl rfl rfl (by exact rfl) (by exact rfl)) ?_
      refine s_q rfl rfl (q_len rfl rfl rfl) ?_
      refine s_s rfl rfl (as_mvNilT (os := o) (tail := [_, _]) (j := 1) (off := 3) (e := 65) (.inr rfl) rfl rfl rfl rfl (by exact (rfl : _ = [_, _]))) ?_
      refine s_nil (n_n (w_block ?_))
      refine w_loop (fun env A => ∃ (j t2 n : Nat) (xs : List D) (live2 : Nat → Bool) (ln2 : Nat), j ≤ l[i].rows.length ∧ Binds env [(3, .gs t 63 ((l.take i).flatMap IV.c) (l.take i).length), (9, ilst l), (10, i64 l.length), (11, i64 i), (6, .box (o.length + 1) 0), (23, .im (l[i].rows.map ilstU) l[i].rows.length), (24, i64 l[i].rows.length), (25, i64 j)] ∧ A = ⟨o ++ [.cells (IV.c l[i]), .cells [i64 l[i].kind, fl l[i].num, st l[i].text, .gs t2 65 xs n]], live2, ln2, noHeap⟩ ∧ xs = (l[i].rows.take j).map ilstU ∧ n = (l[i].rows.take j).length ∧ live2 t = true ∧ live2 t2 = true ∧ t < ln2 ∧ t2 < ln2 ∧ t ≠ t2) (fun env _ => l[i].rows.length - ctr (env 25)) ?_ ?_
      · exact ⟨0, _, 0, [], _, _, Nat.zero_le _, ⟨rfl, rfl, rfl, rfl, rfl, rfl, rfl, rfl, trivial⟩, rfl, rfl, rfl, live_tags_old (A := ⟨_, live, ln, noHeap⟩) hv, live_tags ⟨_, live, ln, noHeap⟩, Nat.lt_succ_of_lt htl, Nat.lt_succ_self _, Nat.ne_of_lt htl⟩
      · clear hv htl
        rintro env A ⟨j, t2, n, xs, live2, ln2, hj, hB, rfl, rfl, rfl, hv, hv2, htl, htl2, hne⟩
        rw [hB.eq]; clear hB
        refine w_seq (w_reg (s_q rfl rfl (q_lss rfl rfl rfl) ?_))
        refine s_nil (n_n (w_seq (w_if (is_scb rfl) (fun h26 => ?_) (fun h26 => ?_))))
        · have hjlt : j < l[i].rows.length := by have h' : (j : Int) < ((l[i].rows.length : Nat) : Int) := of_decide_eq_true h26; omega
          refine w_skip (n_n (w_seq (w_block (w_seq (w_reg (s_q rfl rfl (q_index rfl rfl rfl rfl (Int.natCast_nonneg _) (by omega)) ?_))))))
          refine s_q rfl rfl (q_loadPin rfl rfl (take_map ilstU hjlt)) ?_
          refine s_q rfl rfl (q_mv (.inr rfl) (by first | exact is_im rfl | exact is_gs rfl | exact is_lit rfl | exact is_ms rfl | exact is_sc rfl | exact rfl)) ?_
          refine s_nil (n_n (w_draw [0, 1, 0, 4, 12, 31, 63, 127] [0, 1, 0, 0, 0, 3, 0, 3] rfl ?_))
          refine d_q0 rfl rfl (q_field rfl rfl (by exact rfl)) ?_
          refine d_q1 rfl rfl (q_loadT (os := o) (tail := [_, _]) (j := 1) rfl rfl rfl (by exact rfl) (by exact rfl)) ?_
          refine d_q0 rfl rfl (q_mv (.inl rfl) (by first | exact is_im rfl | exact is_gs rfl | exact is_lit rfl | exact is_ms rfl | exact is_sc rfl | exact rfl)) ?_
          refine d_q0 rfl rfl (q_call rfl rfl rfl rfl (hin _ (hr2 _ (List.getElem_mem hjlt)))) ?_
          refine d_q0 rfl rfl (q_bs rfl (pt_cons (by first | exact is_im rfl | exact is_gs rfl | exact is_lit rfl | exact is_ms rfl | exact is_sc rfl | exact rfl) pt_nil) (by decide) (by decide) (by exact (rfl : _ = some [_])) (by exact (rfl : _ = [_])) (by exact rfl) (by exact rfl)) ?_
          refine d_s3 rfl rfl (as_append rfl rfl hv2 rfl rfl (by decide) (by simp [List.length_map]) (by exact rfl) (by show _ * 24 ≤ _; simp only [List.length_take]; omega) (by show _ ≤ 9223372036854775807; simp only [List.length_take]; omega)) ?_
          refine d_q0 rfl rfl (q_field rfl rfl (by exact rfl)) ?_
          refine d_u3 rfl rfl (as_stT (os := o) (tail := [_, _]) (j := 1) rfl rfl rfl (by first | exact is_im rfl | exact is_gs rfl | exact is_lit rfl | exact is_ms rfl | exact is_sc rfl | exact rfl) (by exact rfl) (by exact rfl) (by exact rfl) (by exact Nat.le_of_ble_eq_true rfl) (by exact (rfl : _ = [_, _, _, _])) (by exact (rfl : _ = [_, _]))) ?_
          refine d_nil (b_n (n_n (w_reg (s_q rfl rfl (q_add rfl rfl rfl) ?_))))
          refine s_q rfl rfl (q_mv (.inl rfl) (is_sc rfl)) ?_
          refine s_nil (n_n ?_)
          have hw : IntKind.i64.wrap ((j : Int) + 1) = ((j + 1 : Nat) : Int) := wrap_nat (by omega)
          refine ⟨⟨j + 1, ln2, _, _, _, _, hjlt, ⟨rfl, rfl, rfl, rfl, rfl, rfl, rfl, i64_eq hw, trivial⟩, rfl, ?_, ?_, live_app_old (A := ⟨_, live2, ln2, noHeap⟩) hv hne, live_app ⟨_, live2, ln2, noHeap⟩ t2, Nat.lt_succ_of_lt htl, Nat.lt_succ_self _, Nat.ne_of_lt htl⟩, ?_⟩
          · rw [List.take_succ_eq_append_getElem hjlt, List.map_append]; rfl
          · rw [List.take_succ_eq_append_getElem hjlt, List.length_append]; rfl
          · show l[i].rows.length - (IntKind.i64.wrap ((j : Int) + 1)).toNat < l[i].rows.length - (j : Int).toNat
            rw [hw]; omega
        · have hjge : l[i].rows.length ≤ j := by have h' : ¬ (j : Int) < ((l[i].rows.length : Nat) : Int) := of_decide_eq_false h26; omega
          rw [List.take_of_length_le hjge]
          refine w_exit (n_e (n_e (b_hit (n_n (w_reg (s_q rfl rfl (q_mv (.inl rfl) (by first | exact is_im rfl | exact is_gs rfl | exact is_lit rfl | exact is_ms rfl | exact is_sc rfl | exact rfl)) ?_))))))
          refine s_q rfl rfl (q_loadT (os := o) (tail := [_, _]) (j := 1) rfl rfl rfl (by exact rfl) (by exact (rfl : _ = some (D.agg [_, _, _, _])))) ?_
          refine s_q rfl rfl (q_bs rfl (pt_cons (by first | exact (rfl : _ = D.agg [_, _, _, _]) | exact rfl) pt_nil) (by decide) (by decide) (by exact (rfl : _ = some [_, _, _, _])) (by exact (rfl : _ = [_, _, _, _])) (by exact rfl) (by exact rfl)) ?_
          refine s_s rfl rfl (as_append rfl rfl hv rfl rfl (by decide) (by exact len_ilst _) (by exact rfl) (by show _ * 56 ≤ _; simp only [List.length_take]; omega) (by show _ ≤ 9223372036854775807; simp only [List.length_take]; omega)) ?_
          refine s_q rfl rfl (q_mv (.inr rfl) (by first | exact is_im rfl | exact is_gs rfl | exact is_lit rfl | exact is_ms rfl | exact is_sc rfl | exact rfl)) ?_
          refine s_nil (b_n (n_n (w_reg (s_q rfl rfl (q_add rfl rfl rfl) ?_))))
          refine s_q rfl rfl (q_mv (.inl rfl) (is_sc rfl)) ?_
          refine s_nil (n_n ?_)
          have hw : IntKind.i64.wrap ((i : Int) + 1) = ((i + 1 : Nat) : Int) := wrap_nat (by omega)
          refine ⟨⟨i + 1, ln2, _, _, _, hlt, ⟨?_, rfl, rfl, i64_eq hw, trivial⟩, rfl, live_app ⟨_, live2, ln2, noHeap⟩ t, Nat.lt_succ_self _⟩, ?_⟩
          · rw [List.take_succ_eq_append_getElem hlt]
            refine Eq.trans ?_ (gs_catI _ [l[i]])
            refine gs_eq ?_ rfl
            rw [show [l[i]].flatMap IV.c = IV.c l[i] by simp]; rfl
          · show l.length - (IntKind.i64.wrap ((i : Int) + 1)).toNat < l.length - (i : Int).toNat
            rw [hw]; omega
    · have hge : l.length ≤ i := by have h' : ¬ (i : Int) < ((l.length : Nat) : Int) := of_decide_eq_false h12; omega
      rw [List.take_of_length_le hge]
      refine w_exit (n_e (n_e (b_hit (n_n (w_seq (w_reg (s_q rfl rfl (q_mv (.inl rfl) (by first | exact is_im rfl | exact is_gs rfl | exact is_lit rfl | exact is_ms rfl | exact is_sc rfl | exact rfl)) ?_)))))))
      refine s_q rfl rfl (q_mv (.inr rfl) (by first | exact is_im rfl | exact is_gs rfl | exact is_lit rfl | exact is_ms rfl | exact is_sc rfl | exact rfl)) ?_
      refine s_nil (n_n (w_ret ?_))
      -- end 0
      refine r_r (ra_tmp (by first | exact is_im rfl | exact is_gs rfl | exact is_lit rfl | exact is_ms rfl | exact is_sc rfl | exact rfl) ra_nil) (by first | exact is_im rfl | exact is_gs rfl | exact is_lit rfl | exact is_ms rfl | exact is_sc rfl | exact rfl) (by exact rfl) sub_no ?_
      rfl

end Go.Proofs.YtpjckdhgefbonaaGreatDoor.Zz
