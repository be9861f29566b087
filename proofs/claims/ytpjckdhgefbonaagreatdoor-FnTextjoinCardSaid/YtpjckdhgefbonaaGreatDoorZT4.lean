/- Walks of the functions, printed by program, and the logic behind them: each theorem says what one function or one step answers. -/
import Derived.Test.YtpjckdhgefbonaaGreatDoorZTt
namespace Go.Proofs.YtpjckdhgefbonaaGreatDoor.Zz
open Go.Abs
set_option maxRecDepth 100000
set_option linter.unusedVariables false
set_option linter.unusedSimpArgs false
set_option maxHeartbeats 4000000
variable {G : Nat → D}

-- pub-tallysheet/spec.Ascii
theorem pf_Ascii (s : List UInt8) (hl : s.length < 1000000000) : PF Tryz.prog G 183 [st s] (bl (asciiB s)) := by
  refine PC.intro rfl Tryz.func183 rfl (Nat.le_of_ble_eq_true rfl) rfl ?_
  refine w_seq (w_reg (s_q rfl rfl (q_mv (.inr rfl) (is_sc rfl)) ?_))
  refine s_nil (n_n (w_seq (w_seq (w_reg (s_q rfl rfl (q_mv (.inr rfl) (is_sc rfl)) ?_)))))
  refine s_nil (n_n (w_block ?_))
  refine w_loop (fun env A => ∃ i : Nat, i ≤ s.length ∧ (∀ b ∈ s.take i, 32 ≤ b.toNat ∧ b.toNat ≤ 126) ∧ Binds env [(0, st s), (3, i64 i)] ∧ A = AH.start noHeap) (fun env _ => s.length - ctr (env 3)) ?_ ?_
  · exact ⟨0, Nat.zero_le _, by simp, ⟨rfl, rfl, trivial⟩, rfl⟩
  · rintro env A ⟨i, hi, hp, hB, rfl⟩
    rw [hB.eq]; clear hB
    refine w_seq (w_seq (w_reg (s_q rfl rfl (q_mv (.inl rfl) (is_sc rfl)) ?_)))
    refine s_q rfl rfl (q_mv (.inl rfl) (is_sc rfl)) ?_
    refine s_q rfl rfl (q_lens rfl rfl) ?_
    refine s_q rfl rfl (q_lss rfl rfl rfl) ?_
    refine s_nil (n_n (w_if (is_scb rfl) (fun h7 => ?_) (fun h7 => ?_)))
    · have hlt : i < s.length := by have := of_decide_eq_true h7; omega
      have hby : s.getD (i : Int).toNat 0 = s[i] := byte_at hlt
      refine w_skip (n_n (w_seq (w_block (w_seq (w_reg (s_q rfl rfl (q_mv (.inl rfl) (is_sc rfl)) ?_))))))
      refine s_q rfl rfl (q_mv (.inl rfl) (is_sc rfl)) ?_
      refine s_q rfl rfl (q_as (u8_eq (by rw [hby])) (q_byte rfl rfl rfl (Int.natCast_nonneg _) (by omega))) ?_
      refine s_q rfl rfl (q_lss rfl rfl rfl) ?_
      refine s_q rfl rfl (q_mv (.inl rfl) (is_sc rfl)) ?_
      refine s_split 14 (is_scb rfl) (fun h14 => ?_) (fun h14 => ?_)
      · have a1 : ¬ 32 ≤ s[i].toNat := by have := of_decide_eq_true h14; omega
        refine s_off rfl rfl ?_
        refine s_off rfl rfl ?_
        refine s_off rfl rfl ?_
        refine s_off rfl rfl ?_
        refine s_q rfl rfl (q_pickT rfl rfl (is_sc rfl)) ?_
        refine s_nil (n_n (w_ifT rfl (w_seq (w_reg (s_q rfl rfl (q_mv (.inr rfl) (is_sc rfl)) ?_)))))
        refine s_nil (n_n (w_ret (b_r (n_r (n_r (b_r (n_r ?_)))))))
        -- end 0
        refine r_r (ra_tmp (is_sc rfl) ra_nil) (by exact (is_sc rfl)) (by exact rfl) sub_no ?_
        rw [ascii_bad hlt (fun x => a1 x.1)] <;> rfl
      · have a1 : 32 ≤ s[i].toNat := by have := of_decide_eq_false h14; omega
        refine s_q rfl rfl (q_mv (.inl rfl) (is_sc rfl)) ?_
        refine s_q rfl rfl (q_mv (.inl rfl) (is_sc rfl)) ?_
        refine s_q rfl rfl (q_as (u8_eq (by rw [hby])) (q_byte rfl rfl rfl (Int.natCast_nonneg _) (by omega))) ?_
        refine s_q rfl rfl (q_gtr rfl rfl rfl) ?_
        refine s_q rfl rfl (q_pickF rfl rfl (is_sc rfl)) ?_
        refine s_nil (n_n (w_if (is_scb rfl) (fun h19 => ?_) (fun h19 => ?_)))
        · have a2 : ¬ s[i].toNat ≤ 126 := by have := of_decide_eq_true h19; omega
          refine w_seq (w_reg (s_q rfl rfl (q_mv (.inr rfl) (is_sc rfl)) ?_))
          refine s_nil (n_n (w_ret (b_r (n_r (n_r (b_r (n_r ?_)))))))
          -- end 1
          refine r_r (ra_tmp (is_sc rfl) ra_nil) (by exact (is_sc rfl)) (by exact rfl) sub_no ?_
          rw [ascii_bad hlt (fun x => a2 x.2)] <;> rfl
        · have a2 : s[i].toNat ≤ 126 := by have := of_decide_eq_false h19; omega
          refine w_skip (b_n (n_n (w_reg (s_q rfl rfl (q_mv (.inl rfl) (is_sc rfl)) ?_))))
          refine s_q rfl rfl (q_add rfl rfl rfl) ?_
          refine s_q rfl rfl (q_mv (.inr rfl) (is_sc rfl)) ?_
          refine s_nil (n_n ?_)
          have hw : IntKind.i64.wrap ((i : Int) + 1) = ((i + 1 : Nat) : Int) := wrap_nat (by omega)
          refine ⟨⟨i + 1, hlt, take_more' hlt hp ⟨a1, a2⟩, ⟨rfl, i64_eq hw, trivial⟩, rfl⟩, ?_⟩
          show s.length - (IntKind.i64.wrap ((i : Int) + 1)).toNat < s.length - (i : Int).toNat
          rw [hw]; omega
    · have hge : s.length ≤ i := by have := of_decide_eq_false h7; omega
      refine w_exit (n_e (n_e (b_hit (n_n (w_seq (w_reg (s_q rfl rfl (q_mv (.inr rfl) (is_sc rfl)) ?_)))))))
      refine s_nil (n_n (w_ret ?_))
      -- end 2
      refine r_r (ra_tmp (is_sc rfl) ra_nil) (by exact (is_sc rfl)) (by exact rfl) sub_no ?_
      rw [ascii_all (take_all' hge hp)] <;> rfl


-- pub-tallysheet/spec.AsText
theorem pf_AsTextT (s : List UInt8) (hl : s.length < 1000000000) : PF Tryz.prog G 181 [(strV s).d] (asTextV s).d := by
  refine PC.intro rfl Tryz.func181 rfl (Nat.le_of_ble_eq_true rfl) rfl ?_
  refine w_seq (w_reg (s_s rfl rfl (as_box0 (id := 0) rfl (by first | exact (rfl : _ = D.agg [_, _, _, _, _]) | exact rfl) (by exact rfl) rfl (by exact (rfl : _ = [_, _, _, _, _]))) ?_))
  refine s_s rfl rfl (as_alloc0 (id := 1) rfl rfl (by exact (rfl : _ = [_, _, _, _, _]))) ?_
  refine s_nil (n_n (w_seq (w_seq (w_reg (s_q rfl rfl (q_field rfl rfl (by exact rfl)) ?_)))))
  refine s_q rfl rfl (q_load rfl rfl (by exact (rfl : _ = some (D.sc _)))) ?_
  refine s_nil (n_n (w_block (w_seq (w_reg (s_q rfl rfl (q_eql rfl rfl rfl) ?_)))))
  refine s_q rfl rfl (q_mv (.inr rfl) (is_sc rfl)) ?_
  refine s_nil (n_n (w_ifT rfl (w_seq (w_reg (s_q rfl rfl (q_field rfl rfl (by exact rfl)) ?_)))))
  refine s_q rfl rfl (q_load rfl rfl (by exact (rfl : _ = some (D.sc _)))) ?_
  refine s_q rfl rfl (q_call rfl rfl rfl rfl (pf_Ascii _ hl)) ?_
  refine s_nil (n_n (w_if (is_scb rfl) (fun h9 => ?_) (fun h9 => ?_)))
  · refine w_seq (w_reg (s_q rfl rfl (q_load rfl rfl (by exact (rfl : _ = some (D.agg [_, _, _, _, _])))) ?_))
    refine s_u rfl rfl (as_st rfl rfl (by first | exact (rfl : _ = D.agg [_, _, _, _, _]) | exact rfl) rfl (by exact rfl) (by exact rfl) (by exact Nat.le_of_ble_eq_true rfl) (by exact (rfl : _ = [_, _, _, _, _]))) ?_
    refine s_nil (n_n (w_ret (b_r (n_r ?_))))
    -- end 0
    refine r_r (ra_cell (by exact (rfl : _ = some (D.agg [_, _, _, _, _]))) ra_nil) (by first | exact (rfl : _ = D.agg [_, _, _, _, _]) | exact rfl) (by exact rfl) sub_no ?_
    rw [show asTextV s = strV s from if_pos h9] <;> rfl
  · refine w_skip (b_n (n_n (w_seq (w_reg (s_q rfl rfl (q_call rfl rfl rfl rfl pf_doubt) ?_)))))
    refine s_u rfl rfl (as_st rfl rfl (by first | exact (rfl : _ = D.agg [_, _, _, _, _]) | exact rfl) rfl (by exact rfl) (by exact rfl) (by exact Nat.le_of_ble_eq_true rfl) (by exact (rfl : _ = [_, _, _, _, _]))) ?_
    refine s_nil (n_n (w_ret ?_))
    -- end 1
    refine r_r (ra_cell (by exact (rfl : _ = some (D.agg [_, _, _, _, _]))) ra_nil) (by first | exact (rfl : _ = D.agg [_, _, _, _, _]) | exact rfl) (by exact rfl) sub_no ?_
    rw [show asTextV s = doubt from if_neg (by rw [show asciiB s = false from h9]; simp)] <;> rfl


-- pub-tallysheet/spec.short
theorem pf_shortT (s : List UInt8) : PF Tryz.prog G 215 [(strV s).d] (bl false) := by
  refine PC.intro rfl Tryz.func215 rfl (Nat.le_of_ble_eq_true rfl) rfl ?_
  refine w_seq (w_reg (s_s rfl rfl (as_box0 (id := 0) rfl (by first | exact (rfl : _ = D.agg [_, _, _, _, _]) | exact rfl) (by exact rfl) rfl (by exact (rfl : _ = [_, _, _, _, _]))) ?_))
  refine s_q rfl rfl (q_mv (.inr rfl) (is_sc rfl)) ?_
  refine s_nil (n_n (w_seq (w_reg (s_q rfl rfl (q_load rfl rfl (by exact (rfl : _ = some (D.agg [_, _, _, _, _])))) ?_))))
  refine s_q rfl rfl (q_call rfl rfl rfl rfl (pf_isWholeV (strV s))) ?_
  refine s_q rfl rfl (q_mv (.inl rfl) (is_sc rfl)) ?_
  refine s_off rfl rfl ?_
  refine s_off rfl rfl ?_
  refine s_off rfl rfl ?_
  refine s_q rfl rfl (q_pickF rfl rfl (is_sc rfl)) ?_
  refine s_q rfl rfl (q_mv (.inl rfl) (is_sc rfl)) ?_
  refine s_off rfl rfl ?_
  refine s_off rfl rfl ?_
  refine s_off rfl rfl ?_
  refine s_q rfl rfl (q_pickF rfl rfl (is_sc rfl)) ?_
  refine s_q rfl rfl (q_mv (.inr rfl) (is_sc rfl)) ?_
  refine s_nil (n_n (w_ret ?_))
  -- end 0
  refine r_r (ra_tmp (is_sc rfl) ra_nil) (by exact (is_sc rfl)) (by exact rfl) sub_no ?_
  rfl


-- pub-tallysheet/spec.textual
theorem pf_textualT (s : List UInt8) (hl : s.length < 1000000000) : PF Tryz.prog G 180 [(strV s).d] (bl (asciiB s)) := by
  refine PC.intro rfl Tryz.func180 rfl (Nat.le_of_ble_eq_true rfl) rfl ?_
  refine w_seq (w_reg (s_s rfl rfl (as_box0 (id := 0) rfl (by first | exact (rfl : _ = D.agg [_, _, _, _, _]) | exact rfl) (by exact rfl) rfl (by exact (rfl : _ = [_, _, _, _, _]))) ?_))
  refine s_q rfl rfl (q_mv (.inr rfl) (is_sc rfl)) ?_
  refine s_nil (n_n (w_seq (w_reg (s_q rfl rfl (q_field rfl rfl (by exact rfl)) ?_))))
  refine s_q rfl rfl (q_load rfl rfl (by exact (rfl : _ = some (D.sc _)))) ?_
  refine s_q rfl rfl (q_eql rfl rfl rfl) ?_
  refine s_q rfl rfl (q_mv (.inl rfl) (is_sc rfl)) ?_
  refine s_q rfl rfl (q_field rfl rfl (by exact rfl)) ?_
  refine s_q rfl rfl (q_load rfl rfl (by exact (rfl : _ = some (D.sc _)))) ?_
  refine s_q rfl rfl (q_call rfl rfl rfl rfl (pf_Ascii _ hl)) ?_
  refine s_q rfl rfl (q_pickT rfl rfl (is_sc rfl)) ?_
  refine s_q rfl rfl (q_mv (.inl rfl) (is_sc rfl)) ?_
  refine s_split 11 (is_scb rfl) (fun h11 => ?_) (fun h11 => ?_)
  · refine s_off rfl rfl ?_
    refine s_off rfl rfl ?_
    refine s_off rfl rfl ?_
    refine s_q rfl rfl (q_pickT rfl rfl (is_sc rfl)) ?_
    refine s_q rfl rfl (q_mv (.inl rfl) (is_sc rfl)) ?_
    refine s_off rfl rfl ?_
    refine s_off rfl rfl ?_
    refine s_q rfl rfl (q_pickT rfl rfl (is_sc rfl)) ?_
    refine s_q rfl rfl (q_mv (.inr rfl) (is_sc rfl)) ?_
    refine s_nil (n_n (w_ret ?_))
    -- end 0
    refine r_r (ra_tmp (is_sc rfl) ra_nil) (by exact (is_sc rfl)) (by exact rfl) sub_no ?_
    show bl _ = bl _
    have e0 : (strV s).text = s := rfl
    simp_all
  · refine s_q rfl rfl (q_field rfl rfl (by exact rfl)) ?_
    refine s_q rfl rfl (q_load rfl rfl (by exact (rfl : _ = some (D.sc _)))) ?_
    refine s_q rfl rfl (q_eql rfl rfl rfl) ?_
    refine s_q rfl rfl (q_pickF rfl rfl (is_sc rfl)) ?_
    refine s_q rfl rfl (q_mv (.inl rfl) (is_sc rfl)) ?_
    refine s_q rfl rfl (q_load rfl rfl (by exact (rfl : _ = some (D.agg [_, _, _, _, _])))) ?_
    refine s_q rfl rfl (q_call rfl rfl rfl rfl (pf_shortT _)) ?_
    refine s_q rfl rfl (q_pickF rfl rfl (is_sc rfl)) ?_
    refine s_q rfl rfl (q_mv (.inr rfl) (is_sc rfl)) ?_
    refine s_nil (n_n (w_ret ?_))
    -- end 1
    refine r_r (ra_tmp (is_sc rfl) ra_nil) (by exact (is_sc rfl)) (by exact rfl) sub_no ?_
    show bl _ = bl _
    have e0 : (strV s).text = s := rfl
    simp_all


-- pub-tallysheet/spec.texts
theorem pf_textsG (l : List V) (hl : l.length < 1000000000) (ha : ∀ v ∈ l, PF Tryz.prog G 181 [v.d] v.d) (hk : ∀ v ∈ l, v.kind = 2) : PF Tryz.prog G 240 [lst l] (.tup [.im (l.map fun v => st v.text) l.length, noV.d, bl true]) := by
  have hfirst := pf_first (G := G) l hl (fun v hv => by rw [hk v hv]; decide)
  rw [firstV_text hk] at hfirst
  refine PC.intro rfl Tryz.func240 rfl (Nat.le_of_ble_eq_true rfl) rfl ?_
  refine w_seq (w_reg (s_q rfl rfl (q_mv (.inr rfl) (by first | exact is_im rfl | exact is_gs rfl | exact is_lit rfl | exact is_ms rfl | exact is_sc rfl | exact rfl)) ?_))
  refine s_s rfl rfl (as_alloc0 (id := 0) rfl rfl (by exact (rfl : _ = [_, _, _, _, _]))) ?_
  refine s_q rfl rfl (q_mv (.inr rfl) (is_sc rfl)) ?_
  refine s_nil (n_n (w_seq (w_reg (s_s rfl rfl (as_nil (e := 30) (.inl rfl) rfl) ?_))))
  refine s_nil (n_n (w_seq (w_seq (w_reg (s_q rfl rfl (q_mv (.inr rfl) (is_sc rfl)) ?_)))))
  refine s_nil (n_n (w_block ?_))
  refine w_loop (fun env A => ∃ (i t : Nat) (live : Nat → Bool) (ln : Nat), i ≤ l.length ∧ Binds env [(0, lst l), (3, .box 0 0), (5, .gs t 30 ((l.take i).flatMap V.c) (l.take i).length), (6, i64 i)] ∧ A = ⟨[.cells [.sc (.int .i64 0), .sc (.int .i64 0), .sc (.int .i64 0), .sc (.string ⟨⟨[]⟩⟩), .sc (.slice none 0 0)]], live, ln, noHeap⟩ ∧ live t = true) (fun env _ => l.length - ctr (env 6)) ?_ ?_
  · exact ⟨0, 0, _, _, Nat.zero_le _, ⟨rfl, rfl, rfl, rfl, trivial⟩, rfl, rfl⟩
  · rintro env A ⟨i, t, live, ln, hi, hB, rfl, hv⟩
    rw [hB.eq]; clear hB
    refine w_seq (w_seq (w_reg (s_q rfl rfl (q_mv (.inl rfl) (is_sc rfl)) ?_)))
    refine s_q rfl rfl (q_mv (.inl rfl) (by first | exact is_im rfl | exact is_gs rfl | exact is_lit rfl | exact is_ms rfl | exact is_sc rfl | exact rfl)) ?_
    refine s_q rfl rfl (q_len rfl rfl rfl) ?_
    refine s_q rfl rfl (q_lss rfl rfl rfl) ?_
    refine s_nil (n_n (w_if (is_scb rfl) (fun h14 => ?_) (fun h14 => ?_)))
    · have hlt : i < l.length := by have := of_decide_eq_true h14; omega
      refine w_skip (n_n (w_seq (w_block (w_reg (s_q rfl rfl (q_mv (.inl rfl) (by first | exact is_im rfl | exact is_gs rfl | exact is_lit rfl | exact is_ms rfl | exact is_sc rfl | exact rfl)) ?_)))))
      refine s_q rfl rfl (q_mv (.inl rfl) (by first | exact is_im rfl | exact is_gs rfl | exact is_lit rfl | exact is_ms rfl | exact is_sc rfl | exact rfl)) ?_
      refine s_q rfl rfl (q_mv (.inl rfl) (is_sc rfl)) ?_
      refine s_q rfl rfl (q_index rfl rfl rfl rfl (Int.natCast_nonneg _) (by omega)) ?_
      refine s_q rfl rfl (q_loadPin rfl rfl (by exact take_lst hlt)) ?_
      refine s_q rfl rfl (q_call rfl rfl rfl rfl (ha l[i] (List.getElem_mem hlt))) ?_
      refine s_q rfl rfl (q_bs rfl (pt_cons (by first | exact (rfl : _ = D.agg [_, _, _, _, _]) | exact rfl) pt_nil) (by decide) (by decide) (by exact (rfl : _ = some [_, _, _, _, _])) (by exact (rfl : _ = [_, _, _, _, _])) (by exact rfl) (by exact rfl)) ?_
      refine s_s rfl rfl (as_append rfl rfl hv rfl rfl (by decide) (by exact len_lst _) (by exact rfl) (by show _ * 64 ≤ _; simp only [List.length_take]; omega) (by show _ ≤ 9223372036854775807; simp only [List.length_take]; omega)) ?_
      refine s_q rfl rfl (q_mv (.inr rfl) (by first | exact is_im rfl | exact is_gs rfl | exact is_lit rfl | exact is_ms rfl | exact is_sc rfl | exact rfl)) ?_
      refine s_nil (b_n (n_n (w_reg (s_q rfl rfl (q_mv (.inl rfl) (is_sc rfl)) ?_))))
      refine s_q rfl rfl (q_add rfl rfl rfl) ?_
      refine s_q rfl rfl (q_mv (.inr rfl) (is_sc rfl)) ?_
      refine s_nil (n_n ?_)
      have hw : IntKind.i64.wrap ((i : Int) + 1) = ((i + 1 : Nat) : Int) := wrap_nat (by omega)
      refine ⟨⟨i + 1, ln, _, _, hlt, ⟨rfl, rfl, ?_, i64_eq hw, trivial⟩, rfl, ?_⟩, ?_⟩
      · rw [List.take_succ_eq_append_getElem hlt]; exact gs_cat _ [l[i]]
      · exact live_app ⟨_, live, ln, noHeap⟩ t
      · show l.length - (IntKind.i64.wrap ((i : Int) + 1)).toNat < l.length - (i : Int).toNat
        rw [hw]; omega
    · have hge : l.length ≤ i := by have := of_decide_eq_false h14; omega
      rw [show l.take i = l from List.take_of_length_le hge]
      refine w_exit (n_e (n_e (b_hit (n_n (w_seq (w_seq (w_reg (s_q rfl rfl (q_mv (.inl rfl) (by first | exact is_im rfl | exact is_gs rfl | exact is_lit rfl | exact is_ms rfl | exact is_sc rfl | exact rfl)) ?_))))))))
      refine s_q rfl rfl (q_call rfl rfl rfl rfl hfirst) ?_
      refine s_q rfl rfl (q_mv (.inl rfl) (by first | exact (rfl : _ = D.tup [_, _]) | exact rfl)) ?_
      refine s_q rfl rfl (q_extract rfl rfl rfl) ?_
      refine s_q rfl rfl (q_extract rfl rfl rfl) ?_
      refine s_s rfl rfl (as_alloc0 (id := 1) rfl rfl (by exact (rfl : _ = [_, _, _, _, _]))) ?_
      refine s_u rfl rfl (as_st rfl rfl (by first | exact (rfl : _ = D.agg [_, _, _, _, _]) | exact rfl) rfl (by exact rfl) (by exact rfl) (by exact Nat.le_of_ble_eq_true rfl) (by exact (rfl : _ = [_, _, _, _, _]))) ?_
      refine s_q rfl rfl (q_mv (.inr rfl) (is_sc rfl)) ?_
      refine s_nil (n_n (w_seq (w_reg (s_q rfl rfl (q_mv (.inl rfl) (is_sc rfl)) ?_))))
      refine s_nil (n_n (w_ifF rfl (w_skip (n_n (w_seq (w_reg (s_s rfl rfl (as_nil (e := 9) (.inl rfl) rfl) ?_)))))))
      refine s_nil (n_n (w_seq (w_seq (w_reg (s_q rfl rfl (q_mv (.inr rfl) (is_sc rfl)) ?_)))))
      refine s_nil (n_n (w_block ?_))
      refine w_loop (fun env A => ∃ (j t2 : Nat) (live : Nat → Bool) (ln : Nat), j ≤ l.length ∧ Binds env [(3, .box 0 0), (5, .gs t 30 (l.flatMap V.c) l.length), (7, .box 1 0), (9, .gs t2 9 ((l.take j).map fun v => st v.text) (l.take j).length), (10, i64 j)] ∧ A = ⟨[.cells [.sc (.int .i64 0), .sc (.int .i64 0), .sc (.int .i64 0), .sc (.string ⟨⟨[]⟩⟩), .sc (.slice none 0 0)], .cells (V.c noV)], live, ln, noHeap⟩ ∧ live t2 = true) (fun env _ => l.length - ctr (env 10)) ?_ ?_
      · exact ⟨0, _, _, _, Nat.zero_le _, ⟨rfl, rfl, rfl, rfl, rfl, trivial⟩, rfl, live_tags _⟩
      · rintro env A ⟨j, t2, live, ln, hj, hB, rfl, hv⟩
        rw [hB.eq]; clear hB
        refine w_seq (w_seq (w_reg (s_q rfl rfl (q_mv (.inl rfl) (is_sc rfl)) ?_)))
        refine s_q rfl rfl (q_mv (.inl rfl) (by first | exact is_im rfl | exact is_gs rfl | exact is_lit rfl | exact is_ms rfl | exact is_sc rfl | exact rfl)) ?_
        refine s_q rfl rfl (q_len rfl rfl rfl) ?_
        refine s_q rfl rfl (q_lss rfl rfl rfl) ?_
        refine s_nil (n_n (w_if (is_scb rfl) (fun h35 => ?_) (fun h35 => ?_)))
        · have hjlt : j < l.length := by have := of_decide_eq_true h35; omega
          refine w_skip (n_n (w_seq (w_block (w_reg (s_q rfl rfl (q_mv (.inl rfl) (by first | exact is_im rfl | exact is_gs rfl | exact is_lit rfl | exact is_ms rfl | exact is_sc rfl | exact rfl)) ?_)))))
          refine s_q rfl rfl (q_mv (.inl rfl) (by first | exact is_im rfl | exact is_gs rfl | exact is_lit rfl | exact is_ms rfl | exact is_sc rfl | exact rfl)) ?_
          refine s_q rfl rfl (q_mv (.inl rfl) (is_sc rfl)) ?_
          refine s_q rfl rfl (q_index rfl rfl rfl rfl (Int.natCast_nonneg _) (by omega)) ?_
          refine s_q rfl rfl (q_field rfl rfl (by exact rfl)) ?_
          refine s_q rfl rfl (q_loadPin rfl rfl (by exact (take_lst1 hjlt (by decide)).trans rfl)) ?_
          refine s_q rfl rfl (q_bs rfl (pt_cons (is_sc rfl) pt_nil) (by decide) (by decide) (by exact (rfl : _ = some [_])) (by exact (rfl : _ = [_])) (by exact rfl) (by exact rfl)) ?_
          refine s_s rfl rfl (as_append rfl rfl hv rfl rfl (by decide) (by simp [List.length_map]) (by exact rfl) (by show _ * 16 ≤ _; simp only [List.length_take]; omega) (by show _ ≤ 9223372036854775807; simp only [List.length_take]; omega)) ?_
          refine s_q rfl rfl (q_mv (.inr rfl) (by first | exact is_im rfl | exact is_gs rfl | exact is_lit rfl | exact is_ms rfl | exact is_sc rfl | exact rfl)) ?_
          refine s_nil (b_n (n_n (w_reg (s_q rfl rfl (q_mv (.inl rfl) (is_sc rfl)) ?_))))
          refine s_q rfl rfl (q_add rfl rfl rfl) ?_
          refine s_q rfl rfl (q_mv (.inr rfl) (is_sc rfl)) ?_
          refine s_nil (n_n ?_)
          have hw : IntKind.i64.wrap ((j : Int) + 1) = ((j + 1 : Nat) : Int) := wrap_nat (by omega)
          refine ⟨⟨j + 1, ln, _, _, hjlt, ⟨rfl, rfl, rfl, ?_, i64_eq hw, trivial⟩, rfl, ?_⟩, ?_⟩
          · rw [List.take_succ_eq_append_getElem hjlt, List.map_append, List.length_append]; rfl
          · exact live_app ⟨_, live, ln, noHeap⟩ t2
          · show l.length - (IntKind.i64.wrap ((j : Int) + 1)).toNat < l.length - (j : Int).toNat
            rw [hw]; omega
        · have hge : l.length ≤ j := by have := of_decide_eq_false h35; omega
          refine w_exit (n_e (n_e (b_hit (n_n (w_seq (w_reg (s_q rfl rfl (q_mv (.inl rfl) (by first | exact is_im rfl | exact is_gs rfl | exact is_lit rfl | exact is_ms rfl | exact is_sc rfl | exact rfl)) ?_)))))))
          refine s_q rfl rfl (q_build rfl pt_nil (by exact (rfl : _ = some [_, _, _, _, _]))) ?_
          refine s_q rfl rfl (q_mv (.inr rfl) (by first | exact is_im rfl | exact is_gs rfl | exact is_lit rfl | exact is_ms rfl | exact is_sc rfl | exact rfl)) ?_
          refine s_u rfl rfl (as_st rfl rfl (by first | exact (rfl : _ = D.agg [_, _, _, _, _]) | exact rfl) rfl (by exact rfl) (by exact rfl) (by exact Nat.le_of_ble_eq_true rfl) (by exact (rfl : _ = [_, _, _, _, _]))) ?_
          refine s_q rfl rfl (q_mv (.inr rfl) (is_sc rfl)) ?_
          refine s_nil (n_n (w_ret ?_))
          -- end 0
          refine r_r (ra_tmp (by first | exact is_im rfl | exact is_gs rfl | exact is_lit rfl | exact is_ms rfl | exact is_sc rfl | exact rfl) (ra_cell (by exact (rfl : _ = some (D.agg [_, _, _, _, _]))) (ra_tmp (is_sc rfl) ra_nil))) (by exact (rfl : _ = D.tup [_, _, _])) (by exact rfl) sub_no ?_
          rw [List.take_of_length_le hge] <;> rfl

end Go.Proofs.YtpjckdhgefbonaaGreatDoor.Zz
