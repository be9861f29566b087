/- Walks of the functions, printed by program, and the logic behind them: each theorem says what one function or one step answers. -/
import Derived.Test.YtpjckdhgefbonaaGreatDoorZSpTEXTJOIN
import Derived.Test.YtpjckdhgefbonaaGreatDoorZDrTEXTJOIN
import Derived.Test.YtpjckdhgefbonaaGreatDoorZM
namespace Go.Proofs.YtpjckdhgefbonaaGreatDoor.Zz
open Go.Abs
set_option maxRecDepth 100000
set_option linter.unusedVariables false
set_option linter.unusedSimpArgs false
set_option maxHeartbeats 4000000
variable {G : Nat → D}

def tjU (b : List UInt8) (c : Bool) (l : List (List UInt8)) : List U := ⟨2, 0, 0, b⟩ :: ⟨3, if c then 1 else 0, 0, []⟩ :: l.map fun s => ⟨2, 0, 0, s⟩
theorem tjU_v (b : List UInt8) (c : Bool) (l : List (List UInt8)) : (tjU b c l).map U.v = tjA b c l := by
  simp only [tjU, tjA, List.map_cons, List.map_map]; rfl
theorem tj_lst (b : List UInt8) (c : Bool) (l : List (List UInt8)) : lst (strV b :: boolV c :: l.map strV) = lstU (tjU b c l) := by
  rw [← lst_U, tjU_v]; rfl
theorem pf_tjAgrees (b : List UInt8) (c : Bool) (l : List (List UInt8)) (hb : b.length ≤ 1000) (hl : ∀ s ∈ l, s.length ≤ 1000) (h20 : l.length ≤ 20) : PF Tryz.prog G 11 [.fn 12 [] [], st [84, 69, 88, 84, 74, 79, 73, 78], lst (strV b :: boolV c :: l.map strV)] (bl true) := by
  have hlu : (tjU b c l).length < 1000000000 := by simp only [tjU, List.length_cons, List.length_map]; omega
  have hk : ∀ u ∈ tjU b c l, ¬ u.kind = 5 := fun u hu => by
    simp only [tjU, List.mem_cons, List.mem_map] at hu
    rcases hu with rfl | rfl | ⟨s, _, rfl⟩ <;> simp
  have hd : ((tjU b c l).map U.v).any (isK 6) = false := by
    rw [tjU_v, List.any_eq_false]
    intro v hv
    rcases tjA_kind hv with h | h <;> simp [isK, h]
  have hwD := pf_doubtP (G := G) doubt (by simp [doubt])
  by_cases hc : ¬ l = [] ∧ asciiB b = true ∧ l.all asciiB = true
  · obtain ⟨hne, ha, hla⟩ := hc
    have hcall := pf_Call_TEXTJOINA (G := G) b c l hb hl h20 ha hla hne
    rw [tj_lst] at hcall ⊢
    by_cases hj : 20000 < (joinT b c l).length
    · rw [show joinV b c l = doubt from if_pos hj] at hcall
      exact pf_agreesD 12 [84, 69, 88, 84, 74, 79, 73, 78] _ hlu hk doubt hcall hd hwD
    · rw [show joinV b c l = strV (joinT b c l) from if_neg hj] at hcall
      have hal := pf_all (G := G) (tjA b c l) (by rw [tjA_len]; omega) inV (fun v hv => by
        rcases tjA_mem hv with (rfl | ⟨s, _, rfl⟩) | rfl
        · exact pf_ofS b
        · exact pf_ofS s
        · exact pf_ofB c)
      rw [← tjU_v, lst_U] at hal
      have e : ((tjU b c l).map U.v).map inV = (iStr b :: iBool (FloatKind.f64.nearest (if c then 1 else 0)) :: l.map iStr) := by
        rw [tjU_v]; simp only [tjA, List.map_cons, List.map_map]; rfl
      rw [e] at hal
      have hsm := pf_same (G := G) 2 2 0 0 (joinT b c l) (joinT b c l) (strV (joinT b c l)) (pf_ofS _)
      rw [sameS] at hsm
      exact pf_agreesS 12 [84, 69, 88, 84, 74, 79, 73, 78] _ hlu hk (strV (joinT b c l)) hcall hd (pf_doubtP (strV (joinT b c l)) (by simp [strV])) _ (iStr (joinT b c l)) hal (pf_ImplTEXTJOIN b c l h20 hne (by omega) (joinT_plain ha fun s hs => List.all_eq_true.1 hla s hs)) hsm
  · have hcall := pf_Call_TEXTJOINB (G := G) b c l hb hl h20 hc
    rw [tj_lst] at hcall ⊢
    exact pf_agreesD 12 [84, 69, 88, 84, 74, 79, 73, 78] _ hlu hk doubt hcall hd hwD
def fits6 (l : List (List UInt8)) : Bool := decide (l.length ≤ 2147483647) && l.all fun s => decide (s.length ≤ 2147483647)


-- pub-tallysheet/laws.zzFits6
theorem pf_zzFits6 (l : List (List UInt8)) : PF Tryz.prog G 9 [.im (l.map st) l.length] (bl (fits6 l)) := by
  refine PC.intro rfl Tryz.func9 rfl (Nat.le_of_ble_eq_true rfl) rfl ?_
  refine w_seq (w_reg (s_q rfl rfl (q_mv (.inr rfl) (is_sc rfl)) ?_))
  refine s_nil (n_n (w_seq (w_seq (w_reg (s_q rfl rfl (q_mv (.inl rfl) (by first | exact is_im rfl | exact is_gs rfl | exact is_lit rfl | exact is_ms rfl | exact is_sc rfl | exact rfl)) ?_)))))
  refine s_q rfl rfl (q_len rfl rfl rfl) ?_
  refine s_q rfl rfl (q_gtr rfl rfl rfl) ?_
  refine s_nil (n_n (w_if (is_scb rfl) (fun h7 => ?_) (fun h7 => ?_)))
  · have h2 : ¬ l.length ≤ 2147483647 := by have := of_decide_eq_true h7; omega
    refine w_seq (w_reg (s_q rfl rfl (q_mv (.inr rfl) (is_sc rfl)) ?_))
    refine s_nil (n_n (w_ret (n_r ?_)))
    -- end 0
    refine r_r (ra_tmp (is_sc rfl) ra_nil) (by exact (is_sc rfl)) (by exact rfl) sub_no ?_
    rw [show fits6 l = false by unfold fits6; rw [decide_eq_false h2]; rfl] <;> rfl
  · have h2 : l.length ≤ 2147483647 := by have := of_decide_eq_false h7; omega
    refine w_skip (n_n (w_seq (w_seq (w_reg (s_q rfl rfl (q_mv (.inl rfl) (by first | exact is_im rfl | exact is_gs rfl | exact is_lit rfl | exact is_ms rfl | exact is_sc rfl | exact rfl)) ?_)))))
    refine s_q rfl rfl (q_len rfl rfl rfl) ?_
    refine s_q rfl rfl (q_mv (.inl rfl) (is_sc rfl)) ?_
    refine s_nil (n_n (w_block ?_))
    refine w_loop (fun env A => ∃ i : Nat, i ≤ l.length ∧ (∀ s ∈ l.take i, s.length ≤ 2147483647) ∧ Binds env [(8, .im (l.map st) l.length), (9, i64 l.length), (10, i64 i)] ∧ A = AH.start noHeap) (fun env _ => l.length - ctr (env 10)) ?_ ?_
    · exact ⟨0, Nat.zero_le _, by simp, ⟨rfl, rfl, rfl, trivial⟩, rfl⟩
    · rintro env A ⟨i, hi, hp, hB, rfl⟩
      rw [hB.eq]; clear hB
      refine w_seq (w_reg (s_q rfl rfl (q_lss rfl rfl rfl) ?_))
      refine s_nil (n_n (w_seq (w_if (is_scb rfl) (fun h11 => ?_) (fun h11 => ?_))))
      · have hlt : i < l.length := by have := of_decide_eq_true h11; omega
        refine w_skip (n_n (w_seq (w_block (w_seq (w_reg (s_q rfl rfl (q_index rfl rfl rfl rfl (Int.natCast_nonneg _) (by omega)) ?_))))))
        refine s_q rfl rfl (q_loadPin rfl rfl (take_map st hlt)) ?_
        refine s_q rfl rfl (q_mv (.inr rfl) (is_sc rfl)) ?_
        refine s_nil (n_n (w_seq (w_reg (s_q rfl rfl (q_mv (.inl rfl) (is_sc rfl)) ?_))))
        refine s_q rfl rfl (q_lens rfl rfl) ?_
        refine s_q rfl rfl (q_gtr rfl rfl rfl) ?_
        refine s_nil (n_n (w_if (is_scb rfl) (fun h16 => ?_) (fun h16 => ?_)))
        · have hs : ¬ l[i].length ≤ 2147483647 := by have := of_decide_eq_true h16; omega
          refine w_seq (w_reg (s_q rfl rfl (q_mv (.inr rfl) (is_sc rfl)) ?_))
          refine s_nil (n_n (w_ret (b_r (n_r (n_r (b_r (n_r ?_)))))))
          -- end 1
          refine r_r (ra_tmp (is_sc rfl) ra_nil) (by exact (is_sc rfl)) (by exact rfl) sub_no ?_
          rw [show fits6 l = false by unfold fits6; rw [List.all_eq_false.2 ⟨_, List.getElem_mem hlt, by simpa using hs⟩, Bool.and_false]] <;> rfl
        · have hs : l[i].length ≤ 2147483647 := by have := of_decide_eq_false h16; omega
          refine w_skip (b_n (n_n (w_reg (s_q rfl rfl (q_add rfl rfl rfl) ?_))))
          refine s_q rfl rfl (q_mv (.inl rfl) (is_sc rfl)) ?_
          refine s_nil (n_n ?_)
          have hw : IntKind.i64.wrap ((i : Int) + 1) = ((i + 1 : Nat) : Int) := by rw [wrap_id (by omega) (by omega)]; omega
          refine ⟨⟨i + 1, hlt, take_more' hlt hp hs, ⟨rfl, rfl, i64_eq hw, trivial⟩, rfl⟩, ?_⟩
          show l.length - (IntKind.i64.wrap ((i : Int) + 1)).toNat < l.length - (i : Int).toNat
          rw [hw]; omega
      · have hge : l.length ≤ i := by have := of_decide_eq_false h11; omega
        refine w_exit (n_e (n_e (b_hit (n_n (w_seq (w_reg (s_q rfl rfl (q_mv (.inr rfl) (is_sc rfl)) ?_)))))))
        refine s_nil (n_n (w_ret ?_))
        -- end 2
        refine r_r (ra_tmp (is_sc rfl) ra_nil) (by exact (is_sc rfl)) (by exact rfl) sub_no ?_
        rw [show fits6 l = true by unfold fits6; rw [decide_eq_true h2, List.all_eq_true.2 fun s hs => decide_eq_true (take_all' hge hp s hs)]; rfl] <;> rfl


-- pub-tallysheet/laws.argTexts
theorem pf_argTexts (l : List (List UInt8)) (hl : l.length < 1000000000) : PF Tryz.prog G 15 [.im (l.map st) l.length] (lst (l.map strV)) := by
  refine PC.intro rfl Tryz.func15 rfl (Nat.le_of_ble_eq_true rfl) rfl ?_
  refine w_seq (w_reg (s_q rfl rfl (q_mv (.inr rfl) (by first | exact is_im rfl | exact is_gs rfl | exact is_lit rfl | exact is_ms rfl | exact is_sc rfl | exact rfl)) ?_))
  refine s_nil (n_n (w_seq (w_reg (s_s rfl rfl (as_nil (e := 30) (.inl rfl) rfl) ?_))))
  refine s_nil (n_n (w_seq (w_seq (w_reg (s_q rfl rfl (q_mv (.inr rfl) (is_sc rfl)) ?_)))))
  refine s_nil (n_n (w_block ?_))
  refine w_loop (fun env A => ∃ (i t : Nat) (live : Nat → Bool) (ln : Nat), i ≤ l.length ∧ Binds env [(0, .im (l.map st) l.length), (3, .gs t 30 (((l.take i).map strV).flatMap V.c) ((l.take i).map strV).length), (4, i64 i)] ∧ A = ⟨[], live, ln, noHeap⟩ ∧ live t = true) (fun env _ => l.length - ctr (env 4)) ?_ ?_
  · exact ⟨0, 0, _, _, Nat.zero_le _, ⟨rfl, rfl, rfl, trivial⟩, rfl, rfl⟩
  · rintro env A ⟨i, t, live, ln, hi, hB, rfl, hv⟩
    rw [hB.eq]; clear hB
    refine w_seq (w_seq (w_reg (s_q rfl rfl (q_mv (.inl rfl) (is_sc rfl)) ?_)))
    refine s_q rfl rfl (q_mv (.inl rfl) (by first | exact is_im rfl | exact is_gs rfl | exact is_lit rfl | exact is_ms rfl | exact is_sc rfl | exact rfl)) ?_
    refine s_q rfl rfl (q_len rfl rfl rfl) ?_
    refine s_q rfl rfl (q_lss rfl rfl rfl) ?_
    refine s_nil (n_n (w_if (is_scb rfl) (fun h8 => ?_) (fun h8 => ?_)))
    · have hlt : i < l.length := by have := of_decide_eq_true h8; omega
      refine w_skip (n_n (w_seq (w_block (w_reg (s_q rfl rfl (q_mv (.inl rfl) (by first | exact is_im rfl | exact is_gs rfl | exact is_lit rfl | exact is_ms rfl | exact is_sc rfl | exact rfl)) ?_)))))
      refine s_q rfl rfl (q_mv (.inl rfl) (by first | exact is_im rfl | exact is_gs rfl | exact is_lit rfl | exact is_ms rfl | exact is_sc rfl | exact rfl)) ?_
      refine s_q rfl rfl (q_mv (.inl rfl) (is_sc rfl)) ?_
      refine s_q rfl rfl (q_index rfl rfl rfl rfl (Int.natCast_nonneg _) (by omega)) ?_
      refine s_q rfl rfl (q_loadPin rfl rfl (take_map st hlt)) ?_
      refine s_q rfl rfl (q_call rfl rfl rfl rfl (pf_str _)) ?_
      refine s_q rfl rfl (q_bs rfl (pt_cons (by first | exact (rfl : _ = D.agg [_, _, _, _, _]) | exact rfl) pt_nil) (by decide) (by decide) (by exact (rfl : _ = some [_, _, _, _, _])) (by exact (rfl : _ = [_, _, _, _, _])) (by exact rfl) (by exact rfl)) ?_
      refine s_s rfl rfl (as_append rfl rfl hv rfl rfl (by decide) (by exact len_lst _) (by exact rfl) (by show _ * 64 ≤ _; simp only [List.length_map, List.length_take]; omega) (by show _ ≤ 9223372036854775807; simp only [List.length_map, List.length_take]; omega)) ?_
      refine s_q rfl rfl (q_mv (.inr rfl) (by first | exact is_im rfl | exact is_gs rfl | exact is_lit rfl | exact is_ms rfl | exact is_sc rfl | exact rfl)) ?_
      refine s_nil (b_n (n_n (w_reg (s_q rfl rfl (q_mv (.inl rfl) (is_sc rfl)) ?_))))
      refine s_q rfl rfl (q_add rfl rfl rfl) ?_
      refine s_q rfl rfl (q_mv (.inr rfl) (is_sc rfl)) ?_
      refine s_nil (n_n ?_)
      have hw : IntKind.i64.wrap ((i : Int) + 1) = ((i + 1 : Nat) : Int) := wrap_nat (by omega)
      refine ⟨⟨i + 1, ln, _, _, hlt, ⟨rfl, ?_, i64_eq hw, trivial⟩, rfl, ?_⟩, ?_⟩
      · rw [List.take_succ_eq_append_getElem hlt, List.map_append]; exact gs_cat _ [strV l[i]]
      · exact live_app ⟨_, live, ln, noHeap⟩ t
      · show l.length - (IntKind.i64.wrap ((i : Int) + 1)).toNat < l.length - (i : Int).toNat
        rw [hw]; omega
    · have hge : l.length ≤ i := by have := of_decide_eq_false h8; omega
      refine w_exit (n_e (n_e (b_hit (n_n (w_seq (w_reg (s_q rfl rfl (q_mv (.inl rfl) (by first | exact is_im rfl | exact is_gs rfl | exact is_lit rfl | exact is_ms rfl | exact is_sc rfl | exact rfl)) ?_)))))))
      refine s_q rfl rfl (q_mv (.inr rfl) (by first | exact is_im rfl | exact is_gs rfl | exact is_lit rfl | exact is_ms rfl | exact is_sc rfl | exact rfl)) ?_
      refine s_nil (n_n (w_ret ?_))
      -- end 0
      refine r_r (ra_tmp (by first | exact is_im rfl | exact is_gs rfl | exact is_lit rfl | exact is_ms rfl | exact is_sc rfl | exact rfl) ra_nil) (by first | exact is_im rfl | exact is_gs rfl | exact is_lit rfl | exact is_ms rfl | exact is_sc rfl | exact rfl) (by exact rfl) sub_no ?_
      rw [List.take_of_length_le hge] <;> rfl


-- pub-tallysheet/laws.FnTextjoin
theorem pf_FnTextjoin (b : List UInt8) (c : Bool) (l : List (List UInt8)) : PF Tryz.prog G 3 [st b, bl c, .im (l.map st) l.length] (bl true) := by
  refine PC.intro rfl Tryz.func3 rfl (Nat.le_of_ble_eq_true rfl) rfl ?_
  refine w_seq (w_reg (s_q rfl rfl (q_mv (.inr rfl) (is_sc rfl)) ?_))
  refine s_nil (n_n (w_seq (w_seq (w_reg (s_q rfl rfl (q_mv (.inl rfl) (is_sc rfl)) ?_)))))
  refine s_q rfl rfl (q_lens rfl rfl) ?_
  refine s_q rfl rfl (q_gtr rfl rfl rfl) ?_
  refine s_q rfl rfl (q_mv (.inl rfl) (is_sc rfl)) ?_
  refine s_split 10 (is_scb rfl) (fun h10 => ?_) (fun h10 => ?_)
  · refine s_off rfl rfl ?_
    refine s_off rfl rfl ?_
    refine s_off rfl rfl ?_
    refine s_q rfl rfl (q_pickT rfl rfl (is_sc rfl)) ?_
    refine s_nil (n_n (w_ifT rfl (w_seq (w_reg (s_q rfl rfl (q_mv (.inr rfl) (is_sc rfl)) ?_)))))
    refine s_nil (n_n (w_ret (n_r ?_)))
    -- end 0
    refine r_r (ra_tmp (is_sc rfl) ra_nil) (by exact (is_sc rfl)) (by exact rfl) sub_no ?_
    rfl
  · refine s_q rfl rfl (q_mv (.inl rfl) (by first | exact is_im rfl | exact is_gs rfl | exact is_lit rfl | exact is_ms rfl | exact is_sc rfl | exact rfl)) ?_
    refine s_q rfl rfl (q_call rfl rfl rfl rfl (pf_zzFits6 l)) ?_
    refine s_q rfl rfl (q_not rfl rfl) ?_
    refine s_q rfl rfl (q_pickF rfl rfl (is_sc rfl)) ?_
    refine s_nil (n_n (w_if (is_scb rfl) (fun h14 => ?_) (fun h14 => ?_)))
    · refine w_seq (w_reg (s_q rfl rfl (q_mv (.inr rfl) (is_sc rfl)) ?_))
      refine s_nil (n_n (w_ret (n_r ?_)))
      -- end 1
      refine r_r (ra_tmp (is_sc rfl) ra_nil) (by exact (is_sc rfl)) (by exact rfl) sub_no ?_
      rfl
    · refine w_skip (n_n (w_seq (w_seq (w_reg (s_q rfl rfl (q_mv (.inl rfl) (by first | exact is_im rfl | exact is_gs rfl | exact is_lit rfl | exact is_ms rfl | exact is_sc rfl | exact rfl)) ?_)))))
      refine s_q rfl rfl (q_len rfl rfl rfl) ?_
      refine s_q rfl rfl (q_gtr rfl rfl rfl) ?_
      refine s_q rfl rfl (q_mv (.inl rfl) (is_sc rfl)) ?_
      refine s_split 18 (is_scb rfl) (fun h18 => ?_) (fun h18 => ?_)
      · refine s_off rfl rfl ?_
        refine s_off rfl rfl ?_
        refine s_off rfl rfl ?_
        refine s_q rfl rfl (q_pickT rfl rfl (is_sc rfl)) ?_
        refine s_q rfl rfl (q_mv (.inl rfl) (is_sc rfl)) ?_
        refine s_off rfl rfl ?_
        refine s_off rfl rfl ?_
        refine s_off rfl rfl ?_
        refine s_off rfl rfl ?_
        refine s_q rfl rfl (q_pickT rfl rfl (is_sc rfl)) ?_
        refine s_nil (n_n (w_ifT rfl (w_seq (w_reg (s_q rfl rfl (q_mv (.inr rfl) (is_sc rfl)) ?_)))))
        refine s_nil (n_n (w_ret (n_r ?_)))
        -- end 2
        refine r_r (ra_tmp (is_sc rfl) ra_nil) (by exact (is_sc rfl)) (by exact rfl) sub_no ?_
        rfl
      · have h20 : l.length ≤ 20 := by have h' : ¬ (20 : Int) < (l.length : Int) := of_decide_eq_false h18; omega
        refine s_q rfl rfl (q_mv (.inl rfl) (by first | exact is_im rfl | exact is_gs rfl | exact is_lit rfl | exact is_ms rfl | exact is_sc rfl | exact rfl)) ?_
        refine s_q rfl rfl (q_call rfl rfl rfl rfl (pf_shortTexts l (by omega))) ?_
        refine s_q rfl rfl (q_not rfl rfl) ?_
        refine s_q rfl rfl (q_pickF rfl rfl (is_sc rfl)) ?_
        refine s_q rfl rfl (q_mv (.inl rfl) (is_sc rfl)) ?_
        refine s_split 23 (is_scb rfl) (fun h23 => ?_) (fun h23 => ?_)
        · refine s_off rfl rfl ?_
          refine s_off rfl rfl ?_
          refine s_off rfl rfl ?_
          refine s_off rfl rfl ?_
          refine s_q rfl rfl (q_pickT rfl rfl (is_sc rfl)) ?_
          refine s_nil (n_n (w_ifT rfl (w_seq (w_reg (s_q rfl rfl (q_mv (.inr rfl) (is_sc rfl)) ?_)))))
          refine s_nil (n_n (w_ret (n_r ?_)))
          -- end 3
          refine r_r (ra_tmp (is_sc rfl) ra_nil) (by exact (is_sc rfl)) (by exact rfl) sub_no ?_
          rfl
        · have hl : ∀ s ∈ l, s.length ≤ 1000 := fun s hs => by
            have h1 : (l.all fun s => decide (s.length ≤ 1000)) = true := by simpa using h23
            exact of_decide_eq_true (List.all_eq_true.1 h1 s hs)
          refine s_q rfl rfl (q_mv (.inl rfl) (is_sc rfl)) ?_
          refine s_q rfl rfl (q_bs rfl (pt_cons (is_sc rfl) pt_nil) (by decide) (by decide) (by exact (rfl : _ = some [_])) (by exact (rfl : _ = [_])) (by exact rfl) (by exact rfl)) ?_
          refine s_q rfl rfl (q_call rfl rfl rfl rfl (pf_shortTexts [b] (by simp))) ?_
          refine s_q rfl rfl (q_not rfl rfl) ?_
          refine s_q rfl rfl (q_pickF rfl rfl (is_sc rfl)) ?_
          refine s_nil (n_n (w_if (is_scb rfl) (fun h28 => ?_) (fun h28 => ?_)))
          · refine w_seq (w_reg (s_q rfl rfl (q_mv (.inr rfl) (is_sc rfl)) ?_))
            refine s_nil (n_n (w_ret (n_r ?_)))
            -- end 4
            refine r_r (ra_tmp (is_sc rfl) ra_nil) (by exact (is_sc rfl)) (by exact rfl) sub_no ?_
            rfl
          · have hb : b.length ≤ 1000 := by simpa using h28
            refine w_skip (n_n (w_seq (w_reg (s_q rfl rfl (q_mv (.inl rfl) (is_sc rfl)) ?_))))
            refine s_q rfl rfl (q_call rfl rfl rfl rfl (pf_str _)) ?_
            refine s_q rfl rfl (q_mv (.inl rfl) (is_sc rfl)) ?_
            refine s_q rfl rfl (q_call rfl rfl rfl rfl (pf_bool _)) ?_
            refine s_q rfl rfl (q_bs rfl (pt_cons (by first | exact (rfl : _ = D.agg [_, _, _, _, _]) | exact rfl) (pt_cons (by first | exact (rfl : _ = D.agg [_, _, _, _, _]) | exact rfl) pt_nil)) (by decide) (by decide) (by exact (rfl : _ = some [_, _, _, _, _, _, _, _, _, _])) (by exact (rfl : _ = [_, _, _, _, _, _, _, _, _, _])) (by exact rfl) (by exact rfl)) ?_
            refine s_q rfl rfl (q_mv (.inl rfl) (by first | exact is_im rfl | exact is_gs rfl | exact is_lit rfl | exact is_ms rfl | exact is_sc rfl | exact rfl)) ?_
            refine s_q rfl rfl (q_call rfl rfl rfl rfl (pf_argTexts l (by omega))) ?_
            refine s_q rfl rfl (q_appendLit (out := (strV b :: boolV c :: l.map strV).flatMap V.c) (k := (strV b :: boolV c :: l.map strV).length) rfl rfl rfl rfl (by decide) rfl (len_lst _) (by show (2 + (l.map strV).length) * 64 ≤ _; simp only [List.length_map]; omega) (by show 2 + (l.map strV).length ≤ 9223372036854775807; simp only [List.length_map]; omega) rfl (Nat.add_comm _ _)) ?_
            refine s_q rfl rfl (q_call rfl rfl rfl rfl (pf_tjAgrees b c l hb hl h20)) ?_
            refine s_q rfl rfl (q_mv (.inr rfl) (is_sc rfl)) ?_
            refine s_nil (n_n (w_ret ?_))
            -- end 5
            refine r_r (ra_tmp (is_sc rfl) ra_nil) (by exact (is_sc rfl)) (by exact rfl) sub_no ?_
            rfl

end Go.Proofs.YtpjckdhgefbonaaGreatDoor.Zz
