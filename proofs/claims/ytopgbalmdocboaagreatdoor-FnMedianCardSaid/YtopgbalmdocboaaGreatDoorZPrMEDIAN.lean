/- Walks of the functions, printed by program, and the logic behind them: each theorem says what one function or one step answers. -/
import Derived.Test.YtopgbalmdocboaaGreatDoorZSd
import Derived.Test.YtopgbalmdocboaaGreatDoorZWe
import Derived.Test.YtopgbalmdocboaaGreatDoorZNx
import Derived.Test.YtopgbalmdocboaaGreatDoorZSrt
import Derived.Test.YtopgbalmdocboaaGreatDoorZSm
import Derived.Test.YtopgbalmdocboaaGreatDoorZCi
import Derived.Test.YtopgbalmdocboaaGreatDoorZMi
import Derived.Test.YtopgbalmdocboaaGreatDoorZExt
import Derived.Test.YtopgbalmdocboaaGreatDoorZTx
namespace Go.Proofs.YtopgbalmdocboaaGreatDoor.Zz
open Go.Abs
set_option maxRecDepth 100000
set_option linter.unusedVariables false
set_option linter.unusedSimpArgs false
set_option maxHeartbeats 4000000
variable {G : Nat → D}
open Go.Sort

-- (*pub-tallysheet/pub/excelize.formulaFuncs).MEDIAN
theorem pf_MEDIAN (h : Heap) (kfn lk : Nat) (es : List (Nat × D)) (H : IsList h lk es) (R : List (List F)) (kr kx : Nat) (fs : List F) (hes : es.map (·.2) = WL 75 R kr kx fs) (hR : R.length < 1000000) (hF : R.flatten.length < 100000) (hs : ∀ f ∈ fs, ∃ b, f = fNum b) (hfs : fs.length < 1000) (S : List S6) (hS : S.map S6.b = numF R.flatten ++ numF fs) (hb : ∀ s ∈ S, s.x.natAbs < 2 ^ 45 ∧ s.b < 2 ^ 64) : ACall Tryz.prog G 47 true [.hp kfn 0, .hp lk 0] h (fun ret _ => (S.length = 0 ∧ ret = (fErr [35, 78, 85, 77, 33] [35, 78, 85, 77, 33]).d) ∨ (¬ S.length = 0 ∧ ∃ r, ret = (fNum (clean r)).d ∧ r < 2 ^ 64 ∧ MedW (S.map S6.x) r)) := by
  have hle : es.length = fs.length + 1 := by have := congrArg List.length hes; simpa [WL] using this
  refine ACall.intro rfl Tryz.func47 rfl (Nat.le_of_ble_eq_true rfl) rfl ?_
  refine w_seq (w_reg (s_s rfl rfl (as_alloc0 (id := 0) rfl rfl (by exact (rfl : _ = [_, _, _, _, _, _, _, _, _, _]))) ?_))
  refine s_nil (n_n (w_seq (w_seq (w_reg (s_q rfl rfl (q_mv (.inl rfl) (by first | exact is_box rfl | exact is_hp rfl | exact is_pin rfl | exact is_sc rfl | exact rfl)) ?_)))))
  refine s_o rfl rfl (ao_callH rfl rfl rfl rfl (pf_Len _ lk _ H) fun vln Hvln hvln => ?_)
  obtain ⟨rfl, e⟩ := hvln
  rw [e]; clear e
  refine s_q rfl rfl (q_as (bl_no (show ¬ ((es.length : Nat) : Int) = 0 by omega)) (q_eql rfl rfl rfl)) ?_
  refine s_nil (n_n (w_ifF rfl (w_skip (n_n (w_seq (w_reg (s_q rfl rfl (q_mv (.inr rfl) (by first | exact is_im rfl | exact is_gs rfl | exact is_lit rfl | exact is_ms rfl | exact is_sc rfl | exact rfl)) ?_)))))))
  refine s_nil (n_n (w_seq (w_reg (s_q rfl rfl (q_mv (.inr rfl) (is_sc rfl)) ?_))))
  refine s_nil (n_n (w_seq (w_seq (w_reg (s_q rfl rfl (q_mv (.inl rfl) (by first | exact is_box rfl | exact is_hp rfl | exact is_pin rfl | exact is_sc rfl | exact rfl)) ?_)))))
  refine s_o rfl rfl (ao_callH rfl rfl rfl rfl (pf_Front _ lk es H (by omega) (by omega)) fun vfr Hvfr hvfr => ?_)
  obtain ⟨rfl, e⟩ := hvfr
  rw [e]; clear e
  refine s_q rfl rfl (q_mv (.inr rfl) (by first | exact is_box rfl | exact is_hp rfl | exact is_pin rfl | exact is_sc rfl | exact rfl)) ?_
  refine s_nil (n_n (w_block ?_))
  refine w_loop (fun env A => ∃ (i : Nat) (o : List LO) (dv : D) (hh : Heap), i ≤ es.length ∧ Binds env [(4, .box 0 0), (5, dv), (7, ptrAt es i)] ∧ A = ⟨(.cells [.sc (.string ⟨⟨[]⟩⟩), .sc (.float .f64 0), .sc (.string ⟨⟨[]⟩⟩), .sc (.slice none 0 0), .sc (.slice none 0 0), .sc (.bool false), .sc (.string ⟨⟨[]⟩⟩), .sc (.int .u8 0), .sc (.pointer none), .sc (.pointer none)] :: o), fun _ => false, 0, hh⟩ ∧ ValRow h hh dv (gath R fs i)) (fun env _ => es.length - idxE es (env 7)) ?_ ?_
  · exact ⟨0, [], _, _, Nat.zero_le _, ⟨rfl, rfl, (ptrAt_lt (by omega)).symm, trivial⟩, rfl, ValRow.nil h⟩
  · rintro env A ⟨i, o, dv, hh, hi, hB, rfl, hV⟩
    rw [hB.eq]; clear hB
    rw [show (⟨(.cells [.sc (.string ⟨⟨[]⟩⟩), .sc (.float .f64 0), .sc (.string ⟨⟨[]⟩⟩), .sc (.slice none 0 0), .sc (.slice none 0 0), .sc (.bool false), .sc (.string ⟨⟨[]⟩⟩), .sc (.int .u8 0), .sc (.pointer none), .sc (.pointer none)] :: o), fun _ => false, 0, hh⟩ : AH) = ⟨(.cells [.sc (.string ⟨⟨[]⟩⟩), .sc (.float .f64 0), .sc (.string ⟨⟨[]⟩⟩), .sc (.slice none 0 0), .sc (.slice none 0 0), .sc (.bool false), .sc (.string ⟨⟨[]⟩⟩), .sc (.int .u8 0), .sc (.pointer none), .sc (.pointer none)] :: o) ++ [], fun _ => false, 0, hh⟩ by rw [List.append_nil]]
    refine w_seq (w_seq (w_reg (s_q rfl rfl (q_mv (.inl rfl) (by first | exact is_box rfl | exact is_hp rfl | exact is_pin rfl | exact is_sc rfl | exact rfl)) ?_)))
    refine s_q rfl rfl (q_ptrAt rfl rfl rfl) ?_
    refine s_nil (n_n (w_if (is_scb rfl) (fun h21 => ?_) (fun h21 => ?_)))
    · have hlt : i < es.length := of_decide_eq_true h21
      rw [ptrAt_lt hlt]
      refine w_skip (n_n (w_seq (w_block (w_seq (w_reg (s_q rfl rfl (q_mv (.inl rfl) (by first | exact is_box rfl | exact is_hp rfl | exact is_pin rfl | exact is_sc rfl | exact rfl)) ?_))))))
      refine s_q rfl rfl (q_nil rfl rfl rfl) ?_
      refine s_q rfl rfl (q_field rfl rfl (by exact rfl)) ?_
      rcases Nat.eq_zero_or_pos i with h0 | h0
      · have hval : Heap.get hh es[i].1 3 = some (.ifc 75 (matF R kr kx)) := by
          rw [(H.keep hV.1 (fun x _ => by simp)).val _ (List.getElem_mem hlt)]
          have h1 : (es.map (·.2))[i]'(by simpa using hlt) = es[i].2 := by simp
          rw [← h1]; simp [hes, WL, h0]
        have hg0 : gath R fs i = [] := by subst h0; rfl
        refine s_q rfl rfl (q_loadH rfl rfl (by exact hval)) ?_
        refine s_q rfl rfl (q_asr rfl rfl) ?_
        refine s_s rfl rfl (as_allocT (os := (.cells [.sc (.string ⟨⟨[]⟩⟩), .sc (.float .f64 0), .sc (.string ⟨⟨[]⟩⟩), .sc (.slice none 0 0), .sc (.slice none 0 0), .sc (.bool false), .sc (.string ⟨⟨[]⟩⟩), .sc (.int .u8 0), .sc (.pointer none), .sc (.pointer none)] :: o)) (tail := []) rfl rfl rfl (by exact (rfl : _ = [_, _, _, _, _, _, _, _, _, _]))) ?_
        refine s_u rfl rfl (as_stT (os := (.cells [.sc (.string ⟨⟨[]⟩⟩), .sc (.float .f64 0), .sc (.string ⟨⟨[]⟩⟩), .sc (.slice none 0 0), .sc (.slice none 0 0), .sc (.bool false), .sc (.string ⟨⟨[]⟩⟩), .sc (.int .u8 0), .sc (.pointer none), .sc (.pointer none)] :: o)) (tail := [_]) (j := 0) rfl rfl rfl (by first | exact (rfl : _ = D.agg [_, _, _, _, _, _, _, _, _, _]) | exact rfl) (by exact rfl) (by exact rfl) (by exact rfl) (by exact Nat.le_of_ble_eq_true rfl) (by exact (rfl : _ = [_, _, _, _, _, _, _, _, _, _])) (by exact (rfl : _ = [_]))) ?_
        refine s_nil (n_n (w_seq (w_reg (s_q rfl rfl (q_field rfl rfl (by exact rfl)) ?_))))
        refine s_q rfl rfl (q_loadT (os := (.cells [.sc (.string ⟨⟨[]⟩⟩), .sc (.float .f64 0), .sc (.string ⟨⟨[]⟩⟩), .sc (.slice none 0 0), .sc (.slice none 0 0), .sc (.bool false), .sc (.string ⟨⟨[]⟩⟩), .sc (.int .u8 0), .sc (.pointer none), .sc (.pointer none)] :: o)) (tail := [_]) (j := 0) rfl rfl rfl (by exact rfl) (by exact (rfl : _ = some (D.sc _)))) ?_
        refine s_nil (n_n (w_block (w_seq (w_reg (s_q rfl rfl (q_eql rfl rfl rfl) ?_)))))
        refine s_q rfl rfl (q_mv (.inr rfl) (is_sc rfl)) ?_
        refine s_nil (n_n (w_ifF rfl (w_seq (w_reg (s_q rfl rfl (q_eql rfl rfl rfl) ?_)))))
        refine s_q rfl rfl (q_mv (.inr rfl) (is_sc rfl)) ?_
        refine s_nil (n_n (w_ifF rfl (w_seq (w_reg (s_q rfl rfl (q_eql rfl rfl rfl) ?_)))))
        refine s_q rfl rfl (q_mv (.inr rfl) (is_sc rfl)) ?_
        refine s_nil (n_n (w_ifT rfl (w_seq (w_reg (s_q rfl rfl (q_field rfl rfl (by exact rfl)) ?_)))))
        refine s_q rfl rfl (q_loadT (os := (.cells [.sc (.string ⟨⟨[]⟩⟩), .sc (.float .f64 0), .sc (.string ⟨⟨[]⟩⟩), .sc (.slice none 0 0), .sc (.slice none 0 0), .sc (.bool false), .sc (.string ⟨⟨[]⟩⟩), .sc (.int .u8 0), .sc (.pointer none), .sc (.pointer none)] :: o)) (tail := [_]) (j := 0) rfl rfl rfl (by exact rfl) (by exact rfl)) ?_
        refine s_q rfl rfl (q_len rfl rfl rfl) ?_
        refine s_q rfl rfl (q_mv (.inl rfl) (is_sc rfl)) ?_
        refine s_nil (n_n (w_block ?_))
        refine w_loop (fun env A => ∃ (r : Nat) (o : List LO) (dv : D) (hh : Heap), r ≤ R.length ∧ Binds env [(4, .box 0 0), (5, dv), (7, .hp es[i].1 0), (54, .im (R.map lstF) R.length), (55, i64 R.length), (56, i64 r)] ∧ A = ⟨(.cells [.sc (.string ⟨⟨[]⟩⟩), .sc (.float .f64 0), .sc (.string ⟨⟨[]⟩⟩), .sc (.slice none 0 0), .sc (.slice none 0 0), .sc (.bool false), .sc (.string ⟨⟨[]⟩⟩), .sc (.int .u8 0), .sc (.pointer none), .sc (.pointer none)] :: o), fun _ => false, 0, hh⟩ ∧ ValRow h hh dv (numF (R.take r).flatten)) (fun env _ => R.length - ctr (env 56)) ?_ ?_
        · exact ⟨0, _, _, _, Nat.zero_le _, ⟨rfl, rfl, rfl, rfl, rfl, rfl, trivial⟩, by rfl, by rw [hg0] at hV; exact hV⟩
        · clear hV
          rintro env A ⟨r, o, dv, hh, hr, hB, rfl, hV⟩
          rw [hB.eq]; clear hB
          rw [show (⟨(.cells [.sc (.string ⟨⟨[]⟩⟩), .sc (.float .f64 0), .sc (.string ⟨⟨[]⟩⟩), .sc (.slice none 0 0), .sc (.slice none 0 0), .sc (.bool false), .sc (.string ⟨⟨[]⟩⟩), .sc (.int .u8 0), .sc (.pointer none), .sc (.pointer none)] :: o), fun _ => false, 0, hh⟩ : AH) = ⟨(.cells [.sc (.string ⟨⟨[]⟩⟩), .sc (.float .f64 0), .sc (.string ⟨⟨[]⟩⟩), .sc (.slice none 0 0), .sc (.slice none 0 0), .sc (.bool false), .sc (.string ⟨⟨[]⟩⟩), .sc (.int .u8 0), .sc (.pointer none), .sc (.pointer none)] :: o) ++ [], fun _ => false, 0, hh⟩ by rw [List.append_nil]]
          refine w_seq (w_reg (s_q rfl rfl (q_lss rfl rfl rfl) ?_))
          refine s_nil (n_n (w_seq (w_if (is_scb rfl) (fun h57 => ?_) (fun h57 => ?_))))
          · have hrlt : r < R.length := by have h' : (r : Int) < ((R.length : Nat) : Int) := of_decide_eq_true h57; omega
            refine w_skip (n_n (w_seq (w_block (w_seq (w_reg (s_q rfl rfl (q_index rfl rfl rfl rfl (Int.natCast_nonneg _) (by omega)) ?_))))))
            refine s_q rfl rfl (q_loadPin rfl rfl (take_map lstF hrlt)) ?_
            refine s_q rfl rfl (q_mv (.inr rfl) (by first | exact is_im rfl | exact is_gs rfl | exact is_lit rfl | exact is_ms rfl | exact is_sc rfl | exact rfl)) ?_
            refine s_nil (n_n (w_seq (w_reg (s_q rfl rfl (q_mv (.inl rfl) (by first | exact is_im rfl | exact is_gs rfl | exact is_lit rfl | exact is_ms rfl | exact is_sc rfl | exact rfl)) ?_))))
            refine s_q rfl rfl (q_len rfl rfl rfl) ?_
            refine s_q rfl rfl (q_mv (.inl rfl) (is_sc rfl)) ?_
            refine s_nil (n_n (w_block ?_))
            refine w_loop (fun env A => ∃ (c : Nat) (o : List LO) (dv : D) (hh : Heap), c ≤ R[r].length ∧ Binds env [(4, .box 0 0), (5, dv), (7, .hp es[i].1 0), (54, .im (R.map lstF) R.length), (55, i64 R.length), (56, i64 r), (60, lstF R[r]), (61, i64 R[r].length), (62, i64 c)] ∧ A = ⟨(.cells [.sc (.string ⟨⟨[]⟩⟩), .sc (.float .f64 0), .sc (.string ⟨⟨[]⟩⟩), .sc (.slice none 0 0), .sc (.slice none 0 0), .sc (.bool false), .sc (.string ⟨⟨[]⟩⟩), .sc (.int .u8 0), .sc (.pointer none), .sc (.pointer none)] :: o), fun _ => false, 0, hh⟩ ∧ ValRow h hh dv (numF (R.take r).flatten ++ numF (R[r].take c))) (fun env _ => R[r].length - ctr (env 62)) ?_ ?_
            · exact ⟨0, _, _, _, Nat.zero_le _, ⟨rfl, rfl, rfl, rfl, rfl, rfl, rfl, rfl, rfl, trivial⟩, by rfl, by rw [show numF (R[r].take 0) = [] from rfl, List.append_nil]; exact hV⟩
            · clear hV
              rintro env A ⟨c, o, dv, hh, hc, hB, rfl, hV⟩
              rw [hB.eq]; clear hB
              rw [show (⟨(.cells [.sc (.string ⟨⟨[]⟩⟩), .sc (.float .f64 0), .sc (.string ⟨⟨[]⟩⟩), .sc (.slice none 0 0), .sc (.slice none 0 0), .sc (.bool false), .sc (.string ⟨⟨[]⟩⟩), .sc (.int .u8 0), .sc (.pointer none), .sc (.pointer none)] :: o), fun _ => false, 0, hh⟩ : AH) = ⟨(.cells [.sc (.string ⟨⟨[]⟩⟩), .sc (.float .f64 0), .sc (.string ⟨⟨[]⟩⟩), .sc (.slice none 0 0), .sc (.slice none 0 0), .sc (.bool false), .sc (.string ⟨⟨[]⟩⟩), .sc (.int .u8 0), .sc (.pointer none), .sc (.pointer none)] :: o) ++ [], fun _ => false, 0, hh⟩ by rw [List.append_nil]]
              refine w_seq (w_reg (s_q rfl rfl (q_lss rfl rfl rfl) ?_))
              refine s_nil (n_n (w_seq (w_if (is_scb rfl) (fun h63 => ?_) (fun h63 => ?_))))
              · have hclt : c < R[r].length := by have h' : (c : Int) < ((R[r].length : Nat) : Int) := of_decide_eq_true h63; omega
                have hfl := flat_le hrlt
                have hn1 := numF_len (R.take r).flatten
                have hn2 := numF_len (R[r].take c)
                rw [List.length_take] at hn2
                refine w_skip (n_n (w_seq (w_block (w_seq (w_reg (s_q rfl rfl (q_index rfl rfl rfl rfl (Int.natCast_nonneg _) (by omega)) ?_))))))
                refine s_q rfl rfl (q_loadPin rfl rfl (take_lstF hclt)) ?_
                refine s_s rfl rfl (as_allocT (os := (.cells [.sc (.string ⟨⟨[]⟩⟩), .sc (.float .f64 0), .sc (.string ⟨⟨[]⟩⟩), .sc (.slice none 0 0), .sc (.slice none 0 0), .sc (.bool false), .sc (.string ⟨⟨[]⟩⟩), .sc (.int .u8 0), .sc (.pointer none), .sc (.pointer none)] :: o)) (tail := []) rfl rfl rfl (by exact (rfl : _ = [_, _, _, _, _, _, _, _, _, _]))) ?_
                refine s_u rfl rfl (as_stT (os := (.cells [.sc (.string ⟨⟨[]⟩⟩), .sc (.float .f64 0), .sc (.string ⟨⟨[]⟩⟩), .sc (.slice none 0 0), .sc (.slice none 0 0), .sc (.bool false), .sc (.string ⟨⟨[]⟩⟩), .sc (.int .u8 0), .sc (.pointer none), .sc (.pointer none)] :: o)) (tail := [_]) (j := 0) rfl rfl rfl (by first | exact (rfl : _ = D.agg [_, _, _, _, _, _, _, _, _, _]) | exact rfl) (by exact rfl) (by exact rfl) (by exact rfl) (by exact Nat.le_of_ble_eq_true rfl) (by exact (rfl : _ = [_, _, _, _, _, _, _, _, _, _])) (by exact (rfl : _ = [_]))) ?_
                refine s_nil (n_n (w_seq (w_reg (s_q rfl rfl (q_field rfl rfl (by exact rfl)) ?_))))
                refine s_q rfl rfl (q_loadT (os := (.cells [.sc (.string ⟨⟨[]⟩⟩), .sc (.float .f64 0), .sc (.string ⟨⟨[]⟩⟩), .sc (.slice none 0 0), .sc (.slice none 0 0), .sc (.bool false), .sc (.string ⟨⟨[]⟩⟩), .sc (.int .u8 0), .sc (.pointer none), .sc (.pointer none)] :: o)) (tail := [_]) (j := 0) rfl rfl rfl (by exact rfl) (by exact (rfl : _ = some (D.sc _)))) ?_
                refine s_q rfl rfl (q_eql rfl rfl rfl) ?_
                refine s_nil (n_n (w_if (is_scb rfl) (fun h68 => ?_) (fun h68 => ?_)))
                · have g68 : R[r][c].ty = 1 := of_decide_eq_true h68
                  refine w_reg (s_q rfl rfl (q_mv (.inl rfl) (by first | exact is_im rfl | exact is_gs rfl | exact is_lit rfl | exact is_ms rfl | exact is_sc rfl | exact rfl)) ?_)
                  refine s_q rfl rfl (q_field rfl rfl (by exact rfl)) ?_
                  refine s_q rfl rfl (q_loadT (os := (.cells [.sc (.string ⟨⟨[]⟩⟩), .sc (.float .f64 0), .sc (.string ⟨⟨[]⟩⟩), .sc (.slice none 0 0), .sc (.slice none 0 0), .sc (.bool false), .sc (.string ⟨⟨[]⟩⟩), .sc (.int .u8 0), .sc (.pointer none), .sc (.pointer none)] :: o)) (tail := [_]) (j := 0) rfl rfl rfl (by exact rfl) (by exact (rfl : _ = some (D.sc _)))) ?_
                  refine s_q rfl rfl (q_bs rfl (pt_cons (is_sc rfl) pt_nil) (by decide) (by decide) (by exact (rfl : _ = some [_])) (by exact (rfl : _ = [_])) (by exact rfl) (by exact rfl)) ?_
                  refine s_o rfl rfl (ao_appVal rfl rfl hV rfl rfl (by rw [List.length_append]; omega) fun dv hh hV => ?_)
                  refine s_q rfl rfl (q_mv (.inr rfl) (by first | exact is_im rfl | exact is_gs rfl | exact is_lit rfl | exact is_ms rfl | exact is_sc rfl | exact rfl)) ?_
                  refine s_nil (b_n (n_n (w_reg (s_q rfl rfl (q_add rfl rfl rfl) ?_))))
                  refine s_q rfl rfl (q_mv (.inl rfl) (is_sc rfl)) ?_
                  refine s_nil (n_n ?_)
                  have hw : IntKind.i64.wrap ((c : Int) + 1) = ((c + 1 : Nat) : Int) := wrap_nat (by omega)
                  have hn := numF_succ hclt
                  rw [if_pos g68] at hn
                  refine ⟨⟨c + 1, _, _, _, hclt, ⟨rfl, rfl, rfl, rfl, rfl, rfl, rfl, rfl, i64_eq hw, trivial⟩, by rfl, ?_⟩, ?_⟩
                  · rw [hn, ← List.append_assoc]; exact hV
                  · show R[r].length - (IntKind.i64.wrap ((c : Int) + 1)).toNat < R[r].length - (c : Int).toNat
                    rw [hw]; omega
                · have g68 : ¬ R[r][c].ty = 1 := of_decide_eq_false h68
                  refine w_skip (b_n (n_n (w_reg (s_q rfl rfl (q_add rfl rfl rfl) ?_))))
                  refine s_q rfl rfl (q_mv (.inl rfl) (is_sc rfl)) ?_
                  refine s_nil (n_n ?_)
                  have hw : IntKind.i64.wrap ((c : Int) + 1) = ((c + 1 : Nat) : Int) := wrap_nat (by omega)
                  have hn := numF_succ hclt
                  rw [if_neg g68, List.append_nil] at hn
                  refine ⟨⟨c + 1, _, _, _, hclt, ⟨rfl, rfl, rfl, rfl, rfl, rfl, rfl, rfl, i64_eq hw, trivial⟩, by rfl, ?_⟩, ?_⟩
                  · rw [hn]; exact hV
                  · show R[r].length - (IntKind.i64.wrap ((c : Int) + 1)).toNat < R[r].length - (c : Int).toNat
                    rw [hw]; omega
              · have hcge : R[r].length ≤ c := by have h' : ¬ (c : Int) < ((R[r].length : Nat) : Int) := of_decide_eq_false h63; omega
                rw [List.take_of_length_le hcge] at hV
                refine w_exit (n_e (n_e (b_hit (b_n (n_n (w_reg (s_q rfl rfl (q_add rfl rfl rfl) ?_)))))))
                refine s_q rfl rfl (q_mv (.inl rfl) (is_sc rfl)) ?_
                refine s_nil (n_n ?_)
                have hw : IntKind.i64.wrap ((r : Int) + 1) = ((r + 1 : Nat) : Int) := wrap_nat (by omega)
                refine ⟨⟨r + 1, _, _, _, hrlt, ⟨rfl, rfl, rfl, rfl, rfl, i64_eq hw, trivial⟩, by rfl, ?_⟩, ?_⟩
                · rw [flat_succ hrlt, numF_app]; exact hV
                · show R.length - (IntKind.i64.wrap ((r : Int) + 1)).toNat < R.length - (r : Int).toNat
                  rw [hw]; omega
          · have hrge : R.length ≤ r := by have h' : ¬ (r : Int) < ((R.length : Nat) : Int) := of_decide_eq_false h57; omega
            rw [List.take_of_length_le hrge] at hV
            refine w_exit (n_e (n_e (b_hit (b_n (b_n (n_n (w_reg (s_q rfl rfl (q_mv (.inl rfl) (by first | exact is_box rfl | exact is_hp rfl | exact is_pin rfl | exact is_sc rfl | exact rfl)) ?_))))))))
            refine s_o rfl rfl (ao_callH rfl rfl rfl rfl (pf_Next _ lk es (H.keep hV.1 (fun x _ => by simp)) i hlt) fun vnx Hvnx hvnx => ?_)
            obtain ⟨rfl, e⟩ := hvnx
            rw [e]; clear e
            refine s_q rfl rfl (q_mv (.inr rfl) (by first | exact is_box rfl | exact is_hp rfl | exact is_pin rfl | exact is_sc rfl | exact rfl)) ?_
            refine s_nil (n_n ?_)
            refine ⟨⟨i + 1, _, _, _, hlt, ⟨rfl, rfl, rfl, trivial⟩, rfl, ?_⟩, mu_step H hlt⟩
            have eg : gath R fs (i + 1) = numF R.flatten := by subst h0; simp [gath, numF]
            rw [eg]; exact hV
      · obtain ⟨b0, hb0⟩ := hs (fs[i - 1]'(by omega)) (List.getElem_mem _)
        have hval : Heap.get hh es[i].1 3 = some (.ifc 75 ((fNum b0).d)) := by
          rw [(H.keep hV.1 (fun x _ => by simp)).val _ (List.getElem_mem hlt)]
          have h1 : (es.map (·.2))[i]'(by simpa using hlt) = es[i].2 := by simp
          rw [← h1]
          have h2 : (WL 75 R kr kx fs)[i]'(by simp [WL]; omega) = .ifc 75 (fs[i - 1]'(by omega)).d := by
            obtain ⟨j, rfl⟩ : ∃ j, i = j + 1 := ⟨i - 1, by omega⟩
            simp [WL]
          rw [← hb0, ← h2]; simp [hes]
        have hg1 : gath R fs (i + 1) = gath R fs i ++ [b0] := by
          unfold gath
          rw [if_neg (by omega), if_neg (by omega), show i + 1 - 1 = i - 1 + 1 by omega, numF_succ (show i - 1 < fs.length by omega), hb0, if_pos (show (fNum b0).ty = 1 from rfl), List.append_assoc]; rfl
        have hgl := gath_len R fs i
        refine s_q rfl rfl (q_loadH rfl rfl (by exact hval)) ?_
        refine s_q rfl rfl (q_asr rfl rfl) ?_
        refine s_s rfl rfl (as_allocT (os := (.cells [.sc (.string ⟨⟨[]⟩⟩), .sc (.float .f64 0), .sc (.string ⟨⟨[]⟩⟩), .sc (.slice none 0 0), .sc (.slice none 0 0), .sc (.bool false), .sc (.string ⟨⟨[]⟩⟩), .sc (.int .u8 0), .sc (.pointer none), .sc (.pointer none)] :: o)) (tail := []) rfl rfl rfl (by exact (rfl : _ = [_, _, _, _, _, _, _, _, _, _]))) ?_
        refine s_u rfl rfl (as_stT (os := (.cells [.sc (.string ⟨⟨[]⟩⟩), .sc (.float .f64 0), .sc (.string ⟨⟨[]⟩⟩), .sc (.slice none 0 0), .sc (.slice none 0 0), .sc (.bool false), .sc (.string ⟨⟨[]⟩⟩), .sc (.int .u8 0), .sc (.pointer none), .sc (.pointer none)] :: o)) (tail := [_]) (j := 0) rfl rfl rfl (by first | exact (rfl : _ = D.agg [_, _, _, _, _, _, _, _, _, _]) | exact rfl) (by exact rfl) (by exact rfl) (by exact rfl) (by exact Nat.le_of_ble_eq_true rfl) (by exact (rfl : _ = [_, _, _, _, _, _, _, _, _, _])) (by exact (rfl : _ = [_]))) ?_
        refine s_nil (n_n (w_seq (w_reg (s_q rfl rfl (q_field rfl rfl (by exact rfl)) ?_))))
        refine s_q rfl rfl (q_loadT (os := (.cells [.sc (.string ⟨⟨[]⟩⟩), .sc (.float .f64 0), .sc (.string ⟨⟨[]⟩⟩), .sc (.slice none 0 0), .sc (.slice none 0 0), .sc (.bool false), .sc (.string ⟨⟨[]⟩⟩), .sc (.int .u8 0), .sc (.pointer none), .sc (.pointer none)] :: o)) (tail := [_]) (j := 0) rfl rfl rfl (by exact rfl) (by exact (rfl : _ = some (D.sc _)))) ?_
        refine s_nil (n_n (w_block (w_seq (w_reg (s_q rfl rfl (q_eql rfl rfl rfl) ?_)))))
        refine s_q rfl rfl (q_mv (.inr rfl) (is_sc rfl)) ?_
        refine s_nil (n_n (w_ifF rfl (w_seq (w_reg (s_q rfl rfl (q_eql rfl rfl rfl) ?_)))))
        refine s_q rfl rfl (q_mv (.inr rfl) (is_sc rfl)) ?_
        refine s_nil (n_n (w_ifT rfl (w_reg (s_q rfl rfl (q_mv (.inl rfl) (by first | exact is_im rfl | exact is_gs rfl | exact is_lit rfl | exact is_ms rfl | exact is_sc rfl | exact rfl)) ?_))))
        refine s_q rfl rfl (q_field rfl rfl (by exact rfl)) ?_
        refine s_q rfl rfl (q_loadT (os := (.cells [.sc (.string ⟨⟨[]⟩⟩), .sc (.float .f64 0), .sc (.string ⟨⟨[]⟩⟩), .sc (.slice none 0 0), .sc (.slice none 0 0), .sc (.bool false), .sc (.string ⟨⟨[]⟩⟩), .sc (.int .u8 0), .sc (.pointer none), .sc (.pointer none)] :: o)) (tail := [_]) (j := 0) rfl rfl rfl (by exact rfl) (by exact (rfl : _ = some (D.sc _)))) ?_
        refine s_q rfl rfl (q_bs rfl (pt_cons (is_sc rfl) pt_nil) (by decide) (by decide) (by exact (rfl : _ = some [_])) (by exact (rfl : _ = [_])) (by exact rfl) (by exact rfl)) ?_
        refine s_o rfl rfl (ao_appVal rfl rfl hV rfl rfl (by omega) fun dv hh hV => ?_)
        refine s_q rfl rfl (q_mv (.inr rfl) (by first | exact is_im rfl | exact is_gs rfl | exact is_lit rfl | exact is_ms rfl | exact is_sc rfl | exact rfl)) ?_
        refine s_nil (b_n (b_n (n_n (w_reg (s_q rfl rfl (q_mv (.inl rfl) (by first | exact is_box rfl | exact is_hp rfl | exact is_pin rfl | exact is_sc rfl | exact rfl)) ?_)))))
        refine s_o rfl rfl (ao_callH rfl rfl rfl rfl (pf_Next _ lk es (H.keep hV.1 (fun x _ => by simp)) i hlt) fun vnx Hvnx hvnx => ?_)
        obtain ⟨rfl, e⟩ := hvnx
        rw [e]; clear e
        refine s_q rfl rfl (q_mv (.inr rfl) (by first | exact is_box rfl | exact is_hp rfl | exact is_pin rfl | exact is_sc rfl | exact rfl)) ?_
        refine s_nil (n_n ?_)
        refine ⟨⟨i + 1, _, _, _, hlt, ⟨rfl, rfl, rfl, trivial⟩, rfl, ?_⟩, mu_step H hlt⟩
        rw [hg1]; exact hV
    · have hge : es.length ≤ i := by have := of_decide_eq_false h21; omega
      have hgv : gath R fs i = S.map S6.b := by
        unfold gath
        rw [if_neg (by omega), List.take_of_length_le (by omega), hS]
      rw [hgv] at hV
      have hSl : (S.map S6.b).length = S.length := List.length_map ..
      have hR5 := hV.2.1
      rw [hSl] at hR5
      refine w_exit (n_e (n_e (b_hit (n_n (w_seq (w_seq (w_reg (s_q rfl rfl (q_mv (.inl rfl) (by first | exact is_im rfl | exact is_gs rfl | exact is_lit rfl | exact is_ms rfl | exact is_sc rfl | exact rfl)) ?_))))))))
      refine s_q rfl rfl (q_lenRow rfl rfl hR5) ?_
      refine s_q rfl rfl (q_eql rfl rfl rfl) ?_
      refine s_nil (n_n (w_if (is_scb rfl) (fun h78 => ?_) (fun h78 => ?_)))
      · have hz : S.length = 0 := by have h' : ((S.length : Nat) : Int) = 0 := of_decide_eq_true h78; omega
        refine w_seq (w_reg (s_q rfl rfl (q_call rfl rfl rfl rfl (pf_newErr _ _)) ?_))
        refine s_u rfl rfl (as_st rfl rfl (by first | exact (rfl : _ = D.agg [_, _, _, _, _, _, _, _, _, _]) | exact rfl) rfl (by exact rfl) (by exact rfl) (by exact Nat.le_of_ble_eq_true rfl) (by exact (rfl : _ = [_, _, _, _, _, _, _, _, _, _]))) ?_
        refine s_nil (n_n (w_ret (n_r ?_)))
        -- end 0
        refine r_r (ra_cell (by exact (rfl : _ = some (D.agg [_, _, _, _, _, _, _, _, _, _]))) ra_nil) (by first | exact (rfl : _ = D.agg [_, _, _, _, _, _, _, _, _, _]) | exact rfl) (by exact rfl) (Sub.refl _) ?_
        exact .inl ⟨hz, rfl⟩
      · have hz : ¬ S.length = 0 := by have h' : ¬ ((S.length : Nat) : Int) = 0 := of_decide_eq_false h78; omega
        obtain ⟨kv, cap, sp, rfl, hkv, _, _, _, _, _⟩ := hR5.resolve_left (fun e => hz e.1)
        have hset : setH hh kv (fls (sixRow S) ++ sp) = hh := setH_self (by rw [fls_six]; exact hkv)
        have hlen6 : (numF R.flatten ++ numF fs).length = S.length := by rw [← hS, List.length_map]
        have hl6 : S.length ≤ 1000000 := by
          have a := numF_len R.flatten
          have b := numF_len fs
          rw [List.length_append] at hlen6
          omega
        have hcall := pf_Float64s (G := G) hh kv cap S.length (sixRow S) sp (sixRow_size S) hl6
        rw [hset] at hcall
        refine w_skip (n_n (w_seq (w_reg (s_q rfl rfl (q_mv (.inl rfl) (by first | exact is_im rfl | exact is_gs rfl | exact is_lit rfl | exact is_ms rfl | exact is_sc rfl | exact rfl)) ?_))))
        refine s_o rfl rfl (ao_callH rfl rfl rfl rfl hcall fun v81 Hv81 hv81 => ?_)
        obtain ⟨h2, d2, rfl, hp2, ho2, _⟩ := hv81
        have hd2s : d2.size = S.length := hp2.1.trans (sixRow_size S)
        refine s_nil (n_n (w_seq (w_seq (w_reg (s_q rfl rfl (q_mv (.inl rfl) (by first | exact is_im rfl | exact is_gs rfl | exact is_lit rfl | exact is_ms rfl | exact is_sc rfl | exact rfl)) ?_)))))
        refine s_q rfl rfl (q_lenHs rfl rfl) ?_
        refine s_q rfl rfl (q_rem rfl rfl rfl (by decide)) ?_
        refine s_q rfl rfl (q_eql rfl rfl rfl) ?_
        refine s_nil (n_n (w_if (is_scb rfl) (fun h85 => ?_) (fun h85 => ?_)))
        · have hev : S.length % 2 = 0 := by have h' : ((S.length : Nat) : Int).tmod 2 = 0 := of_decide_eq_true h85; rw [Int.tmod_eq_emod_of_nonneg (by omega)] at h'; omega
          obtain ⟨r1, r2, hadd, hquo, hmed⟩ := med_even hp2 ho2 hev hz (fun s hs => (hb s hs).1)
          obtain ⟨xf, hxf⟩ := hmed.fx
          refine w_draw [0, 0, 2, 6, 14, 31, 63, 0, 0, 256, 768, 1920, 3968, 8191, 16383, 32767] [0, 0, 0, 0, 0, 0, 1, 0, 0, 0, 0, 0, 1, 0, 0, 0] rfl ?_
          refine d_q0 rfl rfl (q_mv (.inl rfl) (by first | exact is_im rfl | exact is_gs rfl | exact is_lit rfl | exact is_ms rfl | exact is_sc rfl | exact rfl)) ?_
          refine d_q0 rfl rfl (q_mv (.inl rfl) (by first | exact is_im rfl | exact is_gs rfl | exact is_lit rfl | exact is_ms rfl | exact is_sc rfl | exact rfl)) ?_
          refine d_q0 rfl rfl (q_lenHs rfl rfl) ?_
          refine d_q0 rfl rfl (q_as (i64_eq (show IntKind.i64.wrap (((S.length : Nat) : Int).tdiv 2) = (((S.length) / 2 : Nat) : Int) by rw [Int.tdiv_eq_ediv_of_nonneg (by omega)]; exact (wrap_id (by omega) (by omega)).trans (by omega))) (q_quo rfl rfl rfl (by decide))) ?_
          refine d_q0 rfl rfl (q_as (i64_eq ((wrap_id (by omega) (by omega)).trans (by omega) : _ = ((S.length / 2 - 1 : Nat) : Int))) (q_sub rfl rfl rfl)) ?_
          refine d_q0 rfl rfl (q_indexHs rfl rfl rfl (by omega) (by omega)) ?_
          refine d_q1 rfl rfl (q_loadF (i := S.length / 2 - 1) (d := d2) rfl rfl rfl (by omega) (by rw [hd2s]; omega)) ?_
          refine d_q0 rfl rfl (q_mv (.inl rfl) (by first | exact is_im rfl | exact is_gs rfl | exact is_lit rfl | exact is_ms rfl | exact is_sc rfl | exact rfl)) ?_
          refine d_q0 rfl rfl (q_mv (.inl rfl) (by first | exact is_im rfl | exact is_gs rfl | exact is_lit rfl | exact is_ms rfl | exact is_sc rfl | exact rfl)) ?_
          refine d_q0 rfl rfl (q_lenHs rfl rfl) ?_
          refine d_q0 rfl rfl (q_as (i64_eq (show IntKind.i64.wrap (((S.length : Nat) : Int).tdiv 2) = (((S.length) / 2 : Nat) : Int) by rw [Int.tdiv_eq_ediv_of_nonneg (by omega)]; exact (wrap_id (by omega) (by omega)).trans (by omega))) (q_quo rfl rfl rfl (by decide))) ?_
          refine d_q0 rfl rfl (q_indexHs rfl rfl rfl (by omega) (by omega)) ?_
          refine d_q1 rfl rfl (q_loadF (i := S.length / 2) (d := d2) rfl rfl rfl (by omega) (by rw [hd2s]; omega)) ?_
          refine d_q0 rfl rfl (q_farith rfl rfl rfl hadd) ?_
          refine d_q0 rfl rfl (q_farith rfl rfl rfl hquo) ?_
          refine d_q0 rfl rfl (q_mv (.inr rfl) (is_sc rfl)) ?_
          refine d_nil (n_n (w_seq (w_reg (s_q rfl rfl (q_mv (.inl rfl) (is_sc rfl)) ?_))))
          refine s_q rfl rfl (q_call rfl rfl rfl rfl (pf_newNum _ _ hxf)) ?_
          refine s_u rfl rfl (as_st rfl rfl (by first | exact (rfl : _ = D.agg [_, _, _, _, _, _, _, _, _, _]) | exact rfl) rfl (by exact rfl) (by exact rfl) (by exact Nat.le_of_ble_eq_true rfl) (by exact (rfl : _ = [_, _, _, _, _, _, _, _, _, _]))) ?_
          refine s_nil (n_n (w_ret ?_))
          -- end 1
          refine r_r (ra_cell (by exact (rfl : _ = some (D.agg [_, _, _, _, _, _, _, _, _, _]))) ra_nil) (by first | exact (rfl : _ = D.agg [_, _, _, _, _, _, _, _, _, _]) | exact rfl) (by exact rfl) (Sub.refl _) ?_
          exact .inr ⟨hz, _, rfl, bits_lt hquo, hmed⟩
        · have hev : S.length % 2 = 1 := by have h' : ¬ ((S.length : Nat) : Int).tmod 2 = 0 := of_decide_eq_false h85; rw [Int.tmod_eq_emod_of_nonneg (by omega)] at h'; omega
          have hmed := med_odd hp2 ho2 hev
          obtain ⟨xf, hxf⟩ := hmed.fx
          refine w_reg (s_q rfl rfl (q_mv (.inl rfl) (by first | exact is_im rfl | exact is_gs rfl | exact is_lit rfl | exact is_ms rfl | exact is_sc rfl | exact rfl)) ?_)
          refine s_q rfl rfl (q_mv (.inl rfl) (by first | exact is_im rfl | exact is_gs rfl | exact is_lit rfl | exact is_ms rfl | exact is_sc rfl | exact rfl)) ?_
          refine s_q rfl rfl (q_lenHs rfl rfl) ?_
          refine s_q rfl rfl (q_as (i64_eq (show IntKind.i64.wrap (((S.length : Nat) : Int).tdiv 2) = (((S.length) / 2 : Nat) : Int) by rw [Int.tdiv_eq_ediv_of_nonneg (by omega)]; exact (wrap_id (by omega) (by omega)).trans (by omega))) (q_quo rfl rfl rfl (by decide))) ?_
          refine s_q rfl rfl (q_indexHs rfl rfl rfl (by omega) (by omega)) ?_
          refine s_q rfl rfl (q_loadF (i := S.length / 2) (d := d2) rfl rfl rfl (by omega) (by rw [hd2s]; omega)) ?_
          refine s_q rfl rfl (q_mv (.inr rfl) (is_sc rfl)) ?_
          refine s_nil (n_n (w_seq (w_reg (s_q rfl rfl (q_mv (.inl rfl) (is_sc rfl)) ?_))))
          refine s_q rfl rfl (q_call rfl rfl rfl rfl (pf_newNum _ _ hxf)) ?_
          refine s_u rfl rfl (as_st rfl rfl (by first | exact (rfl : _ = D.agg [_, _, _, _, _, _, _, _, _, _]) | exact rfl) rfl (by exact rfl) (by exact rfl) (by exact Nat.le_of_ble_eq_true rfl) (by exact (rfl : _ = [_, _, _, _, _, _, _, _, _, _]))) ?_
          refine s_nil (n_n (w_ret ?_))
          -- end 2
          refine r_r (ra_cell (by exact (rfl : _ = some (D.agg [_, _, _, _, _, _, _, _, _, _]))) ra_nil) (by first | exact (rfl : _ = D.agg [_, _, _, _, _, _, _, _, _, _]) | exact rfl) (by exact rfl) (Sub.refl _) ?_
          exact .inr ⟨hz, _, rfl, med_word hp2 (fun s hs => (hb s hs).2) (by omega), hmed⟩

end Go.Proofs.YtopgbalmdocboaaGreatDoor.Zz
