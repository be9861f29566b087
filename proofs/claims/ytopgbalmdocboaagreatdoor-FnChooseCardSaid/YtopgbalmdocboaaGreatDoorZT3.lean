/- Walks of the functions, printed by program, and the logic behind them: each theorem says what one function or one step answers. -/
import Derived.Test.YtopgbalmdocboaaGreatDoorZTt
namespace Go.Proofs.YtopgbalmdocboaaGreatDoor.Zz
open Go.Abs
set_option maxRecDepth 100000
set_option linter.unusedVariables false
set_option linter.unusedSimpArgs false
set_option maxHeartbeats 4000000
variable {G : Nat → D}

-- pub-tallysheet/spec.Read
theorem pf_Read (s : List UInt8) (hl : s.length < 4000000000) : PF Tryz.prog G 233 [st s] (readV s).d := by
  refine PC.intro rfl Tryz.func233 rfl (Nat.le_of_ble_eq_true rfl) rfl ?_
  refine w_seq (w_reg (s_s rfl rfl (as_alloc0 (id := 0) rfl rfl (by exact (rfl : _ = [_, _, _, _, _]))) ?_))
  refine s_nil (n_n (w_seq (w_reg (s_q rfl rfl (q_mv (.inr rfl) (is_sc rfl)) ?_))))
  refine s_q rfl rfl (q_mv (.inr rfl) (is_sc rfl)) ?_
  refine s_nil (n_n (w_seq (w_seq (w_reg (s_q rfl rfl (q_mv (.inl rfl) (is_sc rfl)) ?_)))))
  refine s_q rfl rfl (q_mv (.inl rfl) (is_sc rfl)) ?_
  refine s_q rfl rfl (q_lens rfl rfl) ?_
  refine s_q rfl rfl (q_lss rfl rfl rfl) ?_
  refine s_q rfl rfl (q_mv (.inl rfl) (is_sc rfl)) ?_
  refine s_split 14 (is_scb rfl) (fun h14 => ?_) (fun h14 => ?_)
  · have h0 : 0 < s.length := by have := of_decide_eq_true h14; omega
    refine s_q rfl rfl (q_mv (.inl rfl) (is_sc rfl)) ?_
    refine s_q rfl rfl (q_mv (.inl rfl) (is_sc rfl)) ?_
    refine s_q rfl rfl (q_byte rfl rfl rfl (by decide) (by omega)) ?_
    refine s_q rfl rfl (q_eql rfl rfl rfl) ?_
    refine s_q rfl rfl (q_pickT rfl rfl (is_sc rfl)) ?_
    refine s_nil (n_n (w_if (is_scb rfl) (fun h19 => ?_) (fun h19 => ?_)))
    · have hm : (decide (s.head? = some 45)) = true := by rw [← head_of h0]; exact h19
      have hsk := skip_yes hm
      have h0i : 1 ≤ s.length := h0
      refine w_reg (s_q rfl rfl (q_mv (.inr rfl) (is_sc rfl)) ?_)
      refine s_q rfl rfl (q_mv (.inr rfl) (is_sc rfl)) ?_
      refine s_nil (n_n (w_seq (w_reg (s_q rfl rfl (q_mv (.inr rfl) (is_sc rfl)) ?_))))
      refine s_q rfl rfl (q_mv (.inr rfl) (is_sc rfl)) ?_
      refine s_q rfl rfl (q_mv (.inr rfl) (is_sc rfl)) ?_
      refine s_q rfl rfl (q_mv (.inr rfl) (is_sc rfl)) ?_
      refine s_nil (n_n (w_seq (w_block ?_)))
      refine w_loop (fun env A => ∃ (i many : Nat) (n d : Int) (pt : Bool), i ≤ s.length ∧ many ≤ 12 ∧ 0 ≤ n ∧ n < ((10 ^ many : Nat) : Int) ∧ 1 ≤ d ∧ d ≤ ((10 ^ many : Nat) : Int) ∧ readL (s.drop i) n many d pt = readL (skipS s) 0 0 1 false ∧ Binds env [(0, st s), (2, .box 0 0), (3, i64 i), (4, bl (decide (s.head? = some 45))), (5, i64 n), (6, i64 many), (7, i64 d), (8, bl pt)] ∧ A = (AH.start noHeap).push (.cells [.sc (.int .i64 0), .sc (.int .i64 0), .sc (.int .i64 0), .sc (.string ⟨⟨[]⟩⟩), .sc (.slice none 0 0)])) (fun env _ => s.length - ctr (env 3)) ?_ ?_
      · exact ⟨_, 0, 0, 1, false, h0i, by omega, by omega, by decide, by omega, by decide, by rw [hsk], ⟨rfl, rfl, rfl, by rw [hm]; rfl, rfl, rfl, rfl, rfl, trivial⟩, rfl⟩
      · clear hsk h0i
        rintro env A ⟨i, many, n, d, pt, hi, hm12, hn0, hn1, hd0, hd1, hR, hB, rfl⟩
        rw [hB.eq]; clear hB
        refine w_seq (w_seq (w_reg (s_q rfl rfl (q_mv (.inl rfl) (is_sc rfl)) ?_)))
        refine s_q rfl rfl (q_mv (.inl rfl) (is_sc rfl)) ?_
        refine s_q rfl rfl (q_lens rfl rfl) ?_
        refine s_q rfl rfl (q_lss rfl rfl rfl) ?_
        refine s_nil (n_n (w_if (is_scb rfl) (fun h23 => ?_) (fun h23 => ?_)))
        · have hlt : i < s.length := by have := of_decide_eq_true h23; omega
          have hby : s.getD (i : Int).toNat 0 = s[i] := byte_at hlt
          have hc256 : s[i].toNat < 256 := s[i].toNat_lt
          refine w_skip (n_n (w_seq (w_block (w_seq (w_reg (s_q rfl rfl (q_mv (.inl rfl) (is_sc rfl)) ?_))))))
          refine s_q rfl rfl (q_mv (.inl rfl) (is_sc rfl)) ?_
          refine s_q rfl rfl (q_as (u8_eq (by rw [hby])) (q_byte rfl rfl rfl (Int.natCast_nonneg _) (by omega))) ?_
          refine s_q rfl rfl (q_mv (.inr rfl) (is_sc rfl)) ?_
          refine s_nil (n_n (w_block (w_seq (w_reg (s_q rfl rfl (q_mv (.inl rfl) (is_sc rfl)) ?_)))))
          refine s_q rfl rfl (q_geq rfl rfl rfl) ?_
          refine s_q rfl rfl (q_mv (.inl rfl) (is_sc rfl)) ?_
          refine s_split 34 (is_scb rfl) (fun h34 => ?_) (fun h34 => ?_)
          · have c1 : 48 ≤ s[i].toNat := by have := of_decide_eq_true h34; omega
            refine s_q rfl rfl (q_mv (.inl rfl) (is_sc rfl)) ?_
            refine s_q rfl rfl (q_leq rfl rfl rfl) ?_
            refine s_q rfl rfl (q_pickT rfl rfl (is_sc rfl)) ?_
            refine s_q rfl rfl (q_mv (.inl rfl) (is_sc rfl)) ?_
            refine s_split 38 (is_scb rfl) (fun h38 => ?_) (fun h38 => ?_)
            · have c2 : s[i].toNat ≤ 57 := by have := of_decide_eq_true h38; omega
              refine s_q rfl rfl (q_mv (.inl rfl) (is_sc rfl)) ?_
              refine s_q rfl rfl (q_lss rfl rfl rfl) ?_
              refine s_q rfl rfl (q_pickT rfl rfl (is_sc rfl)) ?_
              refine s_q rfl rfl (q_mv (.inr rfl) (is_sc rfl)) ?_
              refine s_nil (n_n (w_if (is_scb rfl) (fun h31 => ?_) (fun h31 => ?_)))
              · have c3 : many < 12 := by have := of_decide_eq_true h31; omega
                have t2 := ten_le hm12
                have t1 := ten_succ many
                have t3 := ten_le (show many + 1 ≤ 12 by omega)
                have w1 : IntKind.i64.wrap (10 * n) = 10 * n := wrap_id (by omega) (by omega)
                have w2 : IntKind.u8.wrap ((s[i].toNat : Int) - 48) = (s[i].toNat : Int) - 48 := by simp [IntKind.wrap, IntKind.signed, IntKind.bits]; omega
                have w3 : IntKind.i64.wrap ((s[i].toNat : Int) - 48) = (s[i].toNat : Int) - 48 := wrap_id (by omega) (by omega)
                have w4 : IntKind.i64.wrap (10 * n + ((s[i].toNat : Int) - 48)) = 10 * n + ((s[i].toNat : Int) - 48) := wrap_id (by omega) (by omega)
                have w5 : IntKind.i64.wrap (d * 10) = d * 10 := wrap_id (by omega) (by omega)
                have w6 : IntKind.i64.wrap ((many : Int) + 1) = ((many + 1 : Nat) : Int) := by rw [wrap_id (by omega) (by omega)]; omega
                clear t1 t2 t3
                refine w_seq (w_reg (s_q rfl rfl (q_mv (.inl rfl) (is_sc rfl)) ?_))
                refine s_q rfl rfl (q_as (i64_eq w1) (q_mul rfl rfl rfl)) ?_
                refine s_q rfl rfl (q_mv (.inl rfl) (is_sc rfl)) ?_
                refine s_q rfl rfl (q_as (u8_eq w2) (q_sub rfl rfl rfl)) ?_
                refine s_q rfl rfl (q_as (i64_eq w3) (q_cii rfl rfl)) ?_
                refine s_q rfl rfl (q_as (i64_eq w4) (q_add rfl rfl rfl)) ?_
                refine s_q rfl rfl (q_mv (.inl rfl) (is_sc rfl)) ?_
                refine s_q rfl rfl (q_as (i64_eq w6) (q_add rfl rfl rfl)) ?_
                refine s_q rfl rfl (q_mv (.inr rfl) (is_sc rfl)) ?_
                refine s_q rfl rfl (q_mv (.inr rfl) (is_sc rfl)) ?_
                refine s_nil (n_n (w_seq (w_reg (s_q rfl rfl (q_mv (.inl rfl) (is_sc rfl)) ?_))))
                refine s_nil (n_n (w_if (is_scb rfl) (fun h50 => ?_) (fun h50 => ?_)))
                · subst h50
                  refine w_reg (s_q rfl rfl (q_mv (.inl rfl) (is_sc rfl)) ?_)
                  refine s_q rfl rfl (q_as (i64_eq w5) (q_mul rfl rfl rfl)) ?_
                  refine s_q rfl rfl (q_mv (.inr rfl) (is_sc rfl)) ?_
                  refine s_nil (b_n (b_n (n_n (w_reg (s_q rfl rfl (q_mv (.inl rfl) (is_sc rfl)) ?_)))))
                  refine s_q rfl rfl (q_add rfl rfl rfl) ?_
                  refine s_q rfl rfl (q_mv (.inr rfl) (is_sc rfl)) ?_
                  refine s_nil (n_n ?_)
                  have hw : IntKind.i64.wrap ((i : Int) + 1) = ((i + 1 : Nat) : Int) := wrap_nat (by omega)
                  have t1 := ten_succ many
                  have t2 := ten_le hm12
                  rw [read_dig hlt c1 c2 c3] at hR
                  refine ⟨⟨i + 1, many + 1, _, _, _, hlt, by omega, ?_, ?_, ?_, ?_, hR, ⟨rfl, rfl, i64_eq hw, rfl, rfl, rfl, rfl, rfl, trivial⟩, rfl⟩, ?_⟩
                  · omega
                  · rw [t1]; omega
                  · simp only [if_true, Bool.false_eq_true, if_false]; omega
                  · rw [t1]; simp only [if_true, Bool.false_eq_true, if_false]; omega
                  · show s.length - (IntKind.i64.wrap ((i : Int) + 1)).toNat < s.length - (i : Int).toNat
                    rw [hw]; omega
                · subst h50
                  refine w_skip (b_n (b_n (n_n (w_reg (s_q rfl rfl (q_mv (.inl rfl) (is_sc rfl)) ?_)))))
                  refine s_q rfl rfl (q_add rfl rfl rfl) ?_
                  refine s_q rfl rfl (q_mv (.inr rfl) (is_sc rfl)) ?_
                  refine s_nil (n_n ?_)
                  have hw : IntKind.i64.wrap ((i : Int) + 1) = ((i + 1 : Nat) : Int) := wrap_nat (by omega)
                  have t1 := ten_succ many
                  have t2 := ten_le hm12
                  rw [read_dig hlt c1 c2 c3] at hR
                  refine ⟨⟨i + 1, many + 1, _, _, _, hlt, by omega, ?_, ?_, ?_, ?_, hR, ⟨rfl, rfl, i64_eq hw, rfl, rfl, rfl, rfl, rfl, trivial⟩, rfl⟩, ?_⟩
                  · omega
                  · rw [t1]; omega
                  · simp only [if_true, Bool.false_eq_true, if_false]; omega
                  · rw [t1]; simp only [if_true, Bool.false_eq_true, if_false]; omega
                  · show s.length - (IntKind.i64.wrap ((i : Int) + 1)).toNat < s.length - (i : Int).toNat
                    rw [hw]; omega
              · have hc : ¬ (48 ≤ s[i].toNat ∧ s[i].toNat ≤ 57 ∧ many < 12) := by have := of_decide_eq_false h31; omega
                refine w_seq (w_reg (s_q rfl rfl (q_mv (.inl rfl) (is_sc rfl)) ?_))
                refine s_q rfl rfl (q_eql rfl rfl rfl) ?_
                refine s_q rfl rfl (q_mv (.inl rfl) (is_sc rfl)) ?_
                refine s_split 56 (is_scb rfl) (fun h56 => ?_) (fun h56 => ?_)
                · have c46 : s[i].toNat = 46 := by have := of_decide_eq_true h56; omega
                  refine s_q rfl rfl (q_mv (.inl rfl) (is_sc rfl)) ?_
                  refine s_q rfl rfl (q_not rfl rfl) ?_
                  refine s_q rfl rfl (q_pickT rfl rfl (is_sc rfl)) ?_
                  refine s_q rfl rfl (q_mv (.inl rfl) (is_sc rfl)) ?_
                  refine s_split 60 (is_scb rfl) (fun h60 => ?_) (fun h60 => ?_)
                  · have hp0 : pt = false := by simpa using h60
                    refine s_q rfl rfl (q_mv (.inl rfl) (is_sc rfl)) ?_
                    refine s_q rfl rfl (q_gtr rfl rfl rfl) ?_
                    refine s_q rfl rfl (q_pickT rfl rfl (is_sc rfl)) ?_
                    refine s_q rfl rfl (q_mv (.inl rfl) (is_sc rfl)) ?_
                    refine s_split 64 (is_scb rfl) (fun h64 => ?_) (fun h64 => ?_)
                    · have c0 : 0 < many := by have := of_decide_eq_true h64; omega
                      refine s_q rfl rfl (q_mv (.inl rfl) (is_sc rfl)) ?_
                      refine s_q rfl rfl (q_add rfl rfl rfl) ?_
                      refine s_q rfl rfl (q_mv (.inl rfl) (is_sc rfl)) ?_
                      refine s_q rfl rfl (q_lens rfl rfl) ?_
                      refine s_q rfl rfl (q_lss rfl rfl rfl) ?_
                      refine s_q rfl rfl (q_pickT rfl rfl (is_sc rfl)) ?_
                      refine s_q rfl rfl (q_mv (.inr rfl) (is_sc rfl)) ?_
                      refine s_nil (n_n (w_if (is_scb rfl) (fun h53 => ?_) (fun h53 => ?_)))
                      · have cl : i + 1 < s.length := by have := of_decide_eq_true h53; rw [wrap_nat (by omega)] at this; omega
                        refine w_reg (s_q rfl rfl (q_mv (.inr rfl) (is_sc rfl)) ?_)
                        refine s_nil (b_n (b_n (n_n (w_reg (s_q rfl rfl (q_mv (.inl rfl) (is_sc rfl)) ?_)))))
                        refine s_q rfl rfl (q_add rfl rfl rfl) ?_
                        refine s_q rfl rfl (q_mv (.inr rfl) (is_sc rfl)) ?_
                        refine s_nil (n_n ?_)
                        have hw : IntKind.i64.wrap ((i : Int) + 1) = ((i + 1 : Nat) : Int) := wrap_nat (by omega)
                        rw [read_pt hlt c46 hp0 c0 cl] at hR
                        refine ⟨⟨i + 1, many, n, d, true, hlt, hm12, hn0, hn1, hd0, hd1, hR, ⟨rfl, rfl, i64_eq hw, rfl, rfl, rfl, rfl, rfl, trivial⟩, rfl⟩, ?_⟩
                        show s.length - (IntKind.i64.wrap ((i : Int) + 1)).toNat < s.length - (i : Int).toNat
                        rw [hw]; omega
                      · have hq : ¬ (s[i].toNat = 46 ∧ pt = false ∧ 0 < many ∧ i + 1 < s.length) := fun x => by have := of_decide_eq_false h53; rw [wrap_nat (by omega)] at this; have := x.2.2.2; omega
                        refine w_seq (w_reg (s_q rfl rfl (q_mv (.inl rfl) (is_sc rfl)) ?_))
                        refine s_q rfl rfl (q_call rfl rfl rfl rfl (pf_other _ hl)) ?_
                        refine s_u rfl rfl (as_st rfl rfl (by first | exact (rfl : _ = D.agg [_, _, _, _, _]) | exact rfl) rfl (by exact rfl) (by exact rfl) (by exact Nat.le_of_ble_eq_true rfl) (by exact (rfl : _ = [_, _, _, _, _]))) ?_
                        refine s_nil (n_n (w_ret (b_r (b_r (n_r (n_r (b_r (n_r ?_))))))))
                        -- end 0
                        refine r_r (ra_cell (by exact (rfl : _ = some (D.agg [_, _, _, _, _]))) ra_nil) (by first | exact (rfl : _ = D.agg [_, _, _, _, _]) | exact rfl) (by exact rfl) sub_no ?_
                        rw [read_other (hR.symm.trans (read_no hlt hc hq))]; rfl
                    · have hq : ¬ (s[i].toNat = 46 ∧ pt = false ∧ 0 < many ∧ i + 1 < s.length) := fun x => by have := of_decide_eq_false h64; have := x.2.2.1; omega
                      refine s_off rfl rfl ?_
                      refine s_off rfl rfl ?_
                      refine s_off rfl rfl ?_
                      refine s_off rfl rfl ?_
                      refine s_off rfl rfl ?_
                      refine s_q rfl rfl (q_pickF rfl rfl (is_sc rfl)) ?_
                      refine s_q rfl rfl (q_mv (.inr rfl) (is_sc rfl)) ?_
                      refine s_nil (n_n (w_ifF rfl (w_seq (w_reg (s_q rfl rfl (q_mv (.inl rfl) (is_sc rfl)) ?_)))))
                      refine s_q rfl rfl (q_call rfl rfl rfl rfl (pf_other _ hl)) ?_
                      refine s_u rfl rfl (as_st rfl rfl (by first | exact (rfl : _ = D.agg [_, _, _, _, _]) | exact rfl) rfl (by exact rfl) (by exact rfl) (by exact Nat.le_of_ble_eq_true rfl) (by exact (rfl : _ = [_, _, _, _, _]))) ?_
                      refine s_nil (n_n (w_ret (b_r (b_r (n_r (n_r (b_r (n_r ?_))))))))
                      -- end 1
                      refine r_r (ra_cell (by exact (rfl : _ = some (D.agg [_, _, _, _, _]))) ra_nil) (by first | exact (rfl : _ = D.agg [_, _, _, _, _]) | exact rfl) (by exact rfl) sub_no ?_
                      rw [read_other (hR.symm.trans (read_no hlt hc hq))]; rfl
                  · have hq : ¬ (s[i].toNat = 46 ∧ pt = false ∧ 0 < many ∧ i + 1 < s.length) := fun x => by rw [x.2.1] at h60; simp at h60
                    refine s_off rfl rfl ?_
                    refine s_off rfl rfl ?_
                    refine s_q rfl rfl (q_pickF rfl rfl (is_sc rfl)) ?_
                    refine s_q rfl rfl (q_mv (.inl rfl) (is_sc rfl)) ?_
                    refine s_off rfl rfl ?_
                    refine s_off rfl rfl ?_
                    refine s_off rfl rfl ?_
                    refine s_off rfl rfl ?_
                    refine s_off rfl rfl ?_
                    refine s_q rfl rfl (q_pickF rfl rfl (is_sc rfl)) ?_
                    refine s_q rfl rfl (q_mv (.inr rfl) (is_sc rfl)) ?_
                    refine s_nil (n_n (w_ifF rfl (w_seq (w_reg (s_q rfl rfl (q_mv (.inl rfl) (is_sc rfl)) ?_)))))
                    refine s_q rfl rfl (q_call rfl rfl rfl rfl (pf_other _ hl)) ?_
                    refine s_u rfl rfl (as_st rfl rfl (by first | exact (rfl : _ = D.agg [_, _, _, _, _]) | exact rfl) rfl (by exact rfl) (by exact rfl) (by exact Nat.le_of_ble_eq_true rfl) (by exact (rfl : _ = [_, _, _, _, _]))) ?_
                    refine s_nil (n_n (w_ret (b_r (b_r (n_r (n_r (b_r (n_r ?_))))))))
                    -- end 2
                    refine r_r (ra_cell (by exact (rfl : _ = some (D.agg [_, _, _, _, _]))) ra_nil) (by first | exact (rfl : _ = D.agg [_, _, _, _, _]) | exact rfl) (by exact rfl) sub_no ?_
                    rw [read_other (hR.symm.trans (read_no hlt hc hq))]; rfl
                · have hq : ¬ (s[i].toNat = 46 ∧ pt = false ∧ 0 < many ∧ i + 1 < s.length) := fun x => by have := of_decide_eq_false h56; have := x.1; omega
                  refine s_off rfl rfl ?_
                  refine s_off rfl rfl ?_
                  refine s_q rfl rfl (q_pickF rfl rfl (is_sc rfl)) ?_
                  refine s_q rfl rfl (q_mv (.inl rfl) (is_sc rfl)) ?_
                  refine s_off rfl rfl ?_
                  refine s_off rfl rfl ?_
                  refine s_q rfl rfl (q_pickF rfl rfl (is_sc rfl)) ?_
                  refine s_q rfl rfl (q_mv (.inl rfl) (is_sc rfl)) ?_
                  refine s_off rfl rfl ?_
                  refine s_off rfl rfl ?_
                  refine s_off rfl rfl ?_
                  refine s_off rfl rfl ?_
                  refine s_off rfl rfl ?_
                  refine s_q rfl rfl (q_pickF rfl rfl (is_sc rfl)) ?_
                  refine s_q rfl rfl (q_mv (.inr rfl) (is_sc rfl)) ?_
                  refine s_nil (n_n (w_ifF rfl (w_seq (w_reg (s_q rfl rfl (q_mv (.inl rfl) (is_sc rfl)) ?_)))))
                  refine s_q rfl rfl (q_call rfl rfl rfl rfl (pf_other _ hl)) ?_
                  refine s_u rfl rfl (as_st rfl rfl (by first | exact (rfl : _ = D.agg [_, _, _, _, _]) | exact rfl) rfl (by exact rfl) (by exact rfl) (by exact Nat.le_of_ble_eq_true rfl) (by exact (rfl : _ = [_, _, _, _, _]))) ?_
                  refine s_nil (n_n (w_ret (b_r (b_r (n_r (n_r (b_r (n_r ?_))))))))
                  -- end 3
                  refine r_r (ra_cell (by exact (rfl : _ = some (D.agg [_, _, _, _, _]))) ra_nil) (by first | exact (rfl : _ = D.agg [_, _, _, _, _]) | exact rfl) (by exact rfl) sub_no ?_
                  rw [read_other (hR.symm.trans (read_no hlt hc hq))]; rfl
            · have hc : ¬ (48 ≤ s[i].toNat ∧ s[i].toNat ≤ 57 ∧ many < 12) := by have := of_decide_eq_false h38; omega
              refine s_off rfl rfl ?_
              refine s_off rfl rfl ?_
              refine s_q rfl rfl (q_pickF rfl rfl (is_sc rfl)) ?_
              refine s_q rfl rfl (q_mv (.inr rfl) (is_sc rfl)) ?_
              refine s_nil (n_n (w_ifF rfl (w_seq (w_reg (s_q rfl rfl (q_mv (.inl rfl) (is_sc rfl)) ?_)))))
              refine s_q rfl rfl (q_eql rfl rfl rfl) ?_
              refine s_q rfl rfl (q_mv (.inl rfl) (is_sc rfl)) ?_
              refine s_split 56 (is_scb rfl) (fun h56 => ?_) (fun h56 => ?_)
              · have c46 : s[i].toNat = 46 := by have := of_decide_eq_true h56; omega
                refine s_q rfl rfl (q_mv (.inl rfl) (is_sc rfl)) ?_
                refine s_q rfl rfl (q_not rfl rfl) ?_
                refine s_q rfl rfl (q_pickT rfl rfl (is_sc rfl)) ?_
                refine s_q rfl rfl (q_mv (.inl rfl) (is_sc rfl)) ?_
                refine s_split 60 (is_scb rfl) (fun h60 => ?_) (fun h60 => ?_)
                · have hp0 : pt = false := by simpa using h60
                  refine s_q rfl rfl (q_mv (.inl rfl) (is_sc rfl)) ?_
                  refine s_q rfl rfl (q_gtr rfl rfl rfl) ?_
                  refine s_q rfl rfl (q_pickT rfl rfl (is_sc rfl)) ?_
                  refine s_q rfl rfl (q_mv (.inl rfl) (is_sc rfl)) ?_
                  refine s_split 64 (is_scb rfl) (fun h64 => ?_) (fun h64 => ?_)
                  · have c0 : 0 < many := by have := of_decide_eq_true h64; omega
                    refine s_q rfl rfl (q_mv (.inl rfl) (is_sc rfl)) ?_
                    refine s_q rfl rfl (q_add rfl rfl rfl) ?_
                    refine s_q rfl rfl (q_mv (.inl rfl) (is_sc rfl)) ?_
                    refine s_q rfl rfl (q_lens rfl rfl) ?_
                    refine s_q rfl rfl (q_lss rfl rfl rfl) ?_
                    refine s_q rfl rfl (q_pickT rfl rfl (is_sc rfl)) ?_
                    refine s_q rfl rfl (q_mv (.inr rfl) (is_sc rfl)) ?_
                    refine s_nil (n_n (w_if (is_scb rfl) (fun h53 => ?_) (fun h53 => ?_)))
                    · have cl : i + 1 < s.length := by have := of_decide_eq_true h53; rw [wrap_nat (by omega)] at this; omega
                      refine w_reg (s_q rfl rfl (q_mv (.inr rfl) (is_sc rfl)) ?_)
                      refine s_nil (b_n (b_n (n_n (w_reg (s_q rfl rfl (q_mv (.inl rfl) (is_sc rfl)) ?_)))))
                      refine s_q rfl rfl (q_add rfl rfl rfl) ?_
                      refine s_q rfl rfl (q_mv (.inr rfl) (is_sc rfl)) ?_
                      refine s_nil (n_n ?_)
                      have hw : IntKind.i64.wrap ((i : Int) + 1) = ((i + 1 : Nat) : Int) := wrap_nat (by omega)
                      rw [read_pt hlt c46 hp0 c0 cl] at hR
                      refine ⟨⟨i + 1, many, n, d, true, hlt, hm12, hn0, hn1, hd0, hd1, hR, ⟨rfl, rfl, i64_eq hw, rfl, rfl, rfl, rfl, rfl, trivial⟩, rfl⟩, ?_⟩
                      show s.length - (IntKind.i64.wrap ((i : Int) + 1)).toNat < s.length - (i : Int).toNat
                      rw [hw]; omega
                    · have hq : ¬ (s[i].toNat = 46 ∧ pt = false ∧ 0 < many ∧ i + 1 < s.length) := fun x => by have := of_decide_eq_false h53; rw [wrap_nat (by omega)] at this; have := x.2.2.2; omega
                      refine w_seq (w_reg (s_q rfl rfl (q_mv (.inl rfl) (is_sc rfl)) ?_))
                      refine s_q rfl rfl (q_call rfl rfl rfl rfl (pf_other _ hl)) ?_
                      refine s_u rfl rfl (as_st rfl rfl (by first | exact (rfl : _ = D.agg [_, _, _, _, _]) | exact rfl) rfl (by exact rfl) (by exact rfl) (by exact Nat.le_of_ble_eq_true rfl) (by exact (rfl : _ = [_, _, _, _, _]))) ?_
                      refine s_nil (n_n (w_ret (b_r (b_r (n_r (n_r (b_r (n_r ?_))))))))
                      -- end 4
                      refine r_r (ra_cell (by exact (rfl : _ = some (D.agg [_, _, _, _, _]))) ra_nil) (by first | exact (rfl : _ = D.agg [_, _, _, _, _]) | exact rfl) (by exact rfl) sub_no ?_
                      rw [read_other (hR.symm.trans (read_no hlt hc hq))]; rfl
                  · have hq : ¬ (s[i].toNat = 46 ∧ pt = false ∧ 0 < many ∧ i + 1 < s.length) := fun x => by have := of_decide_eq_false h64; have := x.2.2.1; omega
                    refine s_off rfl rfl ?_
                    refine s_off rfl rfl ?_
                    refine s_off rfl rfl ?_
                    refine s_off rfl rfl ?_
                    refine s_off rfl rfl ?_
                    refine s_q rfl rfl (q_pickF rfl rfl (is_sc rfl)) ?_
                    refine s_q rfl rfl (q_mv (.inr rfl) (is_sc rfl)) ?_
                    refine s_nil (n_n (w_ifF rfl (w_seq (w_reg (s_q rfl rfl (q_mv (.inl rfl) (is_sc rfl)) ?_)))))
                    refine s_q rfl rfl (q_call rfl rfl rfl rfl (pf_other _ hl)) ?_
                    refine s_u rfl rfl (as_st rfl rfl (by first | exact (rfl : _ = D.agg [_, _, _, _, _]) | exact rfl) rfl (by exact rfl) (by exact rfl) (by exact Nat.le_of_ble_eq_true rfl) (by exact (rfl : _ = [_, _, _, _, _]))) ?_
                    refine s_nil (n_n (w_ret (b_r (b_r (n_r (n_r (b_r (n_r ?_))))))))
                    -- end 5
                    refine r_r (ra_cell (by exact (rfl : _ = some (D.agg [_, _, _, _, _]))) ra_nil) (by first | exact (rfl : _ = D.agg [_, _, _, _, _]) | exact rfl) (by exact rfl) sub_no ?_
                    rw [read_other (hR.symm.trans (read_no hlt hc hq))]; rfl
                · have hq : ¬ (s[i].toNat = 46 ∧ pt = false ∧ 0 < many ∧ i + 1 < s.length) := fun x => by rw [x.2.1] at h60; simp at h60
                  refine s_off rfl rfl ?_
                  refine s_off rfl rfl ?_
                  refine s_q rfl rfl (q_pickF rfl rfl (is_sc rfl)) ?_
                  refine s_q rfl rfl (q_mv (.inl rfl) (is_sc rfl)) ?_
                  refine s_off rfl rfl ?_
                  refine s_off rfl rfl ?_
                  refine s_off rfl rfl ?_
                  refine s_off rfl rfl ?_
                  refine s_off rfl rfl ?_
                  refine s_q rfl rfl (q_pickF rfl rfl (is_sc rfl)) ?_
                  refine s_q rfl rfl (q_mv (.inr rfl) (is_sc rfl)) ?_
                  refine s_nil (n_n (w_ifF rfl (w_seq (w_reg (s_q rfl rfl (q_mv (.inl rfl) (is_sc rfl)) ?_)))))
                  refine s_q rfl rfl (q_call rfl rfl rfl rfl (pf_other _ hl)) ?_
                  refine s_u rfl rfl (as_st rfl rfl (by first | exact (rfl : _ = D.agg [_, _, _, _, _]) | exact rfl) rfl (by exact rfl) (by exact rfl) (by exact Nat.le_of_ble_eq_true rfl) (by exact (rfl : _ = [_, _, _, _, _]))) ?_
                  refine s_nil (n_n (w_ret (b_r (b_r (n_r (n_r (b_r (n_r ?_))))))))
                  -- end 6
                  refine r_r (ra_cell (by exact (rfl : _ = some (D.agg [_, _, _, _, _]))) ra_nil) (by first | exact (rfl : _ = D.agg [_, _, _, _, _]) | exact rfl) (by exact rfl) sub_no ?_
                  rw [read_other (hR.symm.trans (read_no hlt hc hq))]; rfl
              · have hq : ¬ (s[i].toNat = 46 ∧ pt = false ∧ 0 < many ∧ i + 1 < s.length) := fun x => by have := of_decide_eq_false h56; have := x.1; omega
                refine s_off rfl rfl ?_
                refine s_off rfl rfl ?_
                refine s_q rfl rfl (q_pickF rfl rfl (is_sc rfl)) ?_
                refine s_q rfl rfl (q_mv (.inl rfl) (is_sc rfl)) ?_
                refine s_off rfl rfl ?_
                refine s_off rfl rfl ?_
                refine s_q rfl rfl (q_pickF rfl rfl (is_sc rfl)) ?_
                refine s_q rfl rfl (q_mv (.inl rfl) (is_sc rfl)) ?_
                refine s_off rfl rfl ?_
                refine s_off rfl rfl ?_
                refine s_off rfl rfl ?_
                refine s_off rfl rfl ?_
                refine s_off rfl rfl ?_
                refine s_q rfl rfl (q_pickF rfl rfl (is_sc rfl)) ?_
                refine s_q rfl rfl (q_mv (.inr rfl) (is_sc rfl)) ?_
                refine s_nil (n_n (w_ifF rfl (w_seq (w_reg (s_q rfl rfl (q_mv (.inl rfl) (is_sc rfl)) ?_)))))
                refine s_q rfl rfl (q_call rfl rfl rfl rfl (pf_other _ hl)) ?_
                refine s_u rfl rfl (as_st rfl rfl (by first | exact (rfl : _ = D.agg [_, _, _, _, _]) | exact rfl) rfl (by exact rfl) (by exact rfl) (by exact Nat.le_of_ble_eq_true rfl) (by exact (rfl : _ = [_, _, _, _, _]))) ?_
                refine s_nil (n_n (w_ret (b_r (b_r (n_r (n_r (b_r (n_r ?_))))))))
                -- end 7
                refine r_r (ra_cell (by exact (rfl : _ = some (D.agg [_, _, _, _, _]))) ra_nil) (by first | exact (rfl : _ = D.agg [_, _, _, _, _]) | exact rfl) (by exact rfl) sub_no ?_
                rw [read_other (hR.symm.trans (read_no hlt hc hq))]; rfl
          · have hc : ¬ (48 ≤ s[i].toNat ∧ s[i].toNat ≤ 57 ∧ many < 12) := by have := of_decide_eq_false h34; omega
            refine s_off rfl rfl ?_
            refine s_off rfl rfl ?_
            refine s_q rfl rfl (q_pickF rfl rfl (is_sc rfl)) ?_
            refine s_q rfl rfl (q_mv (.inl rfl) (is_sc rfl)) ?_
            refine s_off rfl rfl ?_
            refine s_off rfl rfl ?_
            refine s_q rfl rfl (q_pickF rfl rfl (is_sc rfl)) ?_
            refine s_q rfl rfl (q_mv (.inr rfl) (is_sc rfl)) ?_
            refine s_nil (n_n (w_ifF rfl (w_seq (w_reg (s_q rfl rfl (q_mv (.inl rfl) (is_sc rfl)) ?_)))))
            refine s_q rfl rfl (q_eql rfl rfl rfl) ?_
            refine s_q rfl rfl (q_mv (.inl rfl) (is_sc rfl)) ?_
            refine s_split 56 (is_scb rfl) (fun h56 => ?_) (fun h56 => ?_)
            · have c46 : s[i].toNat = 46 := by have := of_decide_eq_true h56; omega
              refine s_q rfl rfl (q_mv (.inl rfl) (is_sc rfl)) ?_
              refine s_q rfl rfl (q_not rfl rfl) ?_
              refine s_q rfl rfl (q_pickT rfl rfl (is_sc rfl)) ?_
              refine s_q rfl rfl (q_mv (.inl rfl) (is_sc rfl)) ?_
              refine s_split 60 (is_scb rfl) (fun h60 => ?_) (fun h60 => ?_)
              · have hp0 : pt = false := by simpa using h60
                refine s_q rfl rfl (q_mv (.inl rfl) (is_sc rfl)) ?_
                refine s_q rfl rfl (q_gtr rfl rfl rfl) ?_
                refine s_q rfl rfl (q_pickT rfl rfl (is_sc rfl)) ?_
                refine s_q rfl rfl (q_mv (.inl rfl) (is_sc rfl)) ?_
                refine s_split 64 (is_scb rfl) (fun h64 => ?_) (fun h64 => ?_)
                · have c0 : 0 < many := by have := of_decide_eq_true h64; omega
                  refine s_q rfl rfl (q_mv (.inl rfl) (is_sc rfl)) ?_
                  refine s_q rfl rfl (q_add rfl rfl rfl) ?_
                  refine s_q rfl rfl (q_mv (.inl rfl) (is_sc rfl)) ?_
                  refine s_q rfl rfl (q_lens rfl rfl) ?_
                  refine s_q rfl rfl (q_lss rfl rfl rfl) ?_
                  refine s_q rfl rfl (q_pickT rfl rfl (is_sc rfl)) ?_
                  refine s_q rfl rfl (q_mv (.inr rfl) (is_sc rfl)) ?_
                  refine s_nil (n_n (w_if (is_scb rfl) (fun h53 => ?_) (fun h53 => ?_)))
                  · have cl : i + 1 < s.length := by have := of_decide_eq_true h53; rw [wrap_nat (by omega)] at this; omega
                    refine w_reg (s_q rfl rfl (q_mv (.inr rfl) (is_sc rfl)) ?_)
                    refine s_nil (b_n (b_n (n_n (w_reg (s_q rfl rfl (q_mv (.inl rfl) (is_sc rfl)) ?_)))))
                    refine s_q rfl rfl (q_add rfl rfl rfl) ?_
                    refine s_q rfl rfl (q_mv (.inr rfl) (is_sc rfl)) ?_
                    refine s_nil (n_n ?_)
                    have hw : IntKind.i64.wrap ((i : Int) + 1) = ((i + 1 : Nat) : Int) := wrap_nat (by omega)
                    rw [read_pt hlt c46 hp0 c0 cl] at hR
                    refine ⟨⟨i + 1, many, n, d, true, hlt, hm12, hn0, hn1, hd0, hd1, hR, ⟨rfl, rfl, i64_eq hw, rfl, rfl, rfl, rfl, rfl, trivial⟩, rfl⟩, ?_⟩
                    show s.length - (IntKind.i64.wrap ((i : Int) + 1)).toNat < s.length - (i : Int).toNat
                    rw [hw]; omega
                  · have hq : ¬ (s[i].toNat = 46 ∧ pt = false ∧ 0 < many ∧ i + 1 < s.length) := fun x => by have := of_decide_eq_false h53; rw [wrap_nat (by omega)] at this; have := x.2.2.2; omega
                    refine w_seq (w_reg (s_q rfl rfl (q_mv (.inl rfl) (is_sc rfl)) ?_))
                    refine s_q rfl rfl (q_call rfl rfl rfl rfl (pf_other _ hl)) ?_
                    refine s_u rfl rfl (as_st rfl rfl (by first | exact (rfl : _ = D.agg [_, _, _, _, _]) | exact rfl) rfl (by exact rfl) (by exact rfl) (by exact Nat.le_of_ble_eq_true rfl) (by exact (rfl : _ = [_, _, _, _, _]))) ?_
                    refine s_nil (n_n (w_ret (b_r (b_r (n_r (n_r (b_r (n_r ?_))))))))
                    -- end 8
                    refine r_r (ra_cell (by exact (rfl : _ = some (D.agg [_, _, _, _, _]))) ra_nil) (by first | exact (rfl : _ = D.agg [_, _, _, _, _]) | exact rfl) (by exact rfl) sub_no ?_
                    rw [read_other (hR.symm.trans (read_no hlt hc hq))]; rfl
                · have hq : ¬ (s[i].toNat = 46 ∧ pt = false ∧ 0 < many ∧ i + 1 < s.length) := fun x => by have := of_decide_eq_false h64; have := x.2.2.1; omega
                  refine s_off rfl rfl ?_
                  refine s_off rfl rfl ?_
                  refine s_off rfl rfl ?_
                  refine s_off rfl rfl ?_
                  refine s_off rfl rfl ?_
                  refine s_q rfl rfl (q_pickF rfl rfl (is_sc rfl)) ?_
                  refine s_q rfl rfl (q_mv (.inr rfl) (is_sc rfl)) ?_
                  refine s_nil (n_n (w_ifF rfl (w_seq (w_reg (s_q rfl rfl (q_mv (.inl rfl) (is_sc rfl)) ?_)))))
                  refine s_q rfl rfl (q_call rfl rfl rfl rfl (pf_other _ hl)) ?_
                  refine s_u rfl rfl (as_st rfl rfl (by first | exact (rfl : _ = D.agg [_, _, _, _, _]) | exact rfl) rfl (by exact rfl) (by exact rfl) (by exact Nat.le_of_ble_eq_true rfl) (by exact (rfl : _ = [_, _, _, _, _]))) ?_
                  refine s_nil (n_n (w_ret (b_r (b_r (n_r (n_r (b_r (n_r ?_))))))))
                  -- end 9
                  refine r_r (ra_cell (by exact (rfl : _ = some (D.agg [_, _, _, _, _]))) ra_nil) (by first | exact (rfl : _ = D.agg [_, _, _, _, _]) | exact rfl) (by exact rfl) sub_no ?_
                  rw [read_other (hR.symm.trans (read_no hlt hc hq))]; rfl
              · have hq : ¬ (s[i].toNat = 46 ∧ pt = false ∧ 0 < many ∧ i + 1 < s.length) := fun x => by rw [x.2.1] at h60; simp at h60
                refine s_off rfl rfl ?_
                refine s_off rfl rfl ?_
                refine s_q rfl rfl (q_pickF rfl rfl (is_sc rfl)) ?_
                refine s_q rfl rfl (q_mv (.inl rfl) (is_sc rfl)) ?_
                refine s_off rfl rfl ?_
                refine s_off rfl rfl ?_
                refine s_off rfl rfl ?_
                refine s_off rfl rfl ?_
                refine s_off rfl rfl ?_
                refine s_q rfl rfl (q_pickF rfl rfl (is_sc rfl)) ?_
                refine s_q rfl rfl (q_mv (.inr rfl) (is_sc rfl)) ?_
                refine s_nil (n_n (w_ifF rfl (w_seq (w_reg (s_q rfl rfl (q_mv (.inl rfl) (is_sc rfl)) ?_)))))
                refine s_q rfl rfl (q_call rfl rfl rfl rfl (pf_other _ hl)) ?_
                refine s_u rfl rfl (as_st rfl rfl (by first | exact (rfl : _ = D.agg [_, _, _, _, _]) | exact rfl) rfl (by exact rfl) (by exact rfl) (by exact Nat.le_of_ble_eq_true rfl) (by exact (rfl : _ = [_, _, _, _, _]))) ?_
                refine s_nil (n_n (w_ret (b_r (b_r (n_r (n_r (b_r (n_r ?_))))))))
                -- end 10
                refine r_r (ra_cell (by exact (rfl : _ = some (D.agg [_, _, _, _, _]))) ra_nil) (by first | exact (rfl : _ = D.agg [_, _, _, _, _]) | exact rfl) (by exact rfl) sub_no ?_
                rw [read_other (hR.symm.trans (read_no hlt hc hq))]; rfl
            · have hq : ¬ (s[i].toNat = 46 ∧ pt = false ∧ 0 < many ∧ i + 1 < s.length) := fun x => by have := of_decide_eq_false h56; have := x.1; omega
              refine s_off rfl rfl ?_
              refine s_off rfl rfl ?_
              refine s_q rfl rfl (q_pickF rfl rfl (is_sc rfl)) ?_
              refine s_q rfl rfl (q_mv (.inl rfl) (is_sc rfl)) ?_
              refine s_off rfl rfl ?_
              refine s_off rfl rfl ?_
              refine s_q rfl rfl (q_pickF rfl rfl (is_sc rfl)) ?_
              refine s_q rfl rfl (q_mv (.inl rfl) (is_sc rfl)) ?_
              refine s_off rfl rfl ?_
              refine s_off rfl rfl ?_
              refine s_off rfl rfl ?_
              refine s_off rfl rfl ?_
              refine s_off rfl rfl ?_
              refine s_q rfl rfl (q_pickF rfl rfl (is_sc rfl)) ?_
              refine s_q rfl rfl (q_mv (.inr rfl) (is_sc rfl)) ?_
              refine s_nil (n_n (w_ifF rfl (w_seq (w_reg (s_q rfl rfl (q_mv (.inl rfl) (is_sc rfl)) ?_)))))
              refine s_q rfl rfl (q_call rfl rfl rfl rfl (pf_other _ hl)) ?_
              refine s_u rfl rfl (as_st rfl rfl (by first | exact (rfl : _ = D.agg [_, _, _, _, _]) | exact rfl) rfl (by exact rfl) (by exact rfl) (by exact Nat.le_of_ble_eq_true rfl) (by exact (rfl : _ = [_, _, _, _, _]))) ?_
              refine s_nil (n_n (w_ret (b_r (b_r (n_r (n_r (b_r (n_r ?_))))))))
              -- end 11
              refine r_r (ra_cell (by exact (rfl : _ = some (D.agg [_, _, _, _, _]))) ra_nil) (by first | exact (rfl : _ = D.agg [_, _, _, _, _]) | exact rfl) (by exact rfl) sub_no ?_
              rw [read_other (hR.symm.trans (read_no hlt hc hq))]; rfl
        · have hge : s.length ≤ i := by have := of_decide_eq_false h23; omega
          have hfin := read_end (hR.symm.trans (show readL (s.drop i) n many d pt = some (n, many, d) by rw [List.drop_eq_nil_of_le hge]; rfl))
          have t2 := ten_le hm12
          refine w_exit (n_e (n_e (b_hit (n_n (w_seq (w_seq (w_reg (s_q rfl rfl (q_mv (.inl rfl) (is_sc rfl)) ?_))))))))
          refine s_q rfl rfl (q_eql rfl rfl rfl) ?_
          refine s_q rfl rfl (q_mv (.inl rfl) (is_sc rfl)) ?_
          refine s_split 73 (is_scb rfl) (fun h73 => ?_) (fun h73 => ?_)
          · refine s_off rfl rfl ?_
            refine s_off rfl rfl ?_
            refine s_q rfl rfl (q_pickT rfl rfl (is_sc rfl)) ?_
            refine s_nil (n_n (w_ifT rfl (w_seq (w_reg (s_q rfl rfl (q_mv (.inl rfl) (is_sc rfl)) ?_)))))
            refine s_q rfl rfl (q_call rfl rfl rfl rfl (pf_other _ hl)) ?_
            refine s_u rfl rfl (as_st rfl rfl (by first | exact (rfl : _ = D.agg [_, _, _, _, _]) | exact rfl) rfl (by exact rfl) (by exact rfl) (by exact Nat.le_of_ble_eq_true rfl) (by exact (rfl : _ = [_, _, _, _, _]))) ?_
            refine s_nil (n_n (w_ret (n_r ?_)))
            -- end 12
            refine r_r (ra_cell (by exact (rfl : _ = some (D.agg [_, _, _, _, _]))) ra_nil) (by first | exact (rfl : _ = D.agg [_, _, _, _, _]) | exact rfl) (by exact rfl) sub_no ?_
            rw [hfin, if_pos (.inl (by have := of_decide_eq_true h73; omega))]; rfl
          · have m1 : ¬ many = 0 := by have := of_decide_eq_false h73; omega
            refine s_q rfl rfl (q_mv (.inl rfl) (is_sc rfl)) ?_
            refine s_q rfl rfl (q_gtr rfl rfl rfl) ?_
            refine s_q rfl rfl (q_pickF rfl rfl (is_sc rfl)) ?_
            refine s_nil (n_n (w_if (is_scb rfl) (fun h76 => ?_) (fun h76 => ?_)))
            · refine w_seq (w_reg (s_q rfl rfl (q_mv (.inl rfl) (is_sc rfl)) ?_))
              refine s_q rfl rfl (q_call rfl rfl rfl rfl (pf_other _ hl)) ?_
              refine s_u rfl rfl (as_st rfl rfl (by first | exact (rfl : _ = D.agg [_, _, _, _, _]) | exact rfl) rfl (by exact rfl) (by exact rfl) (by exact Nat.le_of_ble_eq_true rfl) (by exact (rfl : _ = [_, _, _, _, _]))) ?_
              refine s_nil (n_n (w_ret (n_r ?_)))
              -- end 13
              refine r_r (ra_cell (by exact (rfl : _ = some (D.agg [_, _, _, _, _]))) ra_nil) (by first | exact (rfl : _ = D.agg [_, _, _, _, _]) | exact rfl) (by exact rfl) sub_no ?_
              rw [hfin, if_pos (.inr (of_decide_eq_true h76))]; rfl
            · have m2 : d ≤ 100000 := by have := of_decide_eq_false h76; omega
              have w7 : IntKind.i64.wrap (0 - n) = -n := by rw [wrap_id (by omega) (by omega)]; omega
              refine w_skip (n_n (w_seq (w_seq (w_reg (s_q rfl rfl (q_mv (.inl rfl) (is_sc rfl)) ?_)))))
              refine s_nil (n_n (w_if (is_scb rfl) (fun h79 => ?_) (fun h79 => ?_)))
              · refine w_reg (s_q rfl rfl (q_mv (.inl rfl) (is_sc rfl)) ?_)
                refine s_q rfl rfl (q_as (i64_eq w7) (q_neg rfl rfl)) ?_
                refine s_q rfl rfl (q_mv (.inr rfl) (is_sc rfl)) ?_
                refine s_nil (n_n (w_seq (w_reg (s_q rfl rfl (q_mv (.inl rfl) (is_sc rfl)) ?_))))
                refine s_q rfl rfl (q_mv (.inl rfl) (is_sc rfl)) ?_
                refine s_q rfl rfl (q_call rfl rfl rfl rfl (pf_fracD _ _ (by omega) (by omega) (by omega) (by omega))) ?_
                refine s_u rfl rfl (as_st rfl rfl (by first | exact (rfl : _ = D.agg [_, _, _, _, _]) | exact rfl) rfl (by exact rfl) (by exact rfl) (by exact Nat.le_of_ble_eq_true rfl) (by exact (rfl : _ = [_, _, _, _, _]))) ?_
                refine s_nil (n_n (w_ret ?_))
                -- end 14
                refine r_r (ra_cell (by exact (rfl : _ = some (D.agg [_, _, _, _, _]))) ra_nil) (by first | exact (rfl : _ = D.agg [_, _, _, _, _]) | exact rfl) (by exact rfl) sub_no ?_
                rw [hfin, if_neg (by omega), if_pos (of_decide_eq_true h79)]; rfl
              · refine w_skip (n_n (w_seq (w_reg (s_q rfl rfl (q_mv (.inl rfl) (is_sc rfl)) ?_))))
                refine s_q rfl rfl (q_mv (.inl rfl) (is_sc rfl)) ?_
                refine s_q rfl rfl (q_call rfl rfl rfl rfl (pf_fracD _ _ (by omega) (by omega) (by omega) (by omega))) ?_
                refine s_u rfl rfl (as_st rfl rfl (by first | exact (rfl : _ = D.agg [_, _, _, _, _]) | exact rfl) rfl (by exact rfl) (by exact rfl) (by exact Nat.le_of_ble_eq_true rfl) (by exact (rfl : _ = [_, _, _, _, _]))) ?_
                refine s_nil (n_n (w_ret ?_))
                -- end 15
                refine r_r (ra_cell (by exact (rfl : _ = some (D.agg [_, _, _, _, _]))) ra_nil) (by first | exact (rfl : _ = D.agg [_, _, _, _, _]) | exact rfl) (by exact rfl) sub_no ?_
                rw [hfin, if_neg (by omega), if_neg (of_decide_eq_false h79)]; rfl
    · have hm : (decide (s.head? = some 45)) = false := by rw [← head_of h0]; exact h19
      have hsk := skip_no hm
      have h0i : 0 ≤ s.length := Nat.zero_le _
      refine w_skip (n_n (w_seq (w_reg (s_q rfl rfl (q_mv (.inr rfl) (is_sc rfl)) ?_))))
      refine s_q rfl rfl (q_mv (.inr rfl) (is_sc rfl)) ?_
      refine s_q rfl rfl (q_mv (.inr rfl) (is_sc rfl)) ?_
      refine s_q rfl rfl (q_mv (.inr rfl) (is_sc rfl)) ?_
      refine s_nil (n_n (w_seq (w_block ?_)))
      refine w_loop (fun env A => ∃ (i many : Nat) (n d : Int) (pt : Bool), i ≤ s.length ∧ many ≤ 12 ∧ 0 ≤ n ∧ n < ((10 ^ many : Nat) : Int) ∧ 1 ≤ d ∧ d ≤ ((10 ^ many : Nat) : Int) ∧ readL (s.drop i) n many d pt = readL (skipS s) 0 0 1 false ∧ Binds env [(0, st s), (2, .box 0 0), (3, i64 i), (4, bl (decide (s.head? = some 45))), (5, i64 n), (6, i64 many), (7, i64 d), (8, bl pt)] ∧ A = (AH.start noHeap).push (.cells [.sc (.int .i64 0), .sc (.int .i64 0), .sc (.int .i64 0), .sc (.string ⟨⟨[]⟩⟩), .sc (.slice none 0 0)])) (fun env _ => s.length - ctr (env 3)) ?_ ?_
      · exact ⟨_, 0, 0, 1, false, h0i, by omega, by omega, by decide, by omega, by decide, by rw [hsk], ⟨rfl, rfl, rfl, by rw [hm]; rfl, rfl, rfl, rfl, rfl, trivial⟩, rfl⟩
      · clear hsk h0i
        rintro env A ⟨i, many, n, d, pt, hi, hm12, hn0, hn1, hd0, hd1, hR, hB, rfl⟩
        rw [hB.eq]; clear hB
        refine w_seq (w_seq (w_reg (s_q rfl rfl (q_mv (.inl rfl) (is_sc rfl)) ?_)))
        refine s_q rfl rfl (q_mv (.inl rfl) (is_sc rfl)) ?_
        refine s_q rfl rfl (q_lens rfl rfl) ?_
        refine s_q rfl rfl (q_lss rfl rfl rfl) ?_
        refine s_nil (n_n (w_if (is_scb rfl) (fun h23 => ?_) (fun h23 => ?_)))
        · have hlt : i < s.length := by have := of_decide_eq_true h23; omega
          have hby : s.getD (i : Int).toNat 0 = s[i] := byte_at hlt
          have hc256 : s[i].toNat < 256 := s[i].toNat_lt
          refine w_skip (n_n (w_seq (w_block (w_seq (w_reg (s_q rfl rfl (q_mv (.inl rfl) (is_sc rfl)) ?_))))))
          refine s_q rfl rfl (q_mv (.inl rfl) (is_sc rfl)) ?_
          refine s_q rfl rfl (q_as (u8_eq (by rw [hby])) (q_byte rfl rfl rfl (Int.natCast_nonneg _) (by omega))) ?_
          refine s_q rfl rfl (q_mv (.inr rfl) (is_sc rfl)) ?_
          refine s_nil (n_n (w_block (w_seq (w_reg (s_q rfl rfl (q_mv (.inl rfl) (is_sc rfl)) ?_)))))
          refine s_q rfl rfl (q_geq rfl rfl rfl) ?_
          refine s_q rfl rfl (q_mv (.inl rfl) (is_sc rfl)) ?_
          refine s_split 34 (is_scb rfl) (fun h34 => ?_) (fun h34 => ?_)
          · have c1 : 48 ≤ s[i].toNat := by have := of_decide_eq_true h34; omega
            refine s_q rfl rfl (q_mv (.inl rfl) (is_sc rfl)) ?_
            refine s_q rfl rfl (q_leq rfl rfl rfl) ?_
            refine s_q rfl rfl (q_pickT rfl rfl (is_sc rfl)) ?_
            refine s_q rfl rfl (q_mv (.inl rfl) (is_sc rfl)) ?_
            refine s_split 38 (is_scb rfl) (fun h38 => ?_) (fun h38 => ?_)
            · have c2 : s[i].toNat ≤ 57 := by have := of_decide_eq_true h38; omega
              refine s_q rfl rfl (q_mv (.inl rfl) (is_sc rfl)) ?_
              refine s_q rfl rfl (q_lss rfl rfl rfl) ?_
              refine s_q rfl rfl (q_pickT rfl rfl (is_sc rfl)) ?_
              refine s_q rfl rfl (q_mv (.inr rfl) (is_sc rfl)) ?_
              refine s_nil (n_n (w_if (is_scb rfl) (fun h31 => ?_) (fun h31 => ?_)))
              · have c3 : many < 12 := by have := of_decide_eq_true h31; omega
                have t2 := ten_le hm12
                have t1 := ten_succ many
                have t3 := ten_le (show many + 1 ≤ 12 by omega)
                have w1 : IntKind.i64.wrap (10 * n) = 10 * n := wrap_id (by omega) (by omega)
                have w2 : IntKind.u8.wrap ((s[i].toNat : Int) - 48) = (s[i].toNat : Int) - 48 := by simp [IntKind.wrap, IntKind.signed, IntKind.bits]; omega
                have w3 : IntKind.i64.wrap ((s[i].toNat : Int) - 48) = (s[i].toNat : Int) - 48 := wrap_id (by omega) (by omega)
                have w4 : IntKind.i64.wrap (10 * n + ((s[i].toNat : Int) - 48)) = 10 * n + ((s[i].toNat : Int) - 48) := wrap_id (by omega) (by omega)
                have w5 : IntKind.i64.wrap (d * 10) = d * 10 := wrap_id (by omega) (by omega)
                have w6 : IntKind.i64.wrap ((many : Int) + 1) = ((many + 1 : Nat) : Int) := by rw [wrap_id (by omega) (by omega)]; omega
                clear t1 t2 t3
                refine w_seq (w_reg (s_q rfl rfl (q_mv (.inl rfl) (is_sc rfl)) ?_))
                refine s_q rfl rfl (q_as (i64_eq w1) (q_mul rfl rfl rfl)) ?_
                refine s_q rfl rfl (q_mv (.inl rfl) (is_sc rfl)) ?_
                refine s_q rfl rfl (q_as (u8_eq w2) (q_sub rfl rfl rfl)) ?_
                refine s_q rfl rfl (q_as (i64_eq w3) (q_cii rfl rfl)) ?_
                refine s_q rfl rfl (q_as (i64_eq w4) (q_add rfl rfl rfl)) ?_
                refine s_q rfl rfl (q_mv (.inl rfl) (is_sc rfl)) ?_
                refine s_q rfl rfl (q_as (i64_eq w6) (q_add rfl rfl rfl)) ?_
                refine s_q rfl rfl (q_mv (.inr rfl) (is_sc rfl)) ?_
                refine s_q rfl rfl (q_mv (.inr rfl) (is_sc rfl)) ?_
                refine s_nil (n_n (w_seq (w_reg (s_q rfl rfl (q_mv (.inl rfl) (is_sc rfl)) ?_))))
                refine s_nil (n_n (w_if (is_scb rfl) (fun h50 => ?_) (fun h50 => ?_)))
                · subst h50
                  refine w_reg (s_q rfl rfl (q_mv (.inl rfl) (is_sc rfl)) ?_)
                  refine s_q rfl rfl (q_as (i64_eq w5) (q_mul rfl rfl rfl)) ?_
                  refine s_q rfl rfl (q_mv (.inr rfl) (is_sc rfl)) ?_
                  refine s_nil (b_n (b_n (n_n (w_reg (s_q rfl rfl (q_mv (.inl rfl) (is_sc rfl)) ?_)))))
                  refine s_q rfl rfl (q_add rfl rfl rfl) ?_
                  refine s_q rfl rfl (q_mv (.inr rfl) (is_sc rfl)) ?_
                  refine s_nil (n_n ?_)
                  have hw : IntKind.i64.wrap ((i : Int) + 1) = ((i + 1 : Nat) : Int) := wrap_nat (by omega)
                  have t1 := ten_succ many
                  have t2 := ten_le hm12
                  rw [read_dig hlt c1 c2 c3] at hR
                  refine ⟨⟨i + 1, many + 1, _, _, _, hlt, by omega, ?_, ?_, ?_, ?_, hR, ⟨rfl, rfl, i64_eq hw, rfl, rfl, rfl, rfl, rfl, trivial⟩, rfl⟩, ?_⟩
                  · omega
                  · rw [t1]; omega
                  · simp only [if_true, Bool.false_eq_true, if_false]; omega
                  · rw [t1]; simp only [if_true, Bool.false_eq_true, if_false]; omega
                  · show s.length - (IntKind.i64.wrap ((i : Int) + 1)).toNat < s.length - (i : Int).toNat
                    rw [hw]; omega
                · subst h50
                  refine w_skip (b_n (b_n (n_n (w_reg (s_q rfl rfl (q_mv (.inl rfl) (is_sc rfl)) ?_)))))
                  refine s_q rfl rfl (q_add rfl rfl rfl) ?_
                  refine s_q rfl rfl (q_mv (.inr rfl) (is_sc rfl)) ?_
                  refine s_nil (n_n ?_)
                  have hw : IntKind.i64.wrap ((i : Int) + 1) = ((i + 1 : Nat) : Int) := wrap_nat (by omega)
                  have t1 := ten_succ many
                  have t2 := ten_le hm12
                  rw [read_dig hlt c1 c2 c3] at hR
                  refine ⟨⟨i + 1, many + 1, _, _, _, hlt, by omega, ?_, ?_, ?_, ?_, hR, ⟨rfl, rfl, i64_eq hw, rfl, rfl, rfl, rfl, rfl, trivial⟩, rfl⟩, ?_⟩
                  · omega
                  · rw [t1]; omega
                  · simp only [if_true, Bool.false_eq_true, if_false]; omega
                  · rw [t1]; simp only [if_true, Bool.false_eq_true, if_false]; omega
                  · show s.length - (IntKind.i64.wrap ((i : Int) + 1)).toNat < s.length - (i : Int).toNat
                    rw [hw]; omega
              · have hc : ¬ (48 ≤ s[i].toNat ∧ s[i].toNat ≤ 57 ∧ many < 12) := by have := of_decide_eq_false h31; omega
                refine w_seq (w_reg (s_q rfl rfl (q_mv (.inl rfl) (is_sc rfl)) ?_))
                refine s_q rfl rfl (q_eql rfl rfl rfl) ?_
                refine s_q rfl rfl (q_mv (.inl rfl) (is_sc rfl)) ?_
                refine s_split 56 (is_scb rfl) (fun h56 => ?_) (fun h56 => ?_)
                · have c46 : s[i].toNat = 46 := by have := of_decide_eq_true h56; omega
                  refine s_q rfl rfl (q_mv (.inl rfl) (is_sc rfl)) ?_
                  refine s_q rfl rfl (q_not rfl rfl) ?_
                  refine s_q rfl rfl (q_pickT rfl rfl (is_sc rfl)) ?_
                  refine s_q rfl rfl (q_mv (.inl rfl) (is_sc rfl)) ?_
                  refine s_split 60 (is_scb rfl) (fun h60 => ?_) (fun h60 => ?_)
                  · have hp0 : pt = false := by simpa using h60
                    refine s_q rfl rfl (q_mv (.inl rfl) (is_sc rfl)) ?_
                    refine s_q rfl rfl (q_gtr rfl rfl rfl) ?_
                    refine s_q rfl rfl (q_pickT rfl rfl (is_sc rfl)) ?_
                    refine s_q rfl rfl (q_mv (.inl rfl) (is_sc rfl)) ?_
                    refine s_split 64 (is_scb rfl) (fun h64 => ?_) (fun h64 => ?_)
                    · have c0 : 0 < many := by have := of_decide_eq_true h64; omega
                      refine s_q rfl rfl (q_mv (.inl rfl) (is_sc rfl)) ?_
                      refine s_q rfl rfl (q_add rfl rfl rfl) ?_
                      refine s_q rfl rfl (q_mv (.inl rfl) (is_sc rfl)) ?_
                      refine s_q rfl rfl (q_lens rfl rfl) ?_
                      refine s_q rfl rfl (q_lss rfl rfl rfl) ?_
                      refine s_q rfl rfl (q_pickT rfl rfl (is_sc rfl)) ?_
                      refine s_q rfl rfl (q_mv (.inr rfl) (is_sc rfl)) ?_
                      refine s_nil (n_n (w_if (is_scb rfl) (fun h53 => ?_) (fun h53 => ?_)))
                      · have cl : i + 1 < s.length := by have := of_decide_eq_true h53; rw [wrap_nat (by omega)] at this; omega
                        refine w_reg (s_q rfl rfl (q_mv (.inr rfl) (is_sc rfl)) ?_)
                        refine s_nil (b_n (b_n (n_n (w_reg (s_q rfl rfl (q_mv (.inl rfl) (is_sc rfl)) ?_)))))
                        refine s_q rfl rfl (q_add rfl rfl rfl) ?_
                        refine s_q rfl rfl (q_mv (.inr rfl) (is_sc rfl)) ?_
                        refine s_nil (n_n ?_)
                        have hw : IntKind.i64.wrap ((i : Int) + 1) = ((i + 1 : Nat) : Int) := wrap_nat (by omega)
                        rw [read_pt hlt c46 hp0 c0 cl] at hR
                        refine ⟨⟨i + 1, many, n, d, true, hlt, hm12, hn0, hn1, hd0, hd1, hR, ⟨rfl, rfl, i64_eq hw, rfl, rfl, rfl, rfl, rfl, trivial⟩, rfl⟩, ?_⟩
                        show s.length - (IntKind.i64.wrap ((i : Int) + 1)).toNat < s.length - (i : Int).toNat
                        rw [hw]; omega
                      · have hq : ¬ (s[i].toNat = 46 ∧ pt = false ∧ 0 < many ∧ i + 1 < s.length) := fun x => by have := of_decide_eq_false h53; rw [wrap_nat (by omega)] at this; have := x.2.2.2; omega
                        refine w_seq (w_reg (s_q rfl rfl (q_mv (.inl rfl) (is_sc rfl)) ?_))
                        refine s_q rfl rfl (q_call rfl rfl rfl rfl (pf_other _ hl)) ?_
                        refine s_u rfl rfl (as_st rfl rfl (by first | exact (rfl : _ = D.agg [_, _, _, _, _]) | exact rfl) rfl (by exact rfl) (by exact rfl) (by exact Nat.le_of_ble_eq_true rfl) (by exact (rfl : _ = [_, _, _, _, _]))) ?_
                        refine s_nil (n_n (w_ret (b_r (b_r (n_r (n_r (b_r (n_r ?_))))))))
                        -- end 16
                        refine r_r (ra_cell (by exact (rfl : _ = some (D.agg [_, _, _, _, _]))) ra_nil) (by first | exact (rfl : _ = D.agg [_, _, _, _, _]) | exact rfl) (by exact rfl) sub_no ?_
                        rw [read_other (hR.symm.trans (read_no hlt hc hq))]; rfl
                    · have hq : ¬ (s[i].toNat = 46 ∧ pt = false ∧ 0 < many ∧ i + 1 < s.length) := fun x => by have := of_decide_eq_false h64; have := x.2.2.1; omega
                      refine s_off rfl rfl ?_
                      refine s_off rfl rfl ?_
                      refine s_off rfl rfl ?_
                      refine s_off rfl rfl ?_
                      refine s_off rfl rfl ?_
                      refine s_q rfl rfl (q_pickF rfl rfl (is_sc rfl)) ?_
                      refine s_q rfl rfl (q_mv (.inr rfl) (is_sc rfl)) ?_
                      refine s_nil (n_n (w_ifF rfl (w_seq (w_reg (s_q rfl rfl (q_mv (.inl rfl) (is_sc rfl)) ?_)))))
                      refine s_q rfl rfl (q_call rfl rfl rfl rfl (pf_other _ hl)) ?_
                      refine s_u rfl rfl (as_st rfl rfl (by first | exact (rfl : _ = D.agg [_, _, _, _, _]) | exact rfl) rfl (by exact rfl) (by exact rfl) (by exact Nat.le_of_ble_eq_true rfl) (by exact (rfl : _ = [_, _, _, _, _]))) ?_
                      refine s_nil (n_n (w_ret (b_r (b_r (n_r (n_r (b_r (n_r ?_))))))))
                      -- end 17
                      refine r_r (ra_cell (by exact (rfl : _ = some (D.agg [_, _, _, _, _]))) ra_nil) (by first | exact (rfl : _ = D.agg [_, _, _, _, _]) | exact rfl) (by exact rfl) sub_no ?_
                      rw [read_other (hR.symm.trans (read_no hlt hc hq))]; rfl
                  · have hq : ¬ (s[i].toNat = 46 ∧ pt = false ∧ 0 < many ∧ i + 1 < s.length) := fun x => by rw [x.2.1] at h60; simp at h60
                    refine s_off rfl rfl ?_
                    refine s_off rfl rfl ?_
                    refine s_q rfl rfl (q_pickF rfl rfl (is_sc rfl)) ?_
                    refine s_q rfl rfl (q_mv (.inl rfl) (is_sc rfl)) ?_
                    refine s_off rfl rfl ?_
                    refine s_off rfl rfl ?_
                    refine s_off rfl rfl ?_
                    refine s_off rfl rfl ?_
                    refine s_off rfl rfl ?_
                    refine s_q rfl rfl (q_pickF rfl rfl (is_sc rfl)) ?_
                    refine s_q rfl rfl (q_mv (.inr rfl) (is_sc rfl)) ?_
                    refine s_nil (n_n (w_ifF rfl (w_seq (w_reg (s_q rfl rfl (q_mv (.inl rfl) (is_sc rfl)) ?_)))))
                    refine s_q rfl rfl (q_call rfl rfl rfl rfl (pf_other _ hl)) ?_
                    refine s_u rfl rfl (as_st rfl rfl (by first | exact (rfl : _ = D.agg [_, _, _, _, _]) | exact rfl) rfl (by exact rfl) (by exact rfl) (by exact Nat.le_of_ble_eq_true rfl) (by exact (rfl : _ = [_, _, _, _, _]))) ?_
                    refine s_nil (n_n (w_ret (b_r (b_r (n_r (n_r (b_r (n_r ?_))))))))
                    -- end 18
                    refine r_r (ra_cell (by exact (rfl : _ = some (D.agg [_, _, _, _, _]))) ra_nil) (by first | exact (rfl : _ = D.agg [_, _, _, _, _]) | exact rfl) (by exact rfl) sub_no ?_
                    rw [read_other (hR.symm.trans (read_no hlt hc hq))]; rfl
                · have hq : ¬ (s[i].toNat = 46 ∧ pt = false ∧ 0 < many ∧ i + 1 < s.length) := fun x => by have := of_decide_eq_false h56; have := x.1; omega
                  refine s_off rfl rfl ?_
                  refine s_off rfl rfl ?_
                  refine s_q rfl rfl (q_pickF rfl rfl (is_sc rfl)) ?_
                  refine s_q rfl rfl (q_mv (.inl rfl) (is_sc rfl)) ?_
                  refine s_off rfl rfl ?_
                  refine s_off rfl rfl ?_
                  refine s_q rfl rfl (q_pickF rfl rfl (is_sc rfl)) ?_
                  refine s_q rfl rfl (q_mv (.inl rfl) (is_sc rfl)) ?_
                  refine s_off rfl rfl ?_
                  refine s_off rfl rfl ?_
                  refine s_off rfl rfl ?_
                  refine s_off rfl rfl ?_
                  refine s_off rfl rfl ?_
                  refine s_q rfl rfl (q_pickF rfl rfl (is_sc rfl)) ?_
                  refine s_q rfl rfl (q_mv (.inr rfl) (is_sc rfl)) ?_
                  refine s_nil (n_n (w_ifF rfl (w_seq (w_reg (s_q rfl rfl (q_mv (.inl rfl) (is_sc rfl)) ?_)))))
                  refine s_q rfl rfl (q_call rfl rfl rfl rfl (pf_other _ hl)) ?_
                  refine s_u rfl rfl (as_st rfl rfl (by first | exact (rfl : _ = D.agg [_, _, _, _, _]) | exact rfl) rfl (by exact rfl) (by exact rfl) (by exact Nat.le_of_ble_eq_true rfl) (by exact (rfl : _ = [_, _, _, _, _]))) ?_
                  refine s_nil (n_n (w_ret (b_r (b_r (n_r (n_r (b_r (n_r ?_))))))))
                  -- end 19
                  refine r_r (ra_cell (by exact (rfl : _ = some (D.agg [_, _, _, _, _]))) ra_nil) (by first | exact (rfl : _ = D.agg [_, _, _, _, _]) | exact rfl) (by exact rfl) sub_no ?_
                  rw [read_other (hR.symm.trans (read_no hlt hc hq))]; rfl
            · have hc : ¬ (48 ≤ s[i].toNat ∧ s[i].toNat ≤ 57 ∧ many < 12) := by have := of_decide_eq_false h38; omega
              refine s_off rfl rfl ?_
              refine s_off rfl rfl ?_
              refine s_q rfl rfl (q_pickF rfl rfl (is_sc rfl)) ?_
              refine s_q rfl rfl (q_mv (.inr rfl) (is_sc rfl)) ?_
              refine s_nil (n_n (w_ifF rfl (w_seq (w_reg (s_q rfl rfl (q_mv (.inl rfl) (is_sc rfl)) ?_)))))
              refine s_q rfl rfl (q_eql rfl rfl rfl) ?_
              refine s_q rfl rfl (q_mv (.inl rfl) (is_sc rfl)) ?_
              refine s_split 56 (is_scb rfl) (fun h56 => ?_) (fun h56 => ?_)
              · have c46 : s[i].toNat = 46 := by have := of_decide_eq_true h56; omega
                refine s_q rfl rfl (q_mv (.inl rfl) (is_sc rfl)) ?_
                refine s_q rfl rfl (q_not rfl rfl) ?_
                refine s_q rfl rfl (q_pickT rfl rfl (is_sc rfl)) ?_
                refine s_q rfl rfl (q_mv (.inl rfl) (is_sc rfl)) ?_
                refine s_split 60 (is_scb rfl) (fun h60 => ?_) (fun h60 => ?_)
                · have hp0 : pt = false := by simpa using h60
                  refine s_q rfl rfl (q_mv (.inl rfl) (is_sc rfl)) ?_
                  refine s_q rfl rfl (q_gtr rfl rfl rfl) ?_
                  refine s_q rfl rfl (q_pickT rfl rfl (is_sc rfl)) ?_
                  refine s_q rfl rfl (q_mv (.inl rfl) (is_sc rfl)) ?_
                  refine s_split 64 (is_scb rfl) (fun h64 => ?_) (fun h64 => ?_)
                  · have c0 : 0 < many := by have := of_decide_eq_true h64; omega
                    refine s_q rfl rfl (q_mv (.inl rfl) (is_sc rfl)) ?_
                    refine s_q rfl rfl (q_add rfl rfl rfl) ?_
                    refine s_q rfl rfl (q_mv (.inl rfl) (is_sc rfl)) ?_
                    refine s_q rfl rfl (q_lens rfl rfl) ?_
                    refine s_q rfl rfl (q_lss rfl rfl rfl) ?_
                    refine s_q rfl rfl (q_pickT rfl rfl (is_sc rfl)) ?_
                    refine s_q rfl rfl (q_mv (.inr rfl) (is_sc rfl)) ?_
                    refine s_nil (n_n (w_if (is_scb rfl) (fun h53 => ?_) (fun h53 => ?_)))
                    · have cl : i + 1 < s.length := by have := of_decide_eq_true h53; rw [wrap_nat (by omega)] at this; omega
                      refine w_reg (s_q rfl rfl (q_mv (.inr rfl) (is_sc rfl)) ?_)
                      refine s_nil (b_n (b_n (n_n (w_reg (s_q rfl rfl (q_mv (.inl rfl) (is_sc rfl)) ?_)))))
                      refine s_q rfl rfl (q_add rfl rfl rfl) ?_
                      refine s_q rfl rfl (q_mv (.inr rfl) (is_sc rfl)) ?_
                      refine s_nil (n_n ?_)
                      have hw : IntKind.i64.wrap ((i : Int) + 1) = ((i + 1 : Nat) : Int) := wrap_nat (by omega)
                      rw [read_pt hlt c46 hp0 c0 cl] at hR
                      refine ⟨⟨i + 1, many, n, d, true, hlt, hm12, hn0, hn1, hd0, hd1, hR, ⟨rfl, rfl, i64_eq hw, rfl, rfl, rfl, rfl, rfl, trivial⟩, rfl⟩, ?_⟩
                      show s.length - (IntKind.i64.wrap ((i : Int) + 1)).toNat < s.length - (i : Int).toNat
                      rw [hw]; omega
                    · have hq : ¬ (s[i].toNat = 46 ∧ pt = false ∧ 0 < many ∧ i + 1 < s.length) := fun x => by have := of_decide_eq_false h53; rw [wrap_nat (by omega)] at this; have := x.2.2.2; omega
                      refine w_seq (w_reg (s_q rfl rfl (q_mv (.inl rfl) (is_sc rfl)) ?_))
                      refine s_q rfl rfl (q_call rfl rfl rfl rfl (pf_other _ hl)) ?_
                      refine s_u rfl rfl (as_st rfl rfl (by first | exact (rfl : _ = D.agg [_, _, _, _, _]) | exact rfl) rfl (by exact rfl) (by exact rfl) (by exact Nat.le_of_ble_eq_true rfl) (by exact (rfl : _ = [_, _, _, _, _]))) ?_
                      refine s_nil (n_n (w_ret (b_r (b_r (n_r (n_r (b_r (n_r ?_))))))))
                      -- end 20
                      refine r_r (ra_cell (by exact (rfl : _ = some (D.agg [_, _, _, _, _]))) ra_nil) (by first | exact (rfl : _ = D.agg [_, _, _, _, _]) | exact rfl) (by exact rfl) sub_no ?_
                      rw [read_other (hR.symm.trans (read_no hlt hc hq))]; rfl
                  · have hq : ¬ (s[i].toNat = 46 ∧ pt = false ∧ 0 < many ∧ i + 1 < s.length) := fun x => by have := of_decide_eq_false h64; have := x.2.2.1; omega
                    refine s_off rfl rfl ?_
                    refine s_off rfl rfl ?_
                    refine s_off rfl rfl ?_
                    refine s_off rfl rfl ?_
                    refine s_off rfl rfl ?_
                    refine s_q rfl rfl (q_pickF rfl rfl (is_sc rfl)) ?_
                    refine s_q rfl rfl (q_mv (.inr rfl) (is_sc rfl)) ?_
                    refine s_nil (n_n (w_ifF rfl (w_seq (w_reg (s_q rfl rfl (q_mv (.inl rfl) (is_sc rfl)) ?_)))))
                    refine s_q rfl rfl (q_call rfl rfl rfl rfl (pf_other _ hl)) ?_
                    refine s_u rfl rfl (as_st rfl rfl (by first | exact (rfl : _ = D.agg [_, _, _, _, _]) | exact rfl) rfl (by exact rfl) (by exact rfl) (by exact Nat.le_of_ble_eq_true rfl) (by exact (rfl : _ = [_, _, _, _, _]))) ?_
                    refine s_nil (n_n (w_ret (b_r (b_r (n_r (n_r (b_r (n_r ?_))))))))
                    -- end 21
                    refine r_r (ra_cell (by exact (rfl : _ = some (D.agg [_, _, _, _, _]))) ra_nil) (by first | exact (rfl : _ = D.agg [_, _, _, _, _]) | exact rfl) (by exact rfl) sub_no ?_
                    rw [read_other (hR.symm.trans (read_no hlt hc hq))]; rfl
                · have hq : ¬ (s[i].toNat = 46 ∧ pt = false ∧ 0 < many ∧ i + 1 < s.length) := fun x => by rw [x.2.1] at h60; simp at h60
                  refine s_off rfl rfl ?_
                  refine s_off rfl rfl ?_
                  refine s_q rfl rfl (q_pickF rfl rfl (is_sc rfl)) ?_
                  refine s_q rfl rfl (q_mv (.inl rfl) (is_sc rfl)) ?_
                  refine s_off rfl rfl ?_
                  refine s_off rfl rfl ?_
                  refine s_off rfl rfl ?_
                  refine s_off rfl rfl ?_
                  refine s_off rfl rfl ?_
                  refine s_q rfl rfl (q_pickF rfl rfl (is_sc rfl)) ?_
                  refine s_q rfl rfl (q_mv (.inr rfl) (is_sc rfl)) ?_
                  refine s_nil (n_n (w_ifF rfl (w_seq (w_reg (s_q rfl rfl (q_mv (.inl rfl) (is_sc rfl)) ?_)))))
                  refine s_q rfl rfl (q_call rfl rfl rfl rfl (pf_other _ hl)) ?_
                  refine s_u rfl rfl (as_st rfl rfl (by first | exact (rfl : _ = D.agg [_, _, _, _, _]) | exact rfl) rfl (by exact rfl) (by exact rfl) (by exact Nat.le_of_ble_eq_true rfl) (by exact (rfl : _ = [_, _, _, _, _]))) ?_
                  refine s_nil (n_n (w_ret (b_r (b_r (n_r (n_r (b_r (n_r ?_))))))))
                  -- end 22
                  refine r_r (ra_cell (by exact (rfl : _ = some (D.agg [_, _, _, _, _]))) ra_nil) (by first | exact (rfl : _ = D.agg [_, _, _, _, _]) | exact rfl) (by exact rfl) sub_no ?_
                  rw [read_other (hR.symm.trans (read_no hlt hc hq))]; rfl
              · have hq : ¬ (s[i].toNat = 46 ∧ pt = false ∧ 0 < many ∧ i + 1 < s.length) := fun x => by have := of_decide_eq_false h56; have := x.1; omega
                refine s_off rfl rfl ?_
                refine s_off rfl rfl ?_
                refine s_q rfl rfl (q_pickF rfl rfl (is_sc rfl)) ?_
                refine s_q rfl rfl (q_mv (.inl rfl) (is_sc rfl)) ?_
                refine s_off rfl rfl ?_
                refine s_off rfl rfl ?_
                refine s_q rfl rfl (q_pickF rfl rfl (is_sc rfl)) ?_
                refine s_q rfl rfl (q_mv (.inl rfl) (is_sc rfl)) ?_
                refine s_off rfl rfl ?_
                refine s_off rfl rfl ?_
                refine s_off rfl rfl ?_
                refine s_off rfl rfl ?_
                refine s_off rfl rfl ?_
                refine s_q rfl rfl (q_pickF rfl rfl (is_sc rfl)) ?_
                refine s_q rfl rfl (q_mv (.inr rfl) (is_sc rfl)) ?_
                refine s_nil (n_n (w_ifF rfl (w_seq (w_reg (s_q rfl rfl (q_mv (.inl rfl) (is_sc rfl)) ?_)))))
                refine s_q rfl rfl (q_call rfl rfl rfl rfl (pf_other _ hl)) ?_
                refine s_u rfl rfl (as_st rfl rfl (by first | exact (rfl : _ = D.agg [_, _, _, _, _]) | exact rfl) rfl (by exact rfl) (by exact rfl) (by exact Nat.le_of_ble_eq_true rfl) (by exact (rfl : _ = [_, _, _, _, _]))) ?_
                refine s_nil (n_n (w_ret (b_r (b_r (n_r (n_r (b_r (n_r ?_))))))))
                -- end 23
                refine r_r (ra_cell (by exact (rfl : _ = some (D.agg [_, _, _, _, _]))) ra_nil) (by first | exact (rfl : _ = D.agg [_, _, _, _, _]) | exact rfl) (by exact rfl) sub_no ?_
                rw [read_other (hR.symm.trans (read_no hlt hc hq))]; rfl
          · have hc : ¬ (48 ≤ s[i].toNat ∧ s[i].toNat ≤ 57 ∧ many < 12) := by have := of_decide_eq_false h34; omega
            refine s_off rfl rfl ?_
            refine s_off rfl rfl ?_
            refine s_q rfl rfl (q_pickF rfl rfl (is_sc rfl)) ?_
            refine s_q rfl rfl (q_mv (.inl rfl) (is_sc rfl)) ?_
            refine s_off rfl rfl ?_
            refine s_off rfl rfl ?_
            refine s_q rfl rfl (q_pickF rfl rfl (is_sc rfl)) ?_
            refine s_q rfl rfl (q_mv (.inr rfl) (is_sc rfl)) ?_
            refine s_nil (n_n (w_ifF rfl (w_seq (w_reg (s_q rfl rfl (q_mv (.inl rfl) (is_sc rfl)) ?_)))))
            refine s_q rfl rfl (q_eql rfl rfl rfl) ?_
            refine s_q rfl rfl (q_mv (.inl rfl) (is_sc rfl)) ?_
            refine s_split 56 (is_scb rfl) (fun h56 => ?_) (fun h56 => ?_)
            · have c46 : s[i].toNat = 46 := by have := of_decide_eq_true h56; omega
              refine s_q rfl rfl (q_mv (.inl rfl) (is_sc rfl)) ?_
              refine s_q rfl rfl (q_not rfl rfl) ?_
              refine s_q rfl rfl (q_pickT rfl rfl (is_sc rfl)) ?_
              refine s_q rfl rfl (q_mv (.inl rfl) (is_sc rfl)) ?_
              refine s_split 60 (is_scb rfl) (fun h60 => ?_) (fun h60 => ?_)
              · have hp0 : pt = false := by simpa using h60
                refine s_q rfl rfl (q_mv (.inl rfl) (is_sc rfl)) ?_
                refine s_q rfl rfl (q_gtr rfl rfl rfl) ?_
                refine s_q rfl rfl (q_pickT rfl rfl (is_sc rfl)) ?_
                refine s_q rfl rfl (q_mv (.inl rfl) (is_sc rfl)) ?_
                refine s_split 64 (is_scb rfl) (fun h64 => ?_) (fun h64 => ?_)
                · have c0 : 0 < many := by have := of_decide_eq_true h64; omega
                  refine s_q rfl rfl (q_mv (.inl rfl) (is_sc rfl)) ?_
                  refine s_q rfl rfl (q_add rfl rfl rfl) ?_
                  refine s_q rfl rfl (q_mv (.inl rfl) (is_sc rfl)) ?_
                  refine s_q rfl rfl (q_lens rfl rfl) ?_
                  refine s_q rfl rfl (q_lss rfl rfl rfl) ?_
                  refine s_q rfl rfl (q_pickT rfl rfl (is_sc rfl)) ?_
                  refine s_q rfl rfl (q_mv (.inr rfl) (is_sc rfl)) ?_
                  refine s_nil (n_n (w_if (is_scb rfl) (fun h53 => ?_) (fun h53 => ?_)))
                  · have cl : i + 1 < s.length := by have := of_decide_eq_true h53; rw [wrap_nat (by omega)] at this; omega
                    refine w_reg (s_q rfl rfl (q_mv (.inr rfl) (is_sc rfl)) ?_)
                    refine s_nil (b_n (b_n (n_n (w_reg (s_q rfl rfl (q_mv (.inl rfl) (is_sc rfl)) ?_)))))
                    refine s_q rfl rfl (q_add rfl rfl rfl) ?_
                    refine s_q rfl rfl (q_mv (.inr rfl) (is_sc rfl)) ?_
                    refine s_nil (n_n ?_)
                    have hw : IntKind.i64.wrap ((i : Int) + 1) = ((i + 1 : Nat) : Int) := wrap_nat (by omega)
                    rw [read_pt hlt c46 hp0 c0 cl] at hR
                    refine ⟨⟨i + 1, many, n, d, true, hlt, hm12, hn0, hn1, hd0, hd1, hR, ⟨rfl, rfl, i64_eq hw, rfl, rfl, rfl, rfl, rfl, trivial⟩, rfl⟩, ?_⟩
                    show s.length - (IntKind.i64.wrap ((i : Int) + 1)).toNat < s.length - (i : Int).toNat
                    rw [hw]; omega
                  · have hq : ¬ (s[i].toNat = 46 ∧ pt = false ∧ 0 < many ∧ i + 1 < s.length) := fun x => by have := of_decide_eq_false h53; rw [wrap_nat (by omega)] at this; have := x.2.2.2; omega
                    refine w_seq (w_reg (s_q rfl rfl (q_mv (.inl rfl) (is_sc rfl)) ?_))
                    refine s_q rfl rfl (q_call rfl rfl rfl rfl (pf_other _ hl)) ?_
                    refine s_u rfl rfl (as_st rfl rfl (by first | exact (rfl : _ = D.agg [_, _, _, _, _]) | exact rfl) rfl (by exact rfl) (by exact rfl) (by exact Nat.le_of_ble_eq_true rfl) (by exact (rfl : _ = [_, _, _, _, _]))) ?_
                    refine s_nil (n_n (w_ret (b_r (b_r (n_r (n_r (b_r (n_r ?_))))))))
                    -- end 24
                    refine r_r (ra_cell (by exact (rfl : _ = some (D.agg [_, _, _, _, _]))) ra_nil) (by first | exact (rfl : _ = D.agg [_, _, _, _, _]) | exact rfl) (by exact rfl) sub_no ?_
                    rw [read_other (hR.symm.trans (read_no hlt hc hq))]; rfl
                · have hq : ¬ (s[i].toNat = 46 ∧ pt = false ∧ 0 < many ∧ i + 1 < s.length) := fun x => by have := of_decide_eq_false h64; have := x.2.2.1; omega
                  refine s_off rfl rfl ?_
                  refine s_off rfl rfl ?_
                  refine s_off rfl rfl ?_
                  refine s_off rfl rfl ?_
                  refine s_off rfl rfl ?_
                  refine s_q rfl rfl (q_pickF rfl rfl (is_sc rfl)) ?_
                  refine s_q rfl rfl (q_mv (.inr rfl) (is_sc rfl)) ?_
                  refine s_nil (n_n (w_ifF rfl (w_seq (w_reg (s_q rfl rfl (q_mv (.inl rfl) (is_sc rfl)) ?_)))))
                  refine s_q rfl rfl (q_call rfl rfl rfl rfl (pf_other _ hl)) ?_
                  refine s_u rfl rfl (as_st rfl rfl (by first | exact (rfl : _ = D.agg [_, _, _, _, _]) | exact rfl) rfl (by exact rfl) (by exact rfl) (by exact Nat.le_of_ble_eq_true rfl) (by exact (rfl : _ = [_, _, _, _, _]))) ?_
                  refine s_nil (n_n (w_ret (b_r (b_r (n_r (n_r (b_r (n_r ?_))))))))
                  -- end 25
                  refine r_r (ra_cell (by exact (rfl : _ = some (D.agg [_, _, _, _, _]))) ra_nil) (by first | exact (rfl : _ = D.agg [_, _, _, _, _]) | exact rfl) (by exact rfl) sub_no ?_
                  rw [read_other (hR.symm.trans (read_no hlt hc hq))]; rfl
              · have hq : ¬ (s[i].toNat = 46 ∧ pt = false ∧ 0 < many ∧ i + 1 < s.length) := fun x => by rw [x.2.1] at h60; simp at h60
                refine s_off rfl rfl ?_
                refine s_off rfl rfl ?_
                refine s_q rfl rfl (q_pickF rfl rfl (is_sc rfl)) ?_
                refine s_q rfl rfl (q_mv (.inl rfl) (is_sc rfl)) ?_
                refine s_off rfl rfl ?_
                refine s_off rfl rfl ?_
                refine s_off rfl rfl ?_
                refine s_off rfl rfl ?_
                refine s_off rfl rfl ?_
                refine s_q rfl rfl (q_pickF rfl rfl (is_sc rfl)) ?_
                refine s_q rfl rfl (q_mv (.inr rfl) (is_sc rfl)) ?_
                refine s_nil (n_n (w_ifF rfl (w_seq (w_reg (s_q rfl rfl (q_mv (.inl rfl) (is_sc rfl)) ?_)))))
                refine s_q rfl rfl (q_call rfl rfl rfl rfl (pf_other _ hl)) ?_
                refine s_u rfl rfl (as_st rfl rfl (by first | exact (rfl : _ = D.agg [_, _, _, _, _]) | exact rfl) rfl (by exact rfl) (by exact rfl) (by exact Nat.le_of_ble_eq_true rfl) (by exact (rfl : _ = [_, _, _, _, _]))) ?_
                refine s_nil (n_n (w_ret (b_r (b_r (n_r (n_r (b_r (n_r ?_))))))))
                -- end 26
                refine r_r (ra_cell (by exact (rfl : _ = some (D.agg [_, _, _, _, _]))) ra_nil) (by first | exact (rfl : _ = D.agg [_, _, _, _, _]) | exact rfl) (by exact rfl) sub_no ?_
                rw [read_other (hR.symm.trans (read_no hlt hc hq))]; rfl
            · have hq : ¬ (s[i].toNat = 46 ∧ pt = false ∧ 0 < many ∧ i + 1 < s.length) := fun x => by have := of_decide_eq_false h56; have := x.1; omega
              refine s_off rfl rfl ?_
              refine s_off rfl rfl ?_
              refine s_q rfl rfl (q_pickF rfl rfl (is_sc rfl)) ?_
              refine s_q rfl rfl (q_mv (.inl rfl) (is_sc rfl)) ?_
              refine s_off rfl rfl ?_
              refine s_off rfl rfl ?_
              refine s_q rfl rfl (q_pickF rfl rfl (is_sc rfl)) ?_
              refine s_q rfl rfl (q_mv (.inl rfl) (is_sc rfl)) ?_
              refine s_off rfl rfl ?_
              refine s_off rfl rfl ?_
              refine s_off rfl rfl ?_
              refine s_off rfl rfl ?_
              refine s_off rfl rfl ?_
              refine s_q rfl rfl (q_pickF rfl rfl (is_sc rfl)) ?_
              refine s_q rfl rfl (q_mv (.inr rfl) (is_sc rfl)) ?_
              refine s_nil (n_n (w_ifF rfl (w_seq (w_reg (s_q rfl rfl (q_mv (.inl rfl) (is_sc rfl)) ?_)))))
              refine s_q rfl rfl (q_call rfl rfl rfl rfl (pf_other _ hl)) ?_
              refine s_u rfl rfl (as_st rfl rfl (by first | exact (rfl : _ = D.agg [_, _, _, _, _]) | exact rfl) rfl (by exact rfl) (by exact rfl) (by exact Nat.le_of_ble_eq_true rfl) (by exact (rfl : _ = [_, _, _, _, _]))) ?_
              refine s_nil (n_n (w_ret (b_r (b_r (n_r (n_r (b_r (n_r ?_))))))))
              -- end 27
              refine r_r (ra_cell (by exact (rfl : _ = some (D.agg [_, _, _, _, _]))) ra_nil) (by first | exact (rfl : _ = D.agg [_, _, _, _, _]) | exact rfl) (by exact rfl) sub_no ?_
              rw [read_other (hR.symm.trans (read_no hlt hc hq))]; rfl
        · have hge : s.length ≤ i := by have := of_decide_eq_false h23; omega
          have hfin := read_end (hR.symm.trans (show readL (s.drop i) n many d pt = some (n, many, d) by rw [List.drop_eq_nil_of_le hge]; rfl))
          have t2 := ten_le hm12
          refine w_exit (n_e (n_e (b_hit (n_n (w_seq (w_seq (w_reg (s_q rfl rfl (q_mv (.inl rfl) (is_sc rfl)) ?_))))))))
          refine s_q rfl rfl (q_eql rfl rfl rfl) ?_
          refine s_q rfl rfl (q_mv (.inl rfl) (is_sc rfl)) ?_
          refine s_split 73 (is_scb rfl) (fun h73 => ?_) (fun h73 => ?_)
          · refine s_off rfl rfl ?_
            refine s_off rfl rfl ?_
            refine s_q rfl rfl (q_pickT rfl rfl (is_sc rfl)) ?_
            refine s_nil (n_n (w_ifT rfl (w_seq (w_reg (s_q rfl rfl (q_mv (.inl rfl) (is_sc rfl)) ?_)))))
            refine s_q rfl rfl (q_call rfl rfl rfl rfl (pf_other _ hl)) ?_
            refine s_u rfl rfl (as_st rfl rfl (by first | exact (rfl : _ = D.agg [_, _, _, _, _]) | exact rfl) rfl (by exact rfl) (by exact rfl) (by exact Nat.le_of_ble_eq_true rfl) (by exact (rfl : _ = [_, _, _, _, _]))) ?_
            refine s_nil (n_n (w_ret (n_r ?_)))
            -- end 28
            refine r_r (ra_cell (by exact (rfl : _ = some (D.agg [_, _, _, _, _]))) ra_nil) (by first | exact (rfl : _ = D.agg [_, _, _, _, _]) | exact rfl) (by exact rfl) sub_no ?_
            rw [hfin, if_pos (.inl (by have := of_decide_eq_true h73; omega))]; rfl
          · have m1 : ¬ many = 0 := by have := of_decide_eq_false h73; omega
            refine s_q rfl rfl (q_mv (.inl rfl) (is_sc rfl)) ?_
            refine s_q rfl rfl (q_gtr rfl rfl rfl) ?_
            refine s_q rfl rfl (q_pickF rfl rfl (is_sc rfl)) ?_
            refine s_nil (n_n (w_if (is_scb rfl) (fun h76 => ?_) (fun h76 => ?_)))
            · refine w_seq (w_reg (s_q rfl rfl (q_mv (.inl rfl) (is_sc rfl)) ?_))
              refine s_q rfl rfl (q_call rfl rfl rfl rfl (pf_other _ hl)) ?_
              refine s_u rfl rfl (as_st rfl rfl (by first | exact (rfl : _ = D.agg [_, _, _, _, _]) | exact rfl) rfl (by exact rfl) (by exact rfl) (by exact Nat.le_of_ble_eq_true rfl) (by exact (rfl : _ = [_, _, _, _, _]))) ?_
              refine s_nil (n_n (w_ret (n_r ?_)))
              -- end 29
              refine r_r (ra_cell (by exact (rfl : _ = some (D.agg [_, _, _, _, _]))) ra_nil) (by first | exact (rfl : _ = D.agg [_, _, _, _, _]) | exact rfl) (by exact rfl) sub_no ?_
              rw [hfin, if_pos (.inr (of_decide_eq_true h76))]; rfl
            · have m2 : d ≤ 100000 := by have := of_decide_eq_false h76; omega
              have w7 : IntKind.i64.wrap (0 - n) = -n := by rw [wrap_id (by omega) (by omega)]; omega
              refine w_skip (n_n (w_seq (w_seq (w_reg (s_q rfl rfl (q_mv (.inl rfl) (is_sc rfl)) ?_)))))
              refine s_nil (n_n (w_if (is_scb rfl) (fun h79 => ?_) (fun h79 => ?_)))
              · refine w_reg (s_q rfl rfl (q_mv (.inl rfl) (is_sc rfl)) ?_)
                refine s_q rfl rfl (q_as (i64_eq w7) (q_neg rfl rfl)) ?_
                refine s_q rfl rfl (q_mv (.inr rfl) (is_sc rfl)) ?_
                refine s_nil (n_n (w_seq (w_reg (s_q rfl rfl (q_mv (.inl rfl) (is_sc rfl)) ?_))))
                refine s_q rfl rfl (q_mv (.inl rfl) (is_sc rfl)) ?_
                refine s_q rfl rfl (q_call rfl rfl rfl rfl (pf_fracD _ _ (by omega) (by omega) (by omega) (by omega))) ?_
                refine s_u rfl rfl (as_st rfl rfl (by first | exact (rfl : _ = D.agg [_, _, _, _, _]) | exact rfl) rfl (by exact rfl) (by exact rfl) (by exact Nat.le_of_ble_eq_true rfl) (by exact (rfl : _ = [_, _, _, _, _]))) ?_
                refine s_nil (n_n (w_ret ?_))
                -- end 30
                refine r_r (ra_cell (by exact (rfl : _ = some (D.agg [_, _, _, _, _]))) ra_nil) (by first | exact (rfl : _ = D.agg [_, _, _, _, _]) | exact rfl) (by exact rfl) sub_no ?_
                rw [hfin, if_neg (by omega), if_pos (of_decide_eq_true h79)]; rfl
              · refine w_skip (n_n (w_seq (w_reg (s_q rfl rfl (q_mv (.inl rfl) (is_sc rfl)) ?_))))
                refine s_q rfl rfl (q_mv (.inl rfl) (is_sc rfl)) ?_
                refine s_q rfl rfl (q_call rfl rfl rfl rfl (pf_fracD _ _ (by omega) (by omega) (by omega) (by omega))) ?_
                refine s_u rfl rfl (as_st rfl rfl (by first | exact (rfl : _ = D.agg [_, _, _, _, _]) | exact rfl) rfl (by exact rfl) (by exact rfl) (by exact Nat.le_of_ble_eq_true rfl) (by exact (rfl : _ = [_, _, _, _, _]))) ?_
                refine s_nil (n_n (w_ret ?_))
                -- end 31
                refine r_r (ra_cell (by exact (rfl : _ = some (D.agg [_, _, _, _, _]))) ra_nil) (by first | exact (rfl : _ = D.agg [_, _, _, _, _]) | exact rfl) (by exact rfl) sub_no ?_
                rw [hfin, if_neg (by omega), if_neg (of_decide_eq_false h79)]; rfl
  · have hm := head_nil (s := s) (by have := of_decide_eq_false h14; omega)
    have hsk := skip_no hm
    have h0i : 0 ≤ s.length := Nat.zero_le _
    refine s_off rfl rfl ?_
    refine s_off rfl rfl ?_
    refine s_off rfl rfl ?_
    refine s_off rfl rfl ?_
    refine s_q rfl rfl (q_pickF rfl rfl (is_sc rfl)) ?_
    refine s_nil (n_n (w_ifF rfl (w_skip (n_n (w_seq (w_reg (s_q rfl rfl (q_mv (.inr rfl) (is_sc rfl)) ?_)))))))
    refine s_q rfl rfl (q_mv (.inr rfl) (is_sc rfl)) ?_
    refine s_q rfl rfl (q_mv (.inr rfl) (is_sc rfl)) ?_
    refine s_q rfl rfl (q_mv (.inr rfl) (is_sc rfl)) ?_
    refine s_nil (n_n (w_seq (w_block ?_)))
    refine w_loop (fun env A => ∃ (i many : Nat) (n d : Int) (pt : Bool), i ≤ s.length ∧ many ≤ 12 ∧ 0 ≤ n ∧ n < ((10 ^ many : Nat) : Int) ∧ 1 ≤ d ∧ d ≤ ((10 ^ many : Nat) : Int) ∧ readL (s.drop i) n many d pt = readL (skipS s) 0 0 1 false ∧ Binds env [(0, st s), (2, .box 0 0), (3, i64 i), (4, bl (decide (s.head? = some 45))), (5, i64 n), (6, i64 many), (7, i64 d), (8, bl pt)] ∧ A = (AH.start noHeap).push (.cells [.sc (.int .i64 0), .sc (.int .i64 0), .sc (.int .i64 0), .sc (.string ⟨⟨[]⟩⟩), .sc (.slice none 0 0)])) (fun env _ => s.length - ctr (env 3)) ?_ ?_
    · exact ⟨_, 0, 0, 1, false, h0i, by omega, by omega, by decide, by omega, by decide, by rw [hsk], ⟨rfl, rfl, rfl, by rw [hm]; rfl, rfl, rfl, rfl, rfl, trivial⟩, rfl⟩
    · clear hsk h0i
      rintro env A ⟨i, many, n, d, pt, hi, hm12, hn0, hn1, hd0, hd1, hR, hB, rfl⟩
      rw [hB.eq]; clear hB
      refine w_seq (w_seq (w_reg (s_q rfl rfl (q_mv (.inl rfl) (is_sc rfl)) ?_)))
      refine s_q rfl rfl (q_mv (.inl rfl) (is_sc rfl)) ?_
      refine s_q rfl rfl (q_lens rfl rfl) ?_
      refine s_q rfl rfl (q_lss rfl rfl rfl) ?_
      refine s_nil (n_n (w_if (is_scb rfl) (fun h23 => ?_) (fun h23 => ?_)))
      · have hlt : i < s.length := by have := of_decide_eq_true h23; omega
        have hby : s.getD (i : Int).toNat 0 = s[i] := byte_at hlt
        have hc256 : s[i].toNat < 256 := s[i].toNat_lt
        refine w_skip (n_n (w_seq (w_block (w_seq (w_reg (s_q rfl rfl (q_mv (.inl rfl) (is_sc rfl)) ?_))))))
        refine s_q rfl rfl (q_mv (.inl rfl) (is_sc rfl)) ?_
        refine s_q rfl rfl (q_as (u8_eq (by rw [hby])) (q_byte rfl rfl rfl (Int.natCast_nonneg _) (by omega))) ?_
        refine s_q rfl rfl (q_mv (.inr rfl) (is_sc rfl)) ?_
        refine s_nil (n_n (w_block (w_seq (w_reg (s_q rfl rfl (q_mv (.inl rfl) (is_sc rfl)) ?_)))))
        refine s_q rfl rfl (q_geq rfl rfl rfl) ?_
        refine s_q rfl rfl (q_mv (.inl rfl) (is_sc rfl)) ?_
        refine s_split 34 (is_scb rfl) (fun h34 => ?_) (fun h34 => ?_)
        · have c1 : 48 ≤ s[i].toNat := by have := of_decide_eq_true h34; omega
          refine s_q rfl rfl (q_mv (.inl rfl) (is_sc rfl)) ?_
          refine s_q rfl rfl (q_leq rfl rfl rfl) ?_
          refine s_q rfl rfl (q_pickT rfl rfl (is_sc rfl)) ?_
          refine s_q rfl rfl (q_mv (.inl rfl) (is_sc rfl)) ?_
          refine s_split 38 (is_scb rfl) (fun h38 => ?_) (fun h38 => ?_)
          · have c2 : s[i].toNat ≤ 57 := by have := of_decide_eq_true h38; omega
            refine s_q rfl rfl (q_mv (.inl rfl) (is_sc rfl)) ?_
            refine s_q rfl rfl (q_lss rfl rfl rfl) ?_
            refine s_q rfl rfl (q_pickT rfl rfl (is_sc rfl)) ?_
            refine s_q rfl rfl (q_mv (.inr rfl) (is_sc rfl)) ?_
            refine s_nil (n_n (w_if (is_scb rfl) (fun h31 => ?_) (fun h31 => ?_)))
            · have c3 : many < 12 := by have := of_decide_eq_true h31; omega
              have t2 := ten_le hm12
              have t1 := ten_succ many
              have t3 := ten_le (show many + 1 ≤ 12 by omega)
              have w1 : IntKind.i64.wrap (10 * n) = 10 * n := wrap_id (by omega) (by omega)
              have w2 : IntKind.u8.wrap ((s[i].toNat : Int) - 48) = (s[i].toNat : Int) - 48 := by simp [IntKind.wrap, IntKind.signed, IntKind.bits]; omega
              have w3 : IntKind.i64.wrap ((s[i].toNat : Int) - 48) = (s[i].toNat : Int) - 48 := wrap_id (by omega) (by omega)
              have w4 : IntKind.i64.wrap (10 * n + ((s[i].toNat : Int) - 48)) = 10 * n + ((s[i].toNat : Int) - 48) := wrap_id (by omega) (by omega)
              have w5 : IntKind.i64.wrap (d * 10) = d * 10 := wrap_id (by omega) (by omega)
              have w6 : IntKind.i64.wrap ((many : Int) + 1) = ((many + 1 : Nat) : Int) := by rw [wrap_id (by omega) (by omega)]; omega
              clear t1 t2 t3
              refine w_seq (w_reg (s_q rfl rfl (q_mv (.inl rfl) (is_sc rfl)) ?_))
              refine s_q rfl rfl (q_as (i64_eq w1) (q_mul rfl rfl rfl)) ?_
              refine s_q rfl rfl (q_mv (.inl rfl) (is_sc rfl)) ?_
              refine s_q rfl rfl (q_as (u8_eq w2) (q_sub rfl rfl rfl)) ?_
              refine s_q rfl rfl (q_as (i64_eq w3) (q_cii rfl rfl)) ?_
              refine s_q rfl rfl (q_as (i64_eq w4) (q_add rfl rfl rfl)) ?_
              refine s_q rfl rfl (q_mv (.inl rfl) (is_sc rfl)) ?_
              refine s_q rfl rfl (q_as (i64_eq w6) (q_add rfl rfl rfl)) ?_
              refine s_q rfl rfl (q_mv (.inr rfl) (is_sc rfl)) ?_
              refine s_q rfl rfl (q_mv (.inr rfl) (is_sc rfl)) ?_
              refine s_nil (n_n (w_seq (w_reg (s_q rfl rfl (q_mv (.inl rfl) (is_sc rfl)) ?_))))
              refine s_nil (n_n (w_if (is_scb rfl) (fun h50 => ?_) (fun h50 => ?_)))
              · subst h50
                refine w_reg (s_q rfl rfl (q_mv (.inl rfl) (is_sc rfl)) ?_)
                refine s_q rfl rfl (q_as (i64_eq w5) (q_mul rfl rfl rfl)) ?_
                refine s_q rfl rfl (q_mv (.inr rfl) (is_sc rfl)) ?_
                refine s_nil (b_n (b_n (n_n (w_reg (s_q rfl rfl (q_mv (.inl rfl) (is_sc rfl)) ?_)))))
                refine s_q rfl rfl (q_add rfl rfl rfl) ?_
                refine s_q rfl rfl (q_mv (.inr rfl) (is_sc rfl)) ?_
                refine s_nil (n_n ?_)
                have hw : IntKind.i64.wrap ((i : Int) + 1) = ((i + 1 : Nat) : Int) := wrap_nat (by omega)
                have t1 := ten_succ many
                have t2 := ten_le hm12
                rw [read_dig hlt c1 c2 c3] at hR
                refine ⟨⟨i + 1, many + 1, _, _, _, hlt, by omega, ?_, ?_, ?_, ?_, hR, ⟨rfl, rfl, i64_eq hw, rfl, rfl, rfl, rfl, rfl, trivial⟩, rfl⟩, ?_⟩
                · omega
                · rw [t1]; omega
                · simp only [if_true, Bool.false_eq_true, if_false]; omega
                · rw [t1]; simp only [if_true, Bool.false_eq_true, if_false]; omega
                · show s.length - (IntKind.i64.wrap ((i : Int) + 1)).toNat < s.length - (i : Int).toNat
                  rw [hw]; omega
              · subst h50
                refine w_skip (b_n (b_n (n_n (w_reg (s_q rfl rfl (q_mv (.inl rfl) (is_sc rfl)) ?_)))))
                refine s_q rfl rfl (q_add rfl rfl rfl) ?_
                refine s_q rfl rfl (q_mv (.inr rfl) (is_sc rfl)) ?_
                refine s_nil (n_n ?_)
                have hw : IntKind.i64.wrap ((i : Int) + 1) = ((i + 1 : Nat) : Int) := wrap_nat (by omega)
                have t1 := ten_succ many
                have t2 := ten_le hm12
                rw [read_dig hlt c1 c2 c3] at hR
                refine ⟨⟨i + 1, many + 1, _, _, _, hlt, by omega, ?_, ?_, ?_, ?_, hR, ⟨rfl, rfl, i64_eq hw, rfl, rfl, rfl, rfl, rfl, trivial⟩, rfl⟩, ?_⟩
                · omega
                · rw [t1]; omega
                · simp only [if_true, Bool.false_eq_true, if_false]; omega
                · rw [t1]; simp only [if_true, Bool.false_eq_true, if_false]; omega
                · show s.length - (IntKind.i64.wrap ((i : Int) + 1)).toNat < s.length - (i : Int).toNat
                  rw [hw]; omega
            · have hc : ¬ (48 ≤ s[i].toNat ∧ s[i].toNat ≤ 57 ∧ many < 12) := by have := of_decide_eq_false h31; omega
              refine w_seq (w_reg (s_q rfl rfl (q_mv (.inl rfl) (is_sc rfl)) ?_))
              refine s_q rfl rfl (q_eql rfl rfl rfl) ?_
              refine s_q rfl rfl (q_mv (.inl rfl) (is_sc rfl)) ?_
              refine s_split 56 (is_scb rfl) (fun h56 => ?_) (fun h56 => ?_)
              · have c46 : s[i].toNat = 46 := by have := of_decide_eq_true h56; omega
                refine s_q rfl rfl (q_mv (.inl rfl) (is_sc rfl)) ?_
                refine s_q rfl rfl (q_not rfl rfl) ?_
                refine s_q rfl rfl (q_pickT rfl rfl (is_sc rfl)) ?_
                refine s_q rfl rfl (q_mv (.inl rfl) (is_sc rfl)) ?_
                refine s_split 60 (is_scb rfl) (fun h60 => ?_) (fun h60 => ?_)
                · have hp0 : pt = false := by simpa using h60
                  refine s_q rfl rfl (q_mv (.inl rfl) (is_sc rfl)) ?_
                  refine s_q rfl rfl (q_gtr rfl rfl rfl) ?_
                  refine s_q rfl rfl (q_pickT rfl rfl (is_sc rfl)) ?_
                  refine s_q rfl rfl (q_mv (.inl rfl) (is_sc rfl)) ?_
                  refine s_split 64 (is_scb rfl) (fun h64 => ?_) (fun h64 => ?_)
                  · have c0 : 0 < many := by have := of_decide_eq_true h64; omega
                    refine s_q rfl rfl (q_mv (.inl rfl) (is_sc rfl)) ?_
                    refine s_q rfl rfl (q_add rfl rfl rfl) ?_
                    refine s_q rfl rfl (q_mv (.inl rfl) (is_sc rfl)) ?_
                    refine s_q rfl rfl (q_lens rfl rfl) ?_
                    refine s_q rfl rfl (q_lss rfl rfl rfl) ?_
                    refine s_q rfl rfl (q_pickT rfl rfl (is_sc rfl)) ?_
                    refine s_q rfl rfl (q_mv (.inr rfl) (is_sc rfl)) ?_
                    refine s_nil (n_n (w_if (is_scb rfl) (fun h53 => ?_) (fun h53 => ?_)))
                    · have cl : i + 1 < s.length := by have := of_decide_eq_true h53; rw [wrap_nat (by omega)] at this; omega
                      refine w_reg (s_q rfl rfl (q_mv (.inr rfl) (is_sc rfl)) ?_)
                      refine s_nil (b_n (b_n (n_n (w_reg (s_q rfl rfl (q_mv (.inl rfl) (is_sc rfl)) ?_)))))
                      refine s_q rfl rfl (q_add rfl rfl rfl) ?_
                      refine s_q rfl rfl (q_mv (.inr rfl) (is_sc rfl)) ?_
                      refine s_nil (n_n ?_)
                      have hw : IntKind.i64.wrap ((i : Int) + 1) = ((i + 1 : Nat) : Int) := wrap_nat (by omega)
                      rw [read_pt hlt c46 hp0 c0 cl] at hR
                      refine ⟨⟨i + 1, many, n, d, true, hlt, hm12, hn0, hn1, hd0, hd1, hR, ⟨rfl, rfl, i64_eq hw, rfl, rfl, rfl, rfl, rfl, trivial⟩, rfl⟩, ?_⟩
                      show s.length - (IntKind.i64.wrap ((i : Int) + 1)).toNat < s.length - (i : Int).toNat
                      rw [hw]; omega
                    · have hq : ¬ (s[i].toNat = 46 ∧ pt = false ∧ 0 < many ∧ i + 1 < s.length) := fun x => by have := of_decide_eq_false h53; rw [wrap_nat (by omega)] at this; have := x.2.2.2; omega
                      refine w_seq (w_reg (s_q rfl rfl (q_mv (.inl rfl) (is_sc rfl)) ?_))
                      refine s_q rfl rfl (q_call rfl rfl rfl rfl (pf_other _ hl)) ?_
                      refine s_u rfl rfl (as_st rfl rfl (by first | exact (rfl : _ = D.agg [_, _, _, _, _]) | exact rfl) rfl (by exact rfl) (by exact rfl) (by exact Nat.le_of_ble_eq_true rfl) (by exact (rfl : _ = [_, _, _, _, _]))) ?_
                      refine s_nil (n_n (w_ret (b_r (b_r (n_r (n_r (b_r (n_r ?_))))))))
                      -- end 32
                      refine r_r (ra_cell (by exact (rfl : _ = some (D.agg [_, _, _, _, _]))) ra_nil) (by first | exact (rfl : _ = D.agg [_, _, _, _, _]) | exact rfl) (by exact rfl) sub_no ?_
                      rw [read_other (hR.symm.trans (read_no hlt hc hq))]; rfl
                  · have hq : ¬ (s[i].toNat = 46 ∧ pt = false ∧ 0 < many ∧ i + 1 < s.length) := fun x => by have := of_decide_eq_false h64; have := x.2.2.1; omega
                    refine s_off rfl rfl ?_
                    refine s_off rfl rfl ?_
                    refine s_off rfl rfl ?_
                    refine s_off rfl rfl ?_
                    refine s_off rfl rfl ?_
                    refine s_q rfl rfl (q_pickF rfl rfl (is_sc rfl)) ?_
                    refine s_q rfl rfl (q_mv (.inr rfl) (is_sc rfl)) ?_
                    refine s_nil (n_n (w_ifF rfl (w_seq (w_reg (s_q rfl rfl (q_mv (.inl rfl) (is_sc rfl)) ?_)))))
                    refine s_q rfl rfl (q_call rfl rfl rfl rfl (pf_other _ hl)) ?_
                    refine s_u rfl rfl (as_st rfl rfl (by first | exact (rfl : _ = D.agg [_, _, _, _, _]) | exact rfl) rfl (by exact rfl) (by exact rfl) (by exact Nat.le_of_ble_eq_true rfl) (by exact (rfl : _ = [_, _, _, _, _]))) ?_
                    refine s_nil (n_n (w_ret (b_r (b_r (n_r (n_r (b_r (n_r ?_))))))))
                    -- end 33
                    refine r_r (ra_cell (by exact (rfl : _ = some (D.agg [_, _, _, _, _]))) ra_nil) (by first | exact (rfl : _ = D.agg [_, _, _, _, _]) | exact rfl) (by exact rfl) sub_no ?_
                    rw [read_other (hR.symm.trans (read_no hlt hc hq))]; rfl
                · have hq : ¬ (s[i].toNat = 46 ∧ pt = false ∧ 0 < many ∧ i + 1 < s.length) := fun x => by rw [x.2.1] at h60; simp at h60
                  refine s_off rfl rfl ?_
                  refine s_off rfl rfl ?_
                  refine s_q rfl rfl (q_pickF rfl rfl (is_sc rfl)) ?_
                  refine s_q rfl rfl (q_mv (.inl rfl) (is_sc rfl)) ?_
                  refine s_off rfl rfl ?_
                  refine s_off rfl rfl ?_
                  refine s_off rfl rfl ?_
                  refine s_off rfl rfl ?_
                  refine s_off rfl rfl ?_
                  refine s_q rfl rfl (q_pickF rfl rfl (is_sc rfl)) ?_
                  refine s_q rfl rfl (q_mv (.inr rfl) (is_sc rfl)) ?_
                  refine s_nil (n_n (w_ifF rfl (w_seq (w_reg (s_q rfl rfl (q_mv (.inl rfl) (is_sc rfl)) ?_)))))
                  refine s_q rfl rfl (q_call rfl rfl rfl rfl (pf_other _ hl)) ?_
                  refine s_u rfl rfl (as_st rfl rfl (by first | exact (rfl : _ = D.agg [_, _, _, _, _]) | exact rfl) rfl (by exact rfl) (by exact rfl) (by exact Nat.le_of_ble_eq_true rfl) (by exact (rfl : _ = [_, _, _, _, _]))) ?_
                  refine s_nil (n_n (w_ret (b_r (b_r (n_r (n_r (b_r (n_r ?_))))))))
                  -- end 34
                  refine r_r (ra_cell (by exact (rfl : _ = some (D.agg [_, _, _, _, _]))) ra_nil) (by first | exact (rfl : _ = D.agg [_, _, _, _, _]) | exact rfl) (by exact rfl) sub_no ?_
                  rw [read_other (hR.symm.trans (read_no hlt hc hq))]; rfl
              · have hq : ¬ (s[i].toNat = 46 ∧ pt = false ∧ 0 < many ∧ i + 1 < s.length) := fun x => by have := of_decide_eq_false h56; have := x.1; omega
                refine s_off rfl rfl ?_
                refine s_off rfl rfl ?_
                refine s_q rfl rfl (q_pickF rfl rfl (is_sc rfl)) ?_
                refine s_q rfl rfl (q_mv (.inl rfl) (is_sc rfl)) ?_
                refine s_off rfl rfl ?_
                refine s_off rfl rfl ?_
                refine s_q rfl rfl (q_pickF rfl rfl (is_sc rfl)) ?_
                refine s_q rfl rfl (q_mv (.inl rfl) (is_sc rfl)) ?_
                refine s_off rfl rfl ?_
                refine s_off rfl rfl ?_
                refine s_off rfl rfl ?_
                refine s_off rfl rfl ?_
                refine s_off rfl rfl ?_
                refine s_q rfl rfl (q_pickF rfl rfl (is_sc rfl)) ?_
                refine s_q rfl rfl (q_mv (.inr rfl) (is_sc rfl)) ?_
                refine s_nil (n_n (w_ifF rfl (w_seq (w_reg (s_q rfl rfl (q_mv (.inl rfl) (is_sc rfl)) ?_)))))
                refine s_q rfl rfl (q_call rfl rfl rfl rfl (pf_other _ hl)) ?_
                refine s_u rfl rfl (as_st rfl rfl (by first | exact (rfl : _ = D.agg [_, _, _, _, _]) | exact rfl) rfl (by exact rfl) (by exact rfl) (by exact Nat.le_of_ble_eq_true rfl) (by exact (rfl : _ = [_, _, _, _, _]))) ?_
                refine s_nil (n_n (w_ret (b_r (b_r (n_r (n_r (b_r (n_r ?_))))))))
                -- end 35
                refine r_r (ra_cell (by exact (rfl : _ = some (D.agg [_, _, _, _, _]))) ra_nil) (by first | exact (rfl : _ = D.agg [_, _, _, _, _]) | exact rfl) (by exact rfl) sub_no ?_
                rw [read_other (hR.symm.trans (read_no hlt hc hq))]; rfl
          · have hc : ¬ (48 ≤ s[i].toNat ∧ s[i].toNat ≤ 57 ∧ many < 12) := by have := of_decide_eq_false h38; omega
            refine s_off rfl rfl ?_
            refine s_off rfl rfl ?_
            refine s_q rfl rfl (q_pickF rfl rfl (is_sc rfl)) ?_
            refine s_q rfl rfl (q_mv (.inr rfl) (is_sc rfl)) ?_
            refine s_nil (n_n (w_ifF rfl (w_seq (w_reg (s_q rfl rfl (q_mv (.inl rfl) (is_sc rfl)) ?_)))))
            refine s_q rfl rfl (q_eql rfl rfl rfl) ?_
            refine s_q rfl rfl (q_mv (.inl rfl) (is_sc rfl)) ?_
            refine s_split 56 (is_scb rfl) (fun h56 => ?_) (fun h56 => ?_)
            · have c46 : s[i].toNat = 46 := by have := of_decide_eq_true h56; omega
              refine s_q rfl rfl (q_mv (.inl rfl) (is_sc rfl)) ?_
              refine s_q rfl rfl (q_not rfl rfl) ?_
              refine s_q rfl rfl (q_pickT rfl rfl (is_sc rfl)) ?_
              refine s_q rfl rfl (q_mv (.inl rfl) (is_sc rfl)) ?_
              refine s_split 60 (is_scb rfl) (fun h60 => ?_) (fun h60 => ?_)
              · have hp0 : pt = false := by simpa using h60
                refine s_q rfl rfl (q_mv (.inl rfl) (is_sc rfl)) ?_
                refine s_q rfl rfl (q_gtr rfl rfl rfl) ?_
                refine s_q rfl rfl (q_pickT rfl rfl (is_sc rfl)) ?_
                refine s_q rfl rfl (q_mv (.inl rfl) (is_sc rfl)) ?_
                refine s_split 64 (is_scb rfl) (fun h64 => ?_) (fun h64 => ?_)
                · have c0 : 0 < many := by have := of_decide_eq_true h64; omega
                  refine s_q rfl rfl (q_mv (.inl rfl) (is_sc rfl)) ?_
                  refine s_q rfl rfl (q_add rfl rfl rfl) ?_
                  refine s_q rfl rfl (q_mv (.inl rfl) (is_sc rfl)) ?_
                  refine s_q rfl rfl (q_lens rfl rfl) ?_
                  refine s_q rfl rfl (q_lss rfl rfl rfl) ?_
                  refine s_q rfl rfl (q_pickT rfl rfl (is_sc rfl)) ?_
                  refine s_q rfl rfl (q_mv (.inr rfl) (is_sc rfl)) ?_
                  refine s_nil (n_n (w_if (is_scb rfl) (fun h53 => ?_) (fun h53 => ?_)))
                  · have cl : i + 1 < s.length := by have := of_decide_eq_true h53; rw [wrap_nat (by omega)] at this; omega
                    refine w_reg (s_q rfl rfl (q_mv (.inr rfl) (is_sc rfl)) ?_)
                    refine s_nil (b_n (b_n (n_n (w_reg (s_q rfl rfl (q_mv (.inl rfl) (is_sc rfl)) ?_)))))
                    refine s_q rfl rfl (q_add rfl rfl rfl) ?_
                    refine s_q rfl rfl (q_mv (.inr rfl) (is_sc rfl)) ?_
                    refine s_nil (n_n ?_)
                    have hw : IntKind.i64.wrap ((i : Int) + 1) = ((i + 1 : Nat) : Int) := wrap_nat (by omega)
                    rw [read_pt hlt c46 hp0 c0 cl] at hR
                    refine ⟨⟨i + 1, many, n, d, true, hlt, hm12, hn0, hn1, hd0, hd1, hR, ⟨rfl, rfl, i64_eq hw, rfl, rfl, rfl, rfl, rfl, trivial⟩, rfl⟩, ?_⟩
                    show s.length - (IntKind.i64.wrap ((i : Int) + 1)).toNat < s.length - (i : Int).toNat
                    rw [hw]; omega
                  · have hq : ¬ (s[i].toNat = 46 ∧ pt = false ∧ 0 < many ∧ i + 1 < s.length) := fun x => by have := of_decide_eq_false h53; rw [wrap_nat (by omega)] at this; have := x.2.2.2; omega
                    refine w_seq (w_reg (s_q rfl rfl (q_mv (.inl rfl) (is_sc rfl)) ?_))
                    refine s_q rfl rfl (q_call rfl rfl rfl rfl (pf_other _ hl)) ?_
                    refine s_u rfl rfl (as_st rfl rfl (by first | exact (rfl : _ = D.agg [_, _, _, _, _]) | exact rfl) rfl (by exact rfl) (by exact rfl) (by exact Nat.le_of_ble_eq_true rfl) (by exact (rfl : _ = [_, _, _, _, _]))) ?_
                    refine s_nil (n_n (w_ret (b_r (b_r (n_r (n_r (b_r (n_r ?_))))))))
                    -- end 36
                    refine r_r (ra_cell (by exact (rfl : _ = some (D.agg [_, _, _, _, _]))) ra_nil) (by first | exact (rfl : _ = D.agg [_, _, _, _, _]) | exact rfl) (by exact rfl) sub_no ?_
                    rw [read_other (hR.symm.trans (read_no hlt hc hq))]; rfl
                · have hq : ¬ (s[i].toNat = 46 ∧ pt = false ∧ 0 < many ∧ i + 1 < s.length) := fun x => by have := of_decide_eq_false h64; have := x.2.2.1; omega
                  refine s_off rfl rfl ?_
                  refine s_off rfl rfl ?_
                  refine s_off rfl rfl ?_
                  refine s_off rfl rfl ?_
                  refine s_off rfl rfl ?_
                  refine s_q rfl rfl (q_pickF rfl rfl (is_sc rfl)) ?_
                  refine s_q rfl rfl (q_mv (.inr rfl) (is_sc rfl)) ?_
                  refine s_nil (n_n (w_ifF rfl (w_seq (w_reg (s_q rfl rfl (q_mv (.inl rfl) (is_sc rfl)) ?_)))))
                  refine s_q rfl rfl (q_call rfl rfl rfl rfl (pf_other _ hl)) ?_
                  refine s_u rfl rfl (as_st rfl rfl (by first | exact (rfl : _ = D.agg [_, _, _, _, _]) | exact rfl) rfl (by exact rfl) (by exact rfl) (by exact Nat.le_of_ble_eq_true rfl) (by exact (rfl : _ = [_, _, _, _, _]))) ?_
                  refine s_nil (n_n (w_ret (b_r (b_r (n_r (n_r (b_r (n_r ?_))))))))
                  -- end 37
                  refine r_r (ra_cell (by exact (rfl : _ = some (D.agg [_, _, _, _, _]))) ra_nil) (by first | exact (rfl : _ = D.agg [_, _, _, _, _]) | exact rfl) (by exact rfl) sub_no ?_
                  rw [read_other (hR.symm.trans (read_no hlt hc hq))]; rfl
              · have hq : ¬ (s[i].toNat = 46 ∧ pt = false ∧ 0 < many ∧ i + 1 < s.length) := fun x => by rw [x.2.1] at h60; simp at h60
                refine s_off rfl rfl ?_
                refine s_off rfl rfl ?_
                refine s_q rfl rfl (q_pickF rfl rfl (is_sc rfl)) ?_
                refine s_q rfl rfl (q_mv (.inl rfl) (is_sc rfl)) ?_
                refine s_off rfl rfl ?_
                refine s_off rfl rfl ?_
                refine s_off rfl rfl ?_
                refine s_off rfl rfl ?_
                refine s_off rfl rfl ?_
                refine s_q rfl rfl (q_pickF rfl rfl (is_sc rfl)) ?_
                refine s_q rfl rfl (q_mv (.inr rfl) (is_sc rfl)) ?_
                refine s_nil (n_n (w_ifF rfl (w_seq (w_reg (s_q rfl rfl (q_mv (.inl rfl) (is_sc rfl)) ?_)))))
                refine s_q rfl rfl (q_call rfl rfl rfl rfl (pf_other _ hl)) ?_
                refine s_u rfl rfl (as_st rfl rfl (by first | exact (rfl : _ = D.agg [_, _, _, _, _]) | exact rfl) rfl (by exact rfl) (by exact rfl) (by exact Nat.le_of_ble_eq_true rfl) (by exact (rfl : _ = [_, _, _, _, _]))) ?_
                refine s_nil (n_n (w_ret (b_r (b_r (n_r (n_r (b_r (n_r ?_))))))))
                -- end 38
                refine r_r (ra_cell (by exact (rfl : _ = some (D.agg [_, _, _, _, _]))) ra_nil) (by first | exact (rfl : _ = D.agg [_, _, _, _, _]) | exact rfl) (by exact rfl) sub_no ?_
                rw [read_other (hR.symm.trans (read_no hlt hc hq))]; rfl
            · have hq : ¬ (s[i].toNat = 46 ∧ pt = false ∧ 0 < many ∧ i + 1 < s.length) := fun x => by have := of_decide_eq_false h56; have := x.1; omega
              refine s_off rfl rfl ?_
              refine s_off rfl rfl ?_
              refine s_q rfl rfl (q_pickF rfl rfl (is_sc rfl)) ?_
              refine s_q rfl rfl (q_mv (.inl rfl) (is_sc rfl)) ?_
              refine s_off rfl rfl ?_
              refine s_off rfl rfl ?_
              refine s_q rfl rfl (q_pickF rfl rfl (is_sc rfl)) ?_
              refine s_q rfl rfl (q_mv (.inl rfl) (is_sc rfl)) ?_
              refine s_off rfl rfl ?_
              refine s_off rfl rfl ?_
              refine s_off rfl rfl ?_
              refine s_off rfl rfl ?_
              refine s_off rfl rfl ?_
              refine s_q rfl rfl (q_pickF rfl rfl (is_sc rfl)) ?_
              refine s_q rfl rfl (q_mv (.inr rfl) (is_sc rfl)) ?_
              refine s_nil (n_n (w_ifF rfl (w_seq (w_reg (s_q rfl rfl (q_mv (.inl rfl) (is_sc rfl)) ?_)))))
              refine s_q rfl rfl (q_call rfl rfl rfl rfl (pf_other _ hl)) ?_
              refine s_u rfl rfl (as_st rfl rfl (by first | exact (rfl : _ = D.agg [_, _, _, _, _]) | exact rfl) rfl (by exact rfl) (by exact rfl) (by exact Nat.le_of_ble_eq_true rfl) (by exact (rfl : _ = [_, _, _, _, _]))) ?_
              refine s_nil (n_n (w_ret (b_r (b_r (n_r (n_r (b_r (n_r ?_))))))))
              -- end 39
              refine r_r (ra_cell (by exact (rfl : _ = some (D.agg [_, _, _, _, _]))) ra_nil) (by first | exact (rfl : _ = D.agg [_, _, _, _, _]) | exact rfl) (by exact rfl) sub_no ?_
              rw [read_other (hR.symm.trans (read_no hlt hc hq))]; rfl
        · have hc : ¬ (48 ≤ s[i].toNat ∧ s[i].toNat ≤ 57 ∧ many < 12) := by have := of_decide_eq_false h34; omega
          refine s_off rfl rfl ?_
          refine s_off rfl rfl ?_
          refine s_q rfl rfl (q_pickF rfl rfl (is_sc rfl)) ?_
          refine s_q rfl rfl (q_mv (.inl rfl) (is_sc rfl)) ?_
          refine s_off rfl rfl ?_
          refine s_off rfl rfl ?_
          refine s_q rfl rfl (q_pickF rfl rfl (is_sc rfl)) ?_
          refine s_q rfl rfl (q_mv (.inr rfl) (is_sc rfl)) ?_
          refine s_nil (n_n (w_ifF rfl (w_seq (w_reg (s_q rfl rfl (q_mv (.inl rfl) (is_sc rfl)) ?_)))))
          refine s_q rfl rfl (q_eql rfl rfl rfl) ?_
          refine s_q rfl rfl (q_mv (.inl rfl) (is_sc rfl)) ?_
          refine s_split 56 (is_scb rfl) (fun h56 => ?_) (fun h56 => ?_)
          · have c46 : s[i].toNat = 46 := by have := of_decide_eq_true h56; omega
            refine s_q rfl rfl (q_mv (.inl rfl) (is_sc rfl)) ?_
            refine s_q rfl rfl (q_not rfl rfl) ?_
            refine s_q rfl rfl (q_pickT rfl rfl (is_sc rfl)) ?_
            refine s_q rfl rfl (q_mv (.inl rfl) (is_sc rfl)) ?_
            refine s_split 60 (is_scb rfl) (fun h60 => ?_) (fun h60 => ?_)
            · have hp0 : pt = false := by simpa using h60
              refine s_q rfl rfl (q_mv (.inl rfl) (is_sc rfl)) ?_
              refine s_q rfl rfl (q_gtr rfl rfl rfl) ?_
              refine s_q rfl rfl (q_pickT rfl rfl (is_sc rfl)) ?_
              refine s_q rfl rfl (q_mv (.inl rfl) (is_sc rfl)) ?_
              refine s_split 64 (is_scb rfl) (fun h64 => ?_) (fun h64 => ?_)
              · have c0 : 0 < many := by have := of_decide_eq_true h64; omega
                refine s_q rfl rfl (q_mv (.inl rfl) (is_sc rfl)) ?_
                refine s_q rfl rfl (q_add rfl rfl rfl) ?_
                refine s_q rfl rfl (q_mv (.inl rfl) (is_sc rfl)) ?_
                refine s_q rfl rfl (q_lens rfl rfl) ?_
                refine s_q rfl rfl (q_lss rfl rfl rfl) ?_
                refine s_q rfl rfl (q_pickT rfl rfl (is_sc rfl)) ?_
                refine s_q rfl rfl (q_mv (.inr rfl) (is_sc rfl)) ?_
                refine s_nil (n_n (w_if (is_scb rfl) (fun h53 => ?_) (fun h53 => ?_)))
                · have cl : i + 1 < s.length := by have := of_decide_eq_true h53; rw [wrap_nat (by omega)] at this; omega
                  refine w_reg (s_q rfl rfl (q_mv (.inr rfl) (is_sc rfl)) ?_)
                  refine s_nil (b_n (b_n (n_n (w_reg (s_q rfl rfl (q_mv (.inl rfl) (is_sc rfl)) ?_)))))
                  refine s_q rfl rfl (q_add rfl rfl rfl) ?_
                  refine s_q rfl rfl (q_mv (.inr rfl) (is_sc rfl)) ?_
                  refine s_nil (n_n ?_)
                  have hw : IntKind.i64.wrap ((i : Int) + 1) = ((i + 1 : Nat) : Int) := wrap_nat (by omega)
                  rw [read_pt hlt c46 hp0 c0 cl] at hR
                  refine ⟨⟨i + 1, many, n, d, true, hlt, hm12, hn0, hn1, hd0, hd1, hR, ⟨rfl, rfl, i64_eq hw, rfl, rfl, rfl, rfl, rfl, trivial⟩, rfl⟩, ?_⟩
                  show s.length - (IntKind.i64.wrap ((i : Int) + 1)).toNat < s.length - (i : Int).toNat
                  rw [hw]; omega
                · have hq : ¬ (s[i].toNat = 46 ∧ pt = false ∧ 0 < many ∧ i + 1 < s.length) := fun x => by have := of_decide_eq_false h53; rw [wrap_nat (by omega)] at this; have := x.2.2.2; omega
                  refine w_seq (w_reg (s_q rfl rfl (q_mv (.inl rfl) (is_sc rfl)) ?_))
                  refine s_q rfl rfl (q_call rfl rfl rfl rfl (pf_other _ hl)) ?_
                  refine s_u rfl rfl (as_st rfl rfl (by first | exact (rfl : _ = D.agg [_, _, _, _, _]) | exact rfl) rfl (by exact rfl) (by exact rfl) (by exact Nat.le_of_ble_eq_true rfl) (by exact (rfl : _ = [_, _, _, _, _]))) ?_
                  refine s_nil (n_n (w_ret (b_r (b_r (n_r (n_r (b_r (n_r ?_))))))))
                  -- end 40
                  refine r_r (ra_cell (by exact (rfl : _ = some (D.agg [_, _, _, _, _]))) ra_nil) (by first | exact (rfl : _ = D.agg [_, _, _, _, _]) | exact rfl) (by exact rfl) sub_no ?_
                  rw [read_other (hR.symm.trans (read_no hlt hc hq))]; rfl
              · have hq : ¬ (s[i].toNat = 46 ∧ pt = false ∧ 0 < many ∧ i + 1 < s.length) := fun x => by have := of_decide_eq_false h64; have := x.2.2.1; omega
                refine s_off rfl rfl ?_
                refine s_off rfl rfl ?_
                refine s_off rfl rfl ?_
                refine s_off rfl rfl ?_
                refine s_off rfl rfl ?_
                refine s_q rfl rfl (q_pickF rfl rfl (is_sc rfl)) ?_
                refine s_q rfl rfl (q_mv (.inr rfl) (is_sc rfl)) ?_
                refine s_nil (n_n (w_ifF rfl (w_seq (w_reg (s_q rfl rfl (q_mv (.inl rfl) (is_sc rfl)) ?_)))))
                refine s_q rfl rfl (q_call rfl rfl rfl rfl (pf_other _ hl)) ?_
                refine s_u rfl rfl (as_st rfl rfl (by first | exact (rfl : _ = D.agg [_, _, _, _, _]) | exact rfl) rfl (by exact rfl) (by exact rfl) (by exact Nat.le_of_ble_eq_true rfl) (by exact (rfl : _ = [_, _, _, _, _]))) ?_
                refine s_nil (n_n (w_ret (b_r (b_r (n_r (n_r (b_r (n_r ?_))))))))
                -- end 41
                refine r_r (ra_cell (by exact (rfl : _ = some (D.agg [_, _, _, _, _]))) ra_nil) (by first | exact (rfl : _ = D.agg [_, _, _, _, _]) | exact rfl) (by exact rfl) sub_no ?_
                rw [read_other (hR.symm.trans (read_no hlt hc hq))]; rfl
            · have hq : ¬ (s[i].toNat = 46 ∧ pt = false ∧ 0 < many ∧ i + 1 < s.length) := fun x => by rw [x.2.1] at h60; simp at h60
              refine s_off rfl rfl ?_
              refine s_off rfl rfl ?_
              refine s_q rfl rfl (q_pickF rfl rfl (is_sc rfl)) ?_
              refine s_q rfl rfl (q_mv (.inl rfl) (is_sc rfl)) ?_
              refine s_off rfl rfl ?_
              refine s_off rfl rfl ?_
              refine s_off rfl rfl ?_
              refine s_off rfl rfl ?_
              refine s_off rfl rfl ?_
              refine s_q rfl rfl (q_pickF rfl rfl (is_sc rfl)) ?_
              refine s_q rfl rfl (q_mv (.inr rfl) (is_sc rfl)) ?_
              refine s_nil (n_n (w_ifF rfl (w_seq (w_reg (s_q rfl rfl (q_mv (.inl rfl) (is_sc rfl)) ?_)))))
              refine s_q rfl rfl (q_call rfl rfl rfl rfl (pf_other _ hl)) ?_
              refine s_u rfl rfl (as_st rfl rfl (by first | exact (rfl : _ = D.agg [_, _, _, _, _]) | exact rfl) rfl (by exact rfl) (by exact rfl) (by exact Nat.le_of_ble_eq_true rfl) (by exact (rfl : _ = [_, _, _, _, _]))) ?_
              refine s_nil (n_n (w_ret (b_r (b_r (n_r (n_r (b_r (n_r ?_))))))))
              -- end 42
              refine r_r (ra_cell (by exact (rfl : _ = some (D.agg [_, _, _, _, _]))) ra_nil) (by first | exact (rfl : _ = D.agg [_, _, _, _, _]) | exact rfl) (by exact rfl) sub_no ?_
              rw [read_other (hR.symm.trans (read_no hlt hc hq))]; rfl
          · have hq : ¬ (s[i].toNat = 46 ∧ pt = false ∧ 0 < many ∧ i + 1 < s.length) := fun x => by have := of_decide_eq_false h56; have := x.1; omega
            refine s_off rfl rfl ?_
            refine s_off rfl rfl ?_
            refine s_q rfl rfl (q_pickF rfl rfl (is_sc rfl)) ?_
            refine s_q rfl rfl (q_mv (.inl rfl) (is_sc rfl)) ?_
            refine s_off rfl rfl ?_
            refine s_off rfl rfl ?_
            refine s_q rfl rfl (q_pickF rfl rfl (is_sc rfl)) ?_
            refine s_q rfl rfl (q_mv (.inl rfl) (is_sc rfl)) ?_
            refine s_off rfl rfl ?_
            refine s_off rfl rfl ?_
            refine s_off rfl rfl ?_
            refine s_off rfl rfl ?_
            refine s_off rfl rfl ?_
            refine s_q rfl rfl (q_pickF rfl rfl (is_sc rfl)) ?_
            refine s_q rfl rfl (q_mv (.inr rfl) (is_sc rfl)) ?_
            refine s_nil (n_n (w_ifF rfl (w_seq (w_reg (s_q rfl rfl (q_mv (.inl rfl) (is_sc rfl)) ?_)))))
            refine s_q rfl rfl (q_call rfl rfl rfl rfl (pf_other _ hl)) ?_
            refine s_u rfl rfl (as_st rfl rfl (by first | exact (rfl : _ = D.agg [_, _, _, _, _]) | exact rfl) rfl (by exact rfl) (by exact rfl) (by exact Nat.le_of_ble_eq_true rfl) (by exact (rfl : _ = [_, _, _, _, _]))) ?_
            refine s_nil (n_n (w_ret (b_r (b_r (n_r (n_r (b_r (n_r ?_))))))))
            -- end 43
            refine r_r (ra_cell (by exact (rfl : _ = some (D.agg [_, _, _, _, _]))) ra_nil) (by first | exact (rfl : _ = D.agg [_, _, _, _, _]) | exact rfl) (by exact rfl) sub_no ?_
            rw [read_other (hR.symm.trans (read_no hlt hc hq))]; rfl
      · have hge : s.length ≤ i := by have := of_decide_eq_false h23; omega
        have hfin := read_end (hR.symm.trans (show readL (s.drop i) n many d pt = some (n, many, d) by rw [List.drop_eq_nil_of_le hge]; rfl))
        have t2 := ten_le hm12
        refine w_exit (n_e (n_e (b_hit (n_n (w_seq (w_seq (w_reg (s_q rfl rfl (q_mv (.inl rfl) (is_sc rfl)) ?_))))))))
        refine s_q rfl rfl (q_eql rfl rfl rfl) ?_
        refine s_q rfl rfl (q_mv (.inl rfl) (is_sc rfl)) ?_
        refine s_split 73 (is_scb rfl) (fun h73 => ?_) (fun h73 => ?_)
        · refine s_off rfl rfl ?_
          refine s_off rfl rfl ?_
          refine s_q rfl rfl (q_pickT rfl rfl (is_sc rfl)) ?_
          refine s_nil (n_n (w_ifT rfl (w_seq (w_reg (s_q rfl rfl (q_mv (.inl rfl) (is_sc rfl)) ?_)))))
          refine s_q rfl rfl (q_call rfl rfl rfl rfl (pf_other _ hl)) ?_
          refine s_u rfl rfl (as_st rfl rfl (by first | exact (rfl : _ = D.agg [_, _, _, _, _]) | exact rfl) rfl (by exact rfl) (by exact rfl) (by exact Nat.le_of_ble_eq_true rfl) (by exact (rfl : _ = [_, _, _, _, _]))) ?_
          refine s_nil (n_n (w_ret (n_r ?_)))
          -- end 44
          refine r_r (ra_cell (by exact (rfl : _ = some (D.agg [_, _, _, _, _]))) ra_nil) (by first | exact (rfl : _ = D.agg [_, _, _, _, _]) | exact rfl) (by exact rfl) sub_no ?_
          rw [hfin, if_pos (.inl (by have := of_decide_eq_true h73; omega))]; rfl
        · have m1 : ¬ many = 0 := by have := of_decide_eq_false h73; omega
          refine s_q rfl rfl (q_mv (.inl rfl) (is_sc rfl)) ?_
          refine s_q rfl rfl (q_gtr rfl rfl rfl) ?_
          refine s_q rfl rfl (q_pickF rfl rfl (is_sc rfl)) ?_
          refine s_nil (n_n (w_if (is_scb rfl) (fun h76 => ?_) (fun h76 => ?_)))
          · refine w_seq (w_reg (s_q rfl rfl (q_mv (.inl rfl) (is_sc rfl)) ?_))
            refine s_q rfl rfl (q_call rfl rfl rfl rfl (pf_other _ hl)) ?_
            refine s_u rfl rfl (as_st rfl rfl (by first | exact (rfl : _ = D.agg [_, _, _, _, _]) | exact rfl) rfl (by exact rfl) (by exact rfl) (by exact Nat.le_of_ble_eq_true rfl) (by exact (rfl : _ = [_, _, _, _, _]))) ?_
            refine s_nil (n_n (w_ret (n_r ?_)))
            -- end 45
            refine r_r (ra_cell (by exact (rfl : _ = some (D.agg [_, _, _, _, _]))) ra_nil) (by first | exact (rfl : _ = D.agg [_, _, _, _, _]) | exact rfl) (by exact rfl) sub_no ?_
            rw [hfin, if_pos (.inr (of_decide_eq_true h76))]; rfl
          · have m2 : d ≤ 100000 := by have := of_decide_eq_false h76; omega
            have w7 : IntKind.i64.wrap (0 - n) = -n := by rw [wrap_id (by omega) (by omega)]; omega
            refine w_skip (n_n (w_seq (w_seq (w_reg (s_q rfl rfl (q_mv (.inl rfl) (is_sc rfl)) ?_)))))
            refine s_nil (n_n (w_if (is_scb rfl) (fun h79 => ?_) (fun h79 => ?_)))
            · refine w_reg (s_q rfl rfl (q_mv (.inl rfl) (is_sc rfl)) ?_)
              refine s_q rfl rfl (q_as (i64_eq w7) (q_neg rfl rfl)) ?_
              refine s_q rfl rfl (q_mv (.inr rfl) (is_sc rfl)) ?_
              refine s_nil (n_n (w_seq (w_reg (s_q rfl rfl (q_mv (.inl rfl) (is_sc rfl)) ?_))))
              refine s_q rfl rfl (q_mv (.inl rfl) (is_sc rfl)) ?_
              refine s_q rfl rfl (q_call rfl rfl rfl rfl (pf_fracD _ _ (by omega) (by omega) (by omega) (by omega))) ?_
              refine s_u rfl rfl (as_st rfl rfl (by first | exact (rfl : _ = D.agg [_, _, _, _, _]) | exact rfl) rfl (by exact rfl) (by exact rfl) (by exact Nat.le_of_ble_eq_true rfl) (by exact (rfl : _ = [_, _, _, _, _]))) ?_
              refine s_nil (n_n (w_ret ?_))
              -- end 46
              refine r_r (ra_cell (by exact (rfl : _ = some (D.agg [_, _, _, _, _]))) ra_nil) (by first | exact (rfl : _ = D.agg [_, _, _, _, _]) | exact rfl) (by exact rfl) sub_no ?_
              rw [hfin, if_neg (by omega), if_pos (of_decide_eq_true h79)]; rfl
            · refine w_skip (n_n (w_seq (w_reg (s_q rfl rfl (q_mv (.inl rfl) (is_sc rfl)) ?_))))
              refine s_q rfl rfl (q_mv (.inl rfl) (is_sc rfl)) ?_
              refine s_q rfl rfl (q_call rfl rfl rfl rfl (pf_fracD _ _ (by omega) (by omega) (by omega) (by omega))) ?_
              refine s_u rfl rfl (as_st rfl rfl (by first | exact (rfl : _ = D.agg [_, _, _, _, _]) | exact rfl) rfl (by exact rfl) (by exact rfl) (by exact Nat.le_of_ble_eq_true rfl) (by exact (rfl : _ = [_, _, _, _, _]))) ?_
              refine s_nil (n_n (w_ret ?_))
              -- end 47
              refine r_r (ra_cell (by exact (rfl : _ = some (D.agg [_, _, _, _, _]))) ra_nil) (by first | exact (rfl : _ = D.agg [_, _, _, _, _]) | exact rfl) (by exact rfl) sub_no ?_
              rw [hfin, if_neg (by omega), if_neg (of_decide_eq_false h79)]; rfl


-- pub-tallysheet/spec.numeric
end Go.Proofs.YtopgbalmdocboaaGreatDoor.Zz
