/- Walks of the functions, printed by program, and the logic behind them: each theorem says what one function or one step answers. -/
import Derived.Test.YtpjckdhgefbonaaGreatDoorZWe
import Derived.Test.YtpjckdhgefbonaaGreatDoorZFm
import Derived.Test.YtpjckdhgefbonaaGreatDoorZIt2
import Derived.Test.YtpjckdhgefbonaaGreatDoorZExt
import Derived.Test.YtpjckdhgefbonaaGreatDoorZTx
import Derived.Test.YtpjckdhgefbonaaGreatDoorZNx
import Derived.Test.YtpjckdhgefbonaaGreatDoorZCallX
import Derived.Test.YtpjckdhgefbonaaGreatDoorZInt
import Derived.Test.YtpjckdhgefbonaaGreatDoorZMi
namespace Go.Proofs.YtpjckdhgefbonaaGreatDoor.Zz
open Go.Abs
set_option maxRecDepth 100000
set_option linter.unusedVariables false
set_option linter.unusedSimpArgs false
set_option maxHeartbeats 4000000
variable {G : Nat → D}
instance : FN Tryz.prog 84 := ⟨Tryz.call84⟩

-- (pub-tallysheet/pub/excelize.formulaArg).ToList
theorem pf_ToListM (rows : List (List F)) (kr kx : Nat) (hl : rows.length < 1000000000) (hF : rows.flatten.length < 1000000000) : PF Tryz.prog G 85 [matF rows kr kx] (lstF rows.flatten) := by
  refine PC.intro rfl Tryz.func85 rfl (Nat.le_of_ble_eq_true rfl) rfl ?_
  refine w_seq (w_reg (s_s rfl rfl (as_box0 (id := 0) rfl (by first | exact (rfl : _ = D.agg [_, _, _, _, _, _, _, _, _, _]) | exact rfl) (by exact rfl) rfl (by exact (rfl : _ = [_, _, _, _, _, _, _, _, _, _]))) ?_))
  refine s_q rfl rfl (q_mv (.inr rfl) (by first | exact is_im rfl | exact is_gs rfl | exact is_lit rfl | exact is_ms rfl | exact is_sc rfl | exact rfl)) ?_
  refine s_nil (n_n (w_seq (w_seq (w_reg (s_q rfl rfl (q_field rfl rfl (by exact rfl)) ?_)))))
  refine s_q rfl rfl (q_load rfl rfl (by exact (rfl : _ = some (D.sc _)))) ?_
  refine s_nil (n_n (w_block (w_seq (w_reg (s_q rfl rfl (q_eql rfl rfl rfl) ?_)))))
  refine s_q rfl rfl (q_mv (.inr rfl) (is_sc rfl)) ?_
  refine s_nil (n_n (w_ifT rfl (w_seq (w_reg (s_s rfl rfl (as_nil (e := 79) (.inl rfl) rfl) ?_)))))
  refine s_nil (n_n (w_seq (w_seq (w_reg (s_q rfl rfl (q_field rfl rfl (by exact rfl)) ?_)))))
  refine s_q rfl rfl (q_load rfl rfl (by exact rfl)) ?_
  refine s_q rfl rfl (q_len rfl rfl rfl) ?_
  refine s_q rfl rfl (q_mv (.inl rfl) (is_sc rfl)) ?_
  refine s_nil (n_n (w_block ?_))
  refine w_loop (fun env A => ∃ (i t : Nat) (live : Nat → Bool) (ln : Nat), i ≤ rows.length ∧ Binds env [(3, .gs t 79 (((rows.take i).flatten).flatMap F.c) ((rows.take i).flatten).length), (11, .im (rows.map lstF) rows.length), (12, i64 rows.length), (13, i64 i)] ∧ A = ⟨[.cells [st [], fl 0, st [], .im [] 0, .im (rows.map lstF) rows.length, bl false, st [], .sc (.int .u8 4), .hp kr 0, .hp kx 0]], live, ln, noHeap⟩ ∧ live t = true) (fun env _ => rows.length - ctr (env 13)) ?_ ?_
  · exact ⟨0, 0, _, _, Nat.zero_le _, ⟨rfl, rfl, rfl, rfl, trivial⟩, rfl, rfl⟩
  · rintro env A ⟨i, t, live, ln, hi, hB, rfl, hv⟩
    rw [hB.eq]; clear hB
    refine w_seq (w_reg (s_q rfl rfl (q_lss rfl rfl rfl) ?_))
    refine s_nil (n_n (w_seq (w_if (is_scb rfl) (fun h14 => ?_) (fun h14 => ?_))))
    · have hlt : i < rows.length := by have h' : (i : Int) < ((rows.length : Nat) : Int) := of_decide_eq_true h14; omega
      have hfl := flatF_le rows hlt
      refine w_skip (n_n (w_seq (w_block (w_seq (w_reg (s_q rfl rfl (q_index rfl rfl rfl rfl (Int.natCast_nonneg _) (by omega)) ?_))))))
      refine s_q rfl rfl (q_loadPin rfl rfl (take_map lstF hlt)) ?_
      refine s_q rfl rfl (q_mv (.inr rfl) (by first | exact is_im rfl | exact is_gs rfl | exact is_lit rfl | exact is_ms rfl | exact is_sc rfl | exact rfl)) ?_
      refine s_nil (n_n (w_reg (s_q rfl rfl (q_mv (.inl rfl) (by first | exact is_im rfl | exact is_gs rfl | exact is_lit rfl | exact is_ms rfl | exact is_sc rfl | exact rfl)) ?_)))
      refine s_q rfl rfl (q_mv (.inl rfl) (by first | exact is_im rfl | exact is_gs rfl | exact is_lit rfl | exact is_ms rfl | exact is_sc rfl | exact rfl)) ?_
      refine s_s rfl rfl (as_append rfl rfl hv rfl rfl (by decide) (by exact len_lstF _) (by exact len_lstF _) (by show (_ + _) * 136 ≤ _; omega) (by show _ + _ ≤ 9223372036854775807; omega)) ?_
      refine s_q rfl rfl (q_mv (.inr rfl) (by first | exact is_im rfl | exact is_gs rfl | exact is_lit rfl | exact is_ms rfl | exact is_sc rfl | exact rfl)) ?_
      refine s_nil (b_n (n_n (w_reg (s_q rfl rfl (q_add rfl rfl rfl) ?_))))
      refine s_q rfl rfl (q_mv (.inl rfl) (is_sc rfl)) ?_
      refine s_nil (n_n ?_)
      have hw : IntKind.i64.wrap ((i : Int) + 1) = ((i + 1 : Nat) : Int) := wrap_nat (by omega)
      refine ⟨⟨i + 1, ln, _, _, hlt, ⟨?_, rfl, rfl, i64_eq hw, trivial⟩, rfl, live_app ⟨_, live, ln, noHeap⟩ t⟩, ?_⟩
      · rw [flatF_succ hlt, List.flatMap_append, List.length_append]; rfl
      · show rows.length - (IntKind.i64.wrap ((i : Int) + 1)).toNat < rows.length - (i : Int).toNat
        rw [hw]; omega
    · have hge : rows.length ≤ i := by have h' : ¬ (i : Int) < ((rows.length : Nat) : Int) := of_decide_eq_false h14; omega
      rw [List.take_of_length_le hge]
      refine w_exit (n_e (n_e (b_hit (n_n (w_seq (w_reg (s_q rfl rfl (q_mv (.inl rfl) (by first | exact is_im rfl | exact is_gs rfl | exact is_lit rfl | exact is_ms rfl | exact is_sc rfl | exact rfl)) ?_)))))))
      refine s_q rfl rfl (q_mv (.inr rfl) (by first | exact is_im rfl | exact is_gs rfl | exact is_lit rfl | exact is_ms rfl | exact is_sc rfl | exact rfl)) ?_
      refine s_nil (n_n (w_ret (b_r (n_r ?_))))
      -- end 0
      refine r_r (ra_tmp (by first | exact is_im rfl | exact is_gs rfl | exact is_lit rfl | exact is_ms rfl | exact is_sc rfl | exact rfl) ra_nil) (by first | exact is_im rfl | exact is_gs rfl | exact is_lit rfl | exact is_ms rfl | exact is_sc rfl | exact rfl) (by exact rfl) sub_no ?_
      rfl


-- (*pub-tallysheet/pub/excelize.formulaFuncs).COUNT$1
theorem pf_cntRN (h : Heap) (kc kf n : Nat) (C : Cn h 84 kc kf n) (hn : n < 2000000000) (b : Nat) : ACall Tryz.prog G 84 true [(fNum b).d, bl true, .hp kc 0, .hp kf 0] h (fun _ h' => h' = setC h kc (n + 1)) := by
  have hlen1 : Heap.len h kc = some 1 := by simp [Heap.len, C.cnt]
  have hget1 : Heap.get h kc 0 = some (i64 (n : Int)) := by simp [Heap.get, C.cnt]
  have hw1 : IntKind.i64.wrap ((n : Int) + 1) = ((n + 1 : Nat) : Int) := by rw [wrap_id (by omega) (by omega)]; omega
  refine ACall.intro rfl Tryz.func84 rfl (Nat.le_of_ble_eq_true rfl) rfl ?_
  refine w_seq (w_reg (s_s rfl rfl (as_box0 (id := 0) rfl (by first | exact (rfl : _ = D.agg [_, _, _, _, _, _, _, _, _, _]) | exact rfl) (by exact rfl) rfl (by exact (rfl : _ = [_, _, _, _, _, _, _, _, _, _]))) ?_))
  refine s_nil (n_n (w_seq (w_reg (s_q rfl rfl (q_mv (.inl rfl) (is_sc rfl)) ?_))))
  refine s_q rfl rfl (q_mv (.inl rfl) (is_sc rfl)) ?_
  refine s_off rfl rfl ?_
  refine s_off rfl rfl ?_
  refine s_off rfl rfl ?_
  refine s_off rfl rfl ?_
  refine s_off rfl rfl ?_
  refine s_off rfl rfl ?_
  refine s_off rfl rfl ?_
  refine s_off rfl rfl ?_
  refine s_off rfl rfl ?_
  refine s_q rfl rfl (q_pickT rfl rfl (is_sc rfl)) ?_
  refine s_q rfl rfl (q_mv (.inl rfl) (is_sc rfl)) ?_
  refine s_off rfl rfl ?_
  refine s_off rfl rfl ?_
  refine s_off rfl rfl ?_
  refine s_off rfl rfl ?_
  refine s_off rfl rfl ?_
  refine s_off rfl rfl ?_
  refine s_off rfl rfl ?_
  refine s_off rfl rfl ?_
  refine s_off rfl rfl ?_
  refine s_q rfl rfl (q_pickT rfl rfl (is_sc rfl)) ?_
  refine s_q rfl rfl (q_mv (.inr rfl) (is_sc rfl)) ?_
  refine s_nil (n_n (w_seq (w_reg (s_q rfl rfl (q_field rfl rfl (by exact rfl)) ?_))))
  refine s_q rfl rfl (q_load rfl rfl (by exact (rfl : _ = some (D.sc _)))) ?_
  refine s_nil (n_n (w_block (w_seq (w_reg (s_q rfl rfl (q_eql rfl rfl rfl) ?_)))))
  refine s_q rfl rfl (q_mv (.inr rfl) (is_sc rfl)) ?_
  refine s_nil (n_n (w_ifF rfl (w_seq (w_reg (s_q rfl rfl (q_eql rfl rfl rfl) ?_)))))
  refine s_q rfl rfl (q_mv (.inr rfl) (is_sc rfl)) ?_
  refine s_nil (n_n (w_ifT rfl (w_seq (w_seq (w_reg (s_q rfl rfl (q_mv (.inl rfl) (is_sc rfl)) ?_))))))
  refine s_q rfl rfl (q_mv (.inl rfl) (is_sc rfl)) ?_
  refine s_q rfl rfl (q_field rfl rfl (by exact rfl)) ?_
  refine s_q rfl rfl (q_load rfl rfl (by exact (rfl : _ = some (D.sc _)))) ?_
  refine s_q rfl rfl (q_pickT rfl rfl (is_sc rfl)) ?_
  refine s_nil (n_n (w_ifF rfl (w_skip (n_n (w_reg (s_q rfl rfl (q_loadH rfl rfl (d := i64 (n : Int)) (by exact hget1)) ?_))))))
  refine s_q rfl rfl (q_add rfl rfl rfl) ?_
  refine s_u rfl rfl (as_storeP (off := 0) (d := i64 ((n + 1 : Nat) : Int)) rfl rfl (i64_eq hw1) hlen1 (by decide) rfl rfl rfl) ?_
  refine s_nil (b_n ?_)
  -- end 0
  refine r_n ra_nil (by exact (rfl : _ = D.tup [])) (by exact rfl) (Sub.refl _) ?_
  exact put_set C.cnt


-- (*pub-tallysheet/pub/excelize.formulaFuncs).COUNT$1
theorem pf_cntRB (h : Heap) (kc kf n : Nat) (C : Cn h 84 kc kf n) (hn : n < 2000000000) (c : Bool) : ACall Tryz.prog G 84 true [(fBool c).d, bl true, .hp kc 0, .hp kf 0] h (fun _ h' => h' = setC h kc (n + 0)) := by
  have hlen1 : Heap.len h kc = some 1 := by simp [Heap.len, C.cnt]
  have hget1 : Heap.get h kc 0 = some (i64 (n : Int)) := by simp [Heap.get, C.cnt]
  have hw1 : IntKind.i64.wrap ((n : Int) + 1) = ((n + 1 : Nat) : Int) := by rw [wrap_id (by omega) (by omega)]; omega
  refine ACall.intro rfl Tryz.func84 rfl (Nat.le_of_ble_eq_true rfl) rfl ?_
  refine w_seq (w_reg (s_s rfl rfl (as_box0 (id := 0) rfl (by first | exact (rfl : _ = D.agg [_, _, _, _, _, _, _, _, _, _]) | exact rfl) (by exact rfl) rfl (by exact (rfl : _ = [_, _, _, _, _, _, _, _, _, _]))) ?_))
  refine s_nil (n_n (w_seq (w_reg (s_q rfl rfl (q_mv (.inl rfl) (is_sc rfl)) ?_))))
  refine s_q rfl rfl (q_mv (.inl rfl) (is_sc rfl)) ?_
  refine s_off rfl rfl ?_
  refine s_off rfl rfl ?_
  refine s_off rfl rfl ?_
  refine s_off rfl rfl ?_
  refine s_off rfl rfl ?_
  refine s_off rfl rfl ?_
  refine s_off rfl rfl ?_
  refine s_off rfl rfl ?_
  refine s_off rfl rfl ?_
  refine s_q rfl rfl (q_pickT rfl rfl (is_sc rfl)) ?_
  refine s_q rfl rfl (q_mv (.inl rfl) (is_sc rfl)) ?_
  refine s_off rfl rfl ?_
  refine s_off rfl rfl ?_
  refine s_off rfl rfl ?_
  refine s_off rfl rfl ?_
  refine s_off rfl rfl ?_
  refine s_off rfl rfl ?_
  refine s_off rfl rfl ?_
  refine s_off rfl rfl ?_
  refine s_off rfl rfl ?_
  refine s_q rfl rfl (q_pickT rfl rfl (is_sc rfl)) ?_
  refine s_q rfl rfl (q_mv (.inr rfl) (is_sc rfl)) ?_
  refine s_nil (n_n (w_seq (w_reg (s_q rfl rfl (q_field rfl rfl (by exact rfl)) ?_))))
  refine s_q rfl rfl (q_load rfl rfl (by exact (rfl : _ = some (D.sc _)))) ?_
  refine s_nil (n_n (w_block (w_seq (w_reg (s_q rfl rfl (q_eql rfl rfl rfl) ?_)))))
  refine s_q rfl rfl (q_mv (.inr rfl) (is_sc rfl)) ?_
  refine s_nil (n_n (w_ifF rfl (w_seq (w_reg (s_q rfl rfl (q_eql rfl rfl rfl) ?_)))))
  refine s_q rfl rfl (q_mv (.inr rfl) (is_sc rfl)) ?_
  refine s_nil (n_n (w_ifT rfl (w_seq (w_seq (w_reg (s_q rfl rfl (q_mv (.inl rfl) (is_sc rfl)) ?_))))))
  refine s_q rfl rfl (q_mv (.inl rfl) (is_sc rfl)) ?_
  refine s_q rfl rfl (q_field rfl rfl (by exact rfl)) ?_
  refine s_q rfl rfl (q_load rfl rfl (by exact (rfl : _ = some (D.sc _)))) ?_
  refine s_q rfl rfl (q_pickT rfl rfl (is_sc rfl)) ?_
  refine s_nil (n_n (w_ifT rfl (w_ret (n_r (b_r ?_)))))
  -- end 0
  refine r_r ra_nil (by exact (rfl : _ = D.tup [])) (by exact rfl) (Sub.refl _) ?_
  exact (setC_self C).symm


-- (*pub-tallysheet/pub/excelize.formulaFuncs).COUNT$1
theorem pf_cntRS (h : Heap) (kc kf n : Nat) (C : Cn h 84 kc kf n) (hn : n < 2000000000) (s : List UInt8) : ACall Tryz.prog G 84 true [(fStr s).d, bl true, .hp kc 0, .hp kf 0] h (fun _ h' => h' = setC h kc (n + 0)) := by
  have hlen1 : Heap.len h kc = some 1 := by simp [Heap.len, C.cnt]
  have hget1 : Heap.get h kc 0 = some (i64 (n : Int)) := by simp [Heap.get, C.cnt]
  have hw1 : IntKind.i64.wrap ((n : Int) + 1) = ((n + 1 : Nat) : Int) := by rw [wrap_id (by omega) (by omega)]; omega
  refine ACall.intro rfl Tryz.func84 rfl (Nat.le_of_ble_eq_true rfl) rfl ?_
  refine w_seq (w_reg (s_s rfl rfl (as_box0 (id := 0) rfl (by first | exact (rfl : _ = D.agg [_, _, _, _, _, _, _, _, _, _]) | exact rfl) (by exact rfl) rfl (by exact (rfl : _ = [_, _, _, _, _, _, _, _, _, _]))) ?_))
  refine s_nil (n_n (w_seq (w_reg (s_q rfl rfl (q_mv (.inl rfl) (is_sc rfl)) ?_))))
  refine s_q rfl rfl (q_mv (.inl rfl) (is_sc rfl)) ?_
  refine s_off rfl rfl ?_
  refine s_off rfl rfl ?_
  refine s_off rfl rfl ?_
  refine s_off rfl rfl ?_
  refine s_off rfl rfl ?_
  refine s_off rfl rfl ?_
  refine s_off rfl rfl ?_
  refine s_off rfl rfl ?_
  refine s_off rfl rfl ?_
  refine s_q rfl rfl (q_pickT rfl rfl (is_sc rfl)) ?_
  refine s_q rfl rfl (q_mv (.inl rfl) (is_sc rfl)) ?_
  refine s_off rfl rfl ?_
  refine s_off rfl rfl ?_
  refine s_off rfl rfl ?_
  refine s_off rfl rfl ?_
  refine s_off rfl rfl ?_
  refine s_off rfl rfl ?_
  refine s_off rfl rfl ?_
  refine s_off rfl rfl ?_
  refine s_off rfl rfl ?_
  refine s_q rfl rfl (q_pickT rfl rfl (is_sc rfl)) ?_
  refine s_q rfl rfl (q_mv (.inr rfl) (is_sc rfl)) ?_
  refine s_nil (n_n (w_seq (w_reg (s_q rfl rfl (q_field rfl rfl (by exact rfl)) ?_))))
  refine s_q rfl rfl (q_load rfl rfl (by exact (rfl : _ = some (D.sc _)))) ?_
  refine s_nil (n_n (w_block (w_seq (w_reg (s_q rfl rfl (q_eql rfl rfl rfl) ?_)))))
  refine s_q rfl rfl (q_mv (.inr rfl) (is_sc rfl)) ?_
  refine s_nil (n_n (w_ifT rfl (w_seq (w_seq (w_reg (s_q rfl rfl (q_mv (.inl rfl) (is_sc rfl)) ?_))))))
  refine s_nil (n_n (w_ifT rfl (w_ret (n_r (b_r ?_)))))
  -- end 0
  refine r_r ra_nil (by exact (rfl : _ = D.tup [])) (by exact rfl) (Sub.refl _) ?_
  exact (setC_self C).symm


-- (*pub-tallysheet/pub/excelize.formulaFuncs).COUNT$1
theorem pf_cntRE (h : Heap) (kc kf n : Nat) (C : Cn h 84 kc kf n) (hn : n < 2000000000)  : ACall Tryz.prog G 84 true [(fEmpty).d, bl true, .hp kc 0, .hp kf 0] h (fun _ h' => h' = setC h kc (n + 0)) := by
  have hlen1 : Heap.len h kc = some 1 := by simp [Heap.len, C.cnt]
  have hget1 : Heap.get h kc 0 = some (i64 (n : Int)) := by simp [Heap.get, C.cnt]
  have hw1 : IntKind.i64.wrap ((n : Int) + 1) = ((n + 1 : Nat) : Int) := by rw [wrap_id (by omega) (by omega)]; omega
  refine ACall.intro rfl Tryz.func84 rfl (Nat.le_of_ble_eq_true rfl) rfl ?_
  refine w_seq (w_reg (s_s rfl rfl (as_box0 (id := 0) rfl (by first | exact (rfl : _ = D.agg [_, _, _, _, _, _, _, _, _, _]) | exact rfl) (by exact rfl) rfl (by exact (rfl : _ = [_, _, _, _, _, _, _, _, _, _]))) ?_))
  refine s_nil (n_n (w_seq (w_reg (s_q rfl rfl (q_mv (.inl rfl) (is_sc rfl)) ?_))))
  refine s_q rfl rfl (q_mv (.inl rfl) (is_sc rfl)) ?_
  refine s_off rfl rfl ?_
  refine s_off rfl rfl ?_
  refine s_off rfl rfl ?_
  refine s_off rfl rfl ?_
  refine s_off rfl rfl ?_
  refine s_off rfl rfl ?_
  refine s_off rfl rfl ?_
  refine s_off rfl rfl ?_
  refine s_off rfl rfl ?_
  refine s_q rfl rfl (q_pickT rfl rfl (is_sc rfl)) ?_
  refine s_q rfl rfl (q_mv (.inl rfl) (is_sc rfl)) ?_
  refine s_off rfl rfl ?_
  refine s_off rfl rfl ?_
  refine s_off rfl rfl ?_
  refine s_off rfl rfl ?_
  refine s_off rfl rfl ?_
  refine s_off rfl rfl ?_
  refine s_off rfl rfl ?_
  refine s_off rfl rfl ?_
  refine s_off rfl rfl ?_
  refine s_q rfl rfl (q_pickT rfl rfl (is_sc rfl)) ?_
  refine s_q rfl rfl (q_mv (.inr rfl) (is_sc rfl)) ?_
  refine s_nil (n_n (w_seq (w_reg (s_q rfl rfl (q_field rfl rfl (by exact rfl)) ?_))))
  refine s_q rfl rfl (q_load rfl rfl (by exact (rfl : _ = some (D.sc _)))) ?_
  refine s_nil (n_n (w_block (w_seq (w_reg (s_q rfl rfl (q_eql rfl rfl rfl) ?_)))))
  refine s_q rfl rfl (q_mv (.inr rfl) (is_sc rfl)) ?_
  refine s_nil (n_n (w_ifF rfl (w_seq (w_reg (s_q rfl rfl (q_eql rfl rfl rfl) ?_)))))
  refine s_q rfl rfl (q_mv (.inr rfl) (is_sc rfl)) ?_
  refine s_nil (n_n (w_ifF rfl (w_seq (w_seq (w_reg (s_q rfl rfl (q_eql rfl rfl rfl) ?_))))))
  refine s_q rfl rfl (q_mv (.inr rfl) (is_sc rfl)) ?_
  refine s_nil (n_n (w_ifF rfl (w_reg (s_q rfl rfl (q_eql rfl rfl rfl) ?_))))
  refine s_q rfl rfl (q_mv (.inr rfl) (is_sc rfl)) ?_
  refine s_nil (n_n (w_ifF rfl (w_skip (b_n ?_))))
  -- end 0
  refine r_n ra_nil (by exact (rfl : _ = D.tup [])) (by exact rfl) (Sub.refl _) ?_
  exact (setC_self C).symm


-- (*pub-tallysheet/pub/excelize.formulaFuncs).COUNT$1
theorem pf_cntSN (h : Heap) (kc kf n : Nat) (C : Cn h 84 kc kf n) (hn : n < 2000000000) (b : Nat) : ACall Tryz.prog G 84 true [(fNum b).d, bl false, .hp kc 0, .hp kf 0] h (fun _ h' => h' = setC h kc (n + 1)) := by
  have hlen1 : Heap.len h kc = some 1 := by simp [Heap.len, C.cnt]
  have hget1 : Heap.get h kc 0 = some (i64 (n : Int)) := by simp [Heap.get, C.cnt]
  have hw1 : IntKind.i64.wrap ((n : Int) + 1) = ((n + 1 : Nat) : Int) := by rw [wrap_id (by omega) (by omega)]; omega
  refine ACall.intro rfl Tryz.func84 rfl (Nat.le_of_ble_eq_true rfl) rfl ?_
  refine w_seq (w_reg (s_s rfl rfl (as_box0 (id := 0) rfl (by first | exact (rfl : _ = D.agg [_, _, _, _, _, _, _, _, _, _]) | exact rfl) (by exact rfl) rfl (by exact (rfl : _ = [_, _, _, _, _, _, _, _, _, _]))) ?_))
  refine s_nil (n_n (w_seq (w_reg (s_q rfl rfl (q_mv (.inl rfl) (is_sc rfl)) ?_))))
  refine s_q rfl rfl (q_mv (.inl rfl) (is_sc rfl)) ?_
  refine s_q rfl rfl (q_field rfl rfl (by exact rfl)) ?_
  refine s_q rfl rfl (q_load rfl rfl (by exact rfl)) ?_
  refine s_q rfl rfl (q_nilNil (.inr rfl) rfl rfl rfl) ?_
  refine s_q rfl rfl (q_mv (.inl rfl) (is_sc rfl)) ?_
  refine s_off rfl rfl ?_
  refine s_off rfl rfl ?_
  refine s_off rfl rfl ?_
  refine s_off rfl rfl ?_
  refine s_q rfl rfl (q_pickF rfl rfl (is_sc rfl)) ?_
  refine s_q rfl rfl (q_pickF rfl rfl (is_sc rfl)) ?_
  refine s_q rfl rfl (q_mv (.inl rfl) (is_sc rfl)) ?_
  refine s_q rfl rfl (q_field rfl rfl (by exact rfl)) ?_
  refine s_q rfl rfl (q_load rfl rfl (by exact rfl)) ?_
  refine s_q rfl rfl (q_nilNil (.inr rfl) rfl rfl rfl) ?_
  refine s_q rfl rfl (q_mv (.inl rfl) (is_sc rfl)) ?_
  refine s_off rfl rfl ?_
  refine s_off rfl rfl ?_
  refine s_off rfl rfl ?_
  refine s_off rfl rfl ?_
  refine s_q rfl rfl (q_pickF rfl rfl (is_sc rfl)) ?_
  refine s_q rfl rfl (q_pickF rfl rfl (is_sc rfl)) ?_
  refine s_q rfl rfl (q_mv (.inr rfl) (is_sc rfl)) ?_
  refine s_nil (n_n (w_seq (w_reg (s_q rfl rfl (q_field rfl rfl (by exact rfl)) ?_))))
  refine s_q rfl rfl (q_load rfl rfl (by exact (rfl : _ = some (D.sc _)))) ?_
  refine s_nil (n_n (w_block (w_seq (w_reg (s_q rfl rfl (q_eql rfl rfl rfl) ?_)))))
  refine s_q rfl rfl (q_mv (.inr rfl) (is_sc rfl)) ?_
  refine s_nil (n_n (w_ifF rfl (w_seq (w_reg (s_q rfl rfl (q_eql rfl rfl rfl) ?_)))))
  refine s_q rfl rfl (q_mv (.inr rfl) (is_sc rfl)) ?_
  refine s_nil (n_n (w_ifT rfl (w_seq (w_seq (w_reg (s_q rfl rfl (q_mv (.inl rfl) (is_sc rfl)) ?_))))))
  refine s_q rfl rfl (q_mv (.inl rfl) (is_sc rfl)) ?_
  refine s_off rfl rfl ?_
  refine s_off rfl rfl ?_
  refine s_q rfl rfl (q_pickF rfl rfl (is_sc rfl)) ?_
  refine s_nil (n_n (w_ifF rfl (w_skip (n_n (w_reg (s_q rfl rfl (q_loadH rfl rfl (d := i64 (n : Int)) (by exact hget1)) ?_))))))
  refine s_q rfl rfl (q_add rfl rfl rfl) ?_
  refine s_u rfl rfl (as_storeP (off := 0) (d := i64 ((n + 1 : Nat) : Int)) rfl rfl (i64_eq hw1) hlen1 (by decide) rfl rfl rfl) ?_
  refine s_nil (b_n ?_)
  -- end 0
  refine r_n ra_nil (by exact (rfl : _ = D.tup [])) (by exact rfl) (Sub.refl _) ?_
  exact put_set C.cnt


-- (*pub-tallysheet/pub/excelize.formulaFuncs).COUNT$1
theorem pf_cntSB (h : Heap) (kc kf n : Nat) (C : Cn h 84 kc kf n) (hn : n < 2000000000) (c : Bool) : ACall Tryz.prog G 84 true [(fBool c).d, bl false, .hp kc 0, .hp kf 0] h (fun _ h' => h' = setC h kc (n + 1)) := by
  have hlen1 : Heap.len h kc = some 1 := by simp [Heap.len, C.cnt]
  have hget1 : Heap.get h kc 0 = some (i64 (n : Int)) := by simp [Heap.get, C.cnt]
  have hw1 : IntKind.i64.wrap ((n : Int) + 1) = ((n + 1 : Nat) : Int) := by rw [wrap_id (by omega) (by omega)]; omega
  refine ACall.intro rfl Tryz.func84 rfl (Nat.le_of_ble_eq_true rfl) rfl ?_
  refine w_seq (w_reg (s_s rfl rfl (as_box0 (id := 0) rfl (by first | exact (rfl : _ = D.agg [_, _, _, _, _, _, _, _, _, _]) | exact rfl) (by exact rfl) rfl (by exact (rfl : _ = [_, _, _, _, _, _, _, _, _, _]))) ?_))
  refine s_nil (n_n (w_seq (w_reg (s_q rfl rfl (q_mv (.inl rfl) (is_sc rfl)) ?_))))
  refine s_q rfl rfl (q_mv (.inl rfl) (is_sc rfl)) ?_
  refine s_q rfl rfl (q_field rfl rfl (by exact rfl)) ?_
  refine s_q rfl rfl (q_load rfl rfl (by exact rfl)) ?_
  refine s_q rfl rfl (q_nilNil (.inr rfl) rfl rfl rfl) ?_
  refine s_q rfl rfl (q_mv (.inl rfl) (is_sc rfl)) ?_
  refine s_off rfl rfl ?_
  refine s_off rfl rfl ?_
  refine s_off rfl rfl ?_
  refine s_off rfl rfl ?_
  refine s_q rfl rfl (q_pickF rfl rfl (is_sc rfl)) ?_
  refine s_q rfl rfl (q_pickF rfl rfl (is_sc rfl)) ?_
  refine s_q rfl rfl (q_mv (.inl rfl) (is_sc rfl)) ?_
  refine s_q rfl rfl (q_field rfl rfl (by exact rfl)) ?_
  refine s_q rfl rfl (q_load rfl rfl (by exact rfl)) ?_
  refine s_q rfl rfl (q_nilNil (.inr rfl) rfl rfl rfl) ?_
  refine s_q rfl rfl (q_mv (.inl rfl) (is_sc rfl)) ?_
  refine s_off rfl rfl ?_
  refine s_off rfl rfl ?_
  refine s_off rfl rfl ?_
  refine s_off rfl rfl ?_
  refine s_q rfl rfl (q_pickF rfl rfl (is_sc rfl)) ?_
  refine s_q rfl rfl (q_pickF rfl rfl (is_sc rfl)) ?_
  refine s_q rfl rfl (q_mv (.inr rfl) (is_sc rfl)) ?_
  refine s_nil (n_n (w_seq (w_reg (s_q rfl rfl (q_field rfl rfl (by exact rfl)) ?_))))
  refine s_q rfl rfl (q_load rfl rfl (by exact (rfl : _ = some (D.sc _)))) ?_
  refine s_nil (n_n (w_block (w_seq (w_reg (s_q rfl rfl (q_eql rfl rfl rfl) ?_)))))
  refine s_q rfl rfl (q_mv (.inr rfl) (is_sc rfl)) ?_
  refine s_nil (n_n (w_ifF rfl (w_seq (w_reg (s_q rfl rfl (q_eql rfl rfl rfl) ?_)))))
  refine s_q rfl rfl (q_mv (.inr rfl) (is_sc rfl)) ?_
  refine s_nil (n_n (w_ifT rfl (w_seq (w_seq (w_reg (s_q rfl rfl (q_mv (.inl rfl) (is_sc rfl)) ?_))))))
  refine s_q rfl rfl (q_mv (.inl rfl) (is_sc rfl)) ?_
  refine s_off rfl rfl ?_
  refine s_off rfl rfl ?_
  refine s_q rfl rfl (q_pickF rfl rfl (is_sc rfl)) ?_
  refine s_nil (n_n (w_ifF rfl (w_skip (n_n (w_reg (s_q rfl rfl (q_loadH rfl rfl (d := i64 (n : Int)) (by exact hget1)) ?_))))))
  refine s_q rfl rfl (q_add rfl rfl rfl) ?_
  refine s_u rfl rfl (as_storeP (off := 0) (d := i64 ((n + 1 : Nat) : Int)) rfl rfl (i64_eq hw1) hlen1 (by decide) rfl rfl rfl) ?_
  refine s_nil (b_n ?_)
  -- end 0
  refine r_n ra_nil (by exact (rfl : _ = D.tup [])) (by exact rfl) (Sub.refl _) ?_
  exact put_set C.cnt


theorem pf_cntCell (h : Heap) (kc kf n : Nat) (C : Cn h 84 kc kf n) (hn : n < 2000000000) (f : F) (hf : IsCell f) : ACall Tryz.prog G 84 true [f.d, bl true, .hp kc 0, .hp kf 0] h (fun _ h' => h' = setC h kc (n + cF f)) := by
  cases hf with
  | num b => exact pf_cntRN h kc kf n C hn b
  | bool c => exact pf_cntRB h kc kf n C hn c
  | str s => exact pf_cntRS h kc kf n C hn s
  | none => exact pf_cntRE h kc kf n C hn


-- (*pub-tallysheet/pub/excelize.formulaFuncs).COUNT$1
theorem pf_cntMat (h : Heap) (kc kf n : Nat) (C : Cn h 84 kc kf n) (hn : n < 2000000000) (hn2 : n < 1000000000) (rows : List (List F)) (kr kx : Nat) (rg : Nat × D) (lx : List Nat) (T : TabAt h kr kx rg lx) (hl : rows.length < 1000000000) (hF : rows.flatten.length < 1000000000) (hc : ∀ f ∈ rows.flatten, IsCell f) : ACall Tryz.prog G 84 true [matF rows kr kx, bl false, .hp kc 0, .hp kf 0] h (fun _ h' => h' = setC h kc (n + cFs rows.flatten)) := by
  obtain ⟨L, hL⟩ : ∃ L, rows.flatten = L := ⟨_, rfl⟩
  have hlist := pf_ToListM (G := G) rows kr kx hl hF
  rw [hL] at hF hc hlist ⊢
  refine ACall.intro rfl Tryz.func84 rfl (Nat.le_of_ble_eq_true rfl) rfl ?_
  refine w_seq (w_reg (s_s rfl rfl (as_box0 (id := 0) rfl (by first | exact (rfl : _ = D.agg [_, _, _, _, _, _, _, _, _, _]) | exact rfl) (by exact rfl) rfl (by exact (rfl : _ = [_, _, _, _, _, _, _, _, _, _]))) ?_))
  refine s_nil (n_n (w_seq (w_reg (s_q rfl rfl (q_mv (.inl rfl) (is_sc rfl)) ?_))))
  refine s_q rfl rfl (q_mv (.inl rfl) (is_sc rfl)) ?_
  refine s_q rfl rfl (q_field rfl rfl (by exact rfl)) ?_
  refine s_q rfl rfl (q_load rfl rfl (by exact rfl)) ?_
  refine s_q rfl rfl (q_ptrNilN rfl rfl rfl rfl) ?_
  refine s_q rfl rfl (q_mv (.inl rfl) (is_sc rfl)) ?_
  refine s_q rfl rfl (q_field rfl rfl (by exact rfl)) ?_
  refine s_q rfl rfl (q_load rfl rfl (by exact rfl)) ?_
  refine s_o rfl rfl (ao_callH rfl rfl rfl rfl (pf_Len _ kr [] T.lr) fun v17 Hv17 hv17 => ?_)
  obtain ⟨rfl, e⟩ := hv17
  rw [e]; clear e
  refine s_q rfl rfl (q_gtr rfl rfl rfl) ?_
  refine s_q rfl rfl (q_pickT rfl rfl (is_sc rfl)) ?_
  refine s_q rfl rfl (q_pickF rfl rfl (is_sc rfl)) ?_
  refine s_q rfl rfl (q_mv (.inl rfl) (is_sc rfl)) ?_
  refine s_q rfl rfl (q_field rfl rfl (by exact rfl)) ?_
  refine s_q rfl rfl (q_load rfl rfl (by exact rfl)) ?_
  refine s_q rfl rfl (q_ptrNilN rfl rfl rfl rfl) ?_
  refine s_q rfl rfl (q_mv (.inl rfl) (is_sc rfl)) ?_
  refine s_q rfl rfl (q_field rfl rfl (by exact rfl)) ?_
  refine s_q rfl rfl (q_load rfl rfl (by exact rfl)) ?_
  refine s_o rfl rfl (ao_callH rfl rfl rfl rfl (pf_Len _ kx [rg] T.lc) fun v28 Hv28 hv28 => ?_)
  obtain ⟨rfl, e⟩ := hv28
  rw [e]; clear e
  refine s_q rfl rfl (q_gtr rfl rfl rfl) ?_
  refine s_q rfl rfl (q_pickT rfl rfl (is_sc rfl)) ?_
  refine s_q rfl rfl (q_pickF rfl rfl (is_sc rfl)) ?_
  refine s_q rfl rfl (q_mv (.inr rfl) (is_sc rfl)) ?_
  refine s_nil (n_n (w_seq (w_reg (s_q rfl rfl (q_field rfl rfl (by exact rfl)) ?_))))
  refine s_q rfl rfl (q_load rfl rfl (by exact (rfl : _ = some (D.sc _)))) ?_
  refine s_nil (n_n (w_block (w_seq (w_reg (s_q rfl rfl (q_eql rfl rfl rfl) ?_)))))
  refine s_q rfl rfl (q_mv (.inr rfl) (is_sc rfl)) ?_
  refine s_nil (n_n (w_ifF rfl (w_seq (w_reg (s_q rfl rfl (q_eql rfl rfl rfl) ?_)))))
  refine s_q rfl rfl (q_mv (.inr rfl) (is_sc rfl)) ?_
  refine s_nil (n_n (w_ifF rfl (w_seq (w_seq (w_reg (s_q rfl rfl (q_eql rfl rfl rfl) ?_))))))
  refine s_q rfl rfl (q_mv (.inr rfl) (is_sc rfl)) ?_
  refine s_nil (n_n (w_ifF rfl (w_reg (s_q rfl rfl (q_eql rfl rfl rfl) ?_))))
  refine s_q rfl rfl (q_mv (.inr rfl) (is_sc rfl)) ?_
  refine s_nil (n_n (w_ifT rfl (w_seq (w_reg (s_q rfl rfl (q_load rfl rfl (by exact (rfl : _ = some (D.agg [_, _, _, _, _, _, _, _, _, _])))) ?_)))))
  refine s_q rfl rfl (q_call rfl rfl rfl rfl hlist) ?_
  refine s_q rfl rfl (q_len rfl rfl rfl) ?_
  refine s_q rfl rfl (q_mv (.inl rfl) (is_sc rfl)) ?_
  refine s_nil (n_n (w_block ?_))
  refine w_loop (fun env A => ∃ (i : Nat) (o : List LO) (hh : Heap), i ≤ L.length ∧ Binds env [(2, .hp kc 0), (3, .hp kf 0), (57, lstF L), (58, i64 L.length), (59, i64 i)] ∧ A = ⟨(.cells [st [], fl 0, st [], .im [] 0, .im (rows.map lstF) rows.length, bl false, st [], .sc (.int .u8 4), .hp kr 0, .hp kx 0] :: o), fun _ => false, 0, hh⟩ ∧ hh = (setC h kc (n + cFs (L.take i)))) (fun env _ => L.length - ctr (env 59)) ?_ ?_
  · refine ⟨0, [], _, Nat.zero_le _, ⟨rfl, rfl, rfl, rfl, rfl, trivial⟩, rfl, ?_⟩
    rw [show cFs (L.take 0) = 0 from rfl, Nat.add_zero, setC_self C]
    rfl
  · rintro env A ⟨i, o, hh, hi, hB, rfl, rfl⟩
    rw [hB.eq]; clear hB
    rw [show (⟨(.cells [st [], fl 0, st [], .im [] 0, .im (rows.map lstF) rows.length, bl false, st [], .sc (.int .u8 4), .hp kr 0, .hp kx 0] :: o), fun _ => false, 0, (setC h kc (n + cFs (L.take i)))⟩ : AH) = ⟨(.cells [st [], fl 0, st [], .im [] 0, .im (rows.map lstF) rows.length, bl false, st [], .sc (.int .u8 4), .hp kr 0, .hp kx 0] :: o) ++ [], fun _ => false, 0, (setC h kc (n + cFs (L.take i)))⟩ by rw [List.append_nil]]
    refine w_seq (w_reg (s_q rfl rfl (q_lss rfl rfl rfl) ?_))
    refine s_nil (n_n (w_seq (w_if (is_scb rfl) (fun h60 => ?_) (fun h60 => ?_))))
    · have hlt : i < L.length := by have h' : (i : Int) < ((L.length : Nat) : Int) := of_decide_eq_true h60; omega
      have hle := cFs_le (L.take i)
      have htk : (L.take i).length ≤ L.length := by rw [List.length_take]; exact Nat.min_le_right _ _
      have hfn : Heap.get (setC h kc (n + cFs (L.take i))) kf 0 = some (.fn 84 [] [.hp kc 0, .hp kf 0]) := by simp only [Heap.get, C.set.fn]; rfl
      have hcell := pf_cntCell (G := G) (setC h kc (n + cFs (L.take i))) kc kf (n + cFs (L.take i)) C.set (by omega) L[i] (hc _ (List.getElem_mem hlt))
      refine w_skip (n_n (w_seq (w_block (w_seq (w_reg (s_q rfl rfl (q_index rfl rfl rfl rfl (Int.natCast_nonneg _) (by omega)) ?_))))))
      refine s_q rfl rfl (q_loadPin rfl rfl (by exact take_lstF hlt)) ?_
      refine s_s rfl rfl (as_allocT (os := (.cells [st [], fl 0, st [], .im [] 0, .im (rows.map lstF) rows.length, bl false, st [], .sc (.int .u8 4), .hp kr 0, .hp kx 0] :: o)) (tail := []) rfl rfl rfl (by exact (rfl : _ = [_, _, _, _, _, _, _, _, _, _]))) ?_
      refine s_u rfl rfl (as_stT (os := (.cells [st [], fl 0, st [], .im [] 0, .im (rows.map lstF) rows.length, bl false, st [], .sc (.int .u8 4), .hp kr 0, .hp kx 0] :: o)) (tail := [_]) (j := 0) rfl rfl rfl (by first | exact (rfl : _ = D.agg [_, _, _, _, _, _, _, _, _, _]) | exact rfl) (by exact rfl) (by exact rfl) (by exact rfl) (by exact Nat.le_of_ble_eq_true rfl) (by exact (rfl : _ = [_, _, _, _, _, _, _, _, _, _])) (by exact (rfl : _ = [_]))) ?_
      refine s_nil (n_n (w_reg (s_q rfl rfl (q_loadH rfl rfl (d := .fn 84 [] [.hp kc 0, .hp kf 0]) (by exact hfn)) ?_)))
      refine s_q rfl rfl (q_loadT (os := (.cells [st [], fl 0, st [], .im [] 0, .im (rows.map lstF) rows.length, bl false, st [], .sc (.int .u8 4), .hp kr 0, .hp kx 0] :: o)) (tail := [_]) (j := 0) rfl rfl rfl (by exact rfl) (by exact (rfl : _ = some (D.agg [_, _, _, _, _, _, _, _, _, _])))) ?_
      refine s_o rfl rfl (ao_callH rfl rfl rfl rfl hcell fun v65 Hv65 hv65 => ?_)
      refine s_nil (b_n (n_n (w_reg (s_q rfl rfl (q_add rfl rfl rfl) ?_))))
      refine s_q rfl rfl (q_mv (.inl rfl) (is_sc rfl)) ?_
      refine s_nil (n_n ?_)
      have hw : IntKind.i64.wrap ((i : Int) + 1) = ((i + 1 : Nat) : Int) := wrap_nat (by omega)
      refine ⟨⟨i + 1, _, _, hlt, ⟨rfl, rfl, rfl, rfl, i64_eq hw, trivial⟩, rfl, ?_⟩, ?_⟩
      · rw [hv65, setC_set, cFs_succ hlt, Nat.add_assoc]
      · show L.length - (IntKind.i64.wrap ((i : Int) + 1)).toNat < L.length - (i : Int).toNat
        rw [hw]; omega
    · have hge : L.length ≤ i := by have h' : ¬ (i : Int) < ((L.length : Nat) : Int) := of_decide_eq_false h60; omega
      rw [List.take_of_length_le hge]
      refine w_exit (n_e (n_e (b_hit (b_n ?_))))
      -- end 0
      refine r_n ra_nil (by exact (rfl : _ = D.tup [])) (by exact rfl) (Sub.refl _) ?_
      rfl

end Go.Proofs.YtpjckdhgefbonaaGreatDoor.Zz
namespace Go.Proofs.YtpjckdhgefbonaaGreatDoor.Zz
open Go.Abs
set_option maxRecDepth 100000
set_option linter.unusedVariables false
set_option linter.unusedSimpArgs false
set_option maxHeartbeats 4000000
variable {G : Nat → D}

-- (*pub-tallysheet/pub/excelize.formulaFuncs).COUNT
theorem pf_COUNT (h : Heap) (kfn lk : Nat) (es : List (Nat × D)) (H : IsList h lk es) (R : List (List F)) (kr kx : Nat) (rg : Nat × D) (fs : List F) (hes : es.map (·.2) = WL 79 R kr kx fs) (T : TabAt h kr kx rg (lk :: es.map (·.1))) (hR : R.length < 1000000000) (hF : R.flatten.length < 900000000) (hc : ∀ f ∈ R.flatten, IsCell f) (hs : ∀ f ∈ fs, (∃ b, f = fNum b) ∨ ∃ c, f = fBool c) (hfs : fs.length < 1000) : ACall Tryz.prog G 55 true [.hp kfn 0, .hp lk 0] h (fun ret _ => ret = (fNum (clean (FloatKind.f64.nearest ((cFs R.flatten + fs.length : Nat) : Int)))).d) := by
  refine ACall.intro rfl Tryz.func55 rfl (Nat.le_of_ble_eq_true rfl) rfl ?_
  refine w_seq (w_reg (s_s rfl rfl (as_alloc0 (id := 0) rfl rfl (by exact (rfl : _ = [_, _, _, _, _, _, _, _, _, _]))) ?_))
  refine s_nil (n_n (w_seq (w_reg (s_o rfl rfl (ao_allocH rfl fun k5 hk5 => ?_)))))
  refine s_nil (n_n (w_seq (w_reg (s_o rfl rfl (ao_allocH rfl fun k6 hk6 => ?_)))))
  refine s_nil (n_n (w_seq (w_reg (s_q rfl rfl (q_func rfl rfl rfl) ?_))))
  have hk5' : h k5 = none := hk5
  have hk6' : (if k6 = k5 then some [D.sc (.int .i64 0)] else h k6) = none := hk6
  have hk65 : ¬ k6 = k5 := fun e => by rw [if_pos e] at hk6'; cases hk6'
  have hk60 : h k6 = none := by rw [if_neg hk65] at hk6'; exact hk6'
  refine s_u rfl rfl (as_storeP (off := 0) (n := 1) (d := .fn 84 [] [.hp k5 0, .hp k6 0]) rfl rfl rfl (by simp [Heap.len, AH.hset]) (by decide) rfl rfl rfl) ?_
  have K0 : Keep h (Heap.put (fun x => if x = k6 then some [D.sc .nilFunc] else if x = k5 then some [D.sc (.int .i64 0)] else h x) k6 0 (.fn 84 [] [.hp k5 0, .hp k6 0])) [] := fun x _ hn => by
    have e5 : ¬ x = k5 := fun e => hn (e ▸ hk5')
    have e6 : ¬ x = k6 := fun e => hn (e ▸ hk60)
    exact (put_off e6).trans ((if_neg e6).trans (if_neg e5))
  have C0 : Cn (Heap.put (fun x => if x = k6 then some [D.sc .nilFunc] else if x = k5 then some [D.sc (.int .i64 0)] else h x) k6 0 (.fn 84 [] [.hp k5 0, .hp k6 0])) 84 k5 k6 0 := ⟨by rw [put_off (Ne.symm hk65), if_neg (Ne.symm hk65), if_pos rfl]; rfl, by unfold Heap.put; rw [if_pos rfl]; show Option.map _ (if k6 = k6 then _ else _) = _; rw [if_pos rfl]; rfl, hk65⟩
  have HL0 := H.keep K0 (fun x _ => by simp)
  have T0 : TabAt (Heap.put (fun x => if x = k6 then some [D.sc .nilFunc] else if x = k5 then some [D.sc (.int .i64 0)] else h x) k6 0 (.fn 84 [] [.hp k5 0, .hp k6 0])) kr kx rg [k5] := by
    have h1 := T.keep K0 (fun x hx => by cases hx)
    exact ⟨h1.lr, h1.lc, h1.ne, by
      have n1 : ¬ kr = k5 := fun e => T.lr.some (x := kr) List.mem_cons_self (e ▸ hk5')
      have n2 : ¬ kx = k5 := fun e => T.lc.some (x := kx) List.mem_cons_self (e ▸ hk5')
      have n3 : ¬ rg.1 = k5 := fun e => T.lc.some (x := rg.1) (by simp) (e ▸ hk5')
      simp [n1, n2, n3]⟩
  have hoff : k5 ∉ lk :: es.map (·.1) := fun e => H.some e hk5'
  have hle : es.length = fs.length + 1 := by have := congrArg List.length hes; simpa [WL] using this
  refine s_nil (n_n (w_seq (w_seq (w_reg (s_q rfl rfl (q_mv (.inl rfl) (by first | exact is_box rfl | exact is_hp rfl | exact is_pin rfl | exact is_sc rfl | exact rfl)) ?_)))))
  refine s_o rfl rfl (ao_callH rfl rfl rfl rfl (pf_Front _ lk es HL0 (by omega) (by omega)) fun vfr Hvfr hvfr => ?_)
  obtain ⟨rfl, e⟩ := hvfr
  rw [e]; clear e
  refine s_q rfl rfl (q_mv (.inr rfl) (by first | exact is_box rfl | exact is_hp rfl | exact is_pin rfl | exact is_sc rfl | exact rfl)) ?_
  refine s_nil (n_n (w_block ?_))
  obtain ⟨H0, hH0⟩ : ∃ H0, (Heap.put (fun x => if x = k6 then some [D.sc .nilFunc] else if x = k5 then some [D.sc (.int .i64 0)] else h x) k6 0 (.fn 84 [] [.hp k5 0, .hp k6 0])) = H0 := ⟨_, rfl⟩
  have hH0' := hH0
  rw [hH0] at C0 HL0 T0 K0
  have HLs : ∀ m, IsList (setC H0 k5 m) lk es := fun m => HL0.keep (keep_set H0 k5 m) (fun x hx e => hoff (by rw [List.mem_singleton.1 e] at hx; exact hx))
  have Ts : ∀ m, TabAt (setC H0 k5 m) kr kx rg [k5] := fun m => T0.keep (keep_set H0 k5 m) (fun x hx => hx)
  have hcf := cFs_le R.flatten
  refine w_loop (fun env A => ∃ (i : Nat) (hh : Heap), i ≤ es.length ∧ Binds env [(4, .box 0 0), (5, .hp k5 0), (6, .hp k6 0), (7, ptrAt es i)] ∧ A = ⟨[.cells [.sc (.string ⟨⟨[]⟩⟩), .sc (.float .f64 0), .sc (.string ⟨⟨[]⟩⟩), .sc (.slice none 0 0), .sc (.slice none 0 0), .sc (.bool false), .sc (.string ⟨⟨[]⟩⟩), .sc (.int .u8 0), .sc (.pointer none), .sc (.pointer none)]], fun _ => false, 0, hh⟩ ∧ hh = setC H0 k5 (if i = 0 then 0 else cFs R.flatten + (i - 1))) (fun env _ => es.length - idxE es (env 7)) ?_ ?_
  · refine ⟨0, _, Nat.zero_le _, ⟨rfl, rfl, rfl, (ptrAt_lt (by omega)).symm, trivial⟩, rfl, ?_⟩
    rw [if_pos rfl, setC_self C0, ← hH0']
  · rintro env A ⟨i, hh, hi, hB, rfl, rfl⟩
    rw [hB.eq]; clear hB
    refine w_seq (w_seq (w_reg (s_q rfl rfl (q_mv (.inl rfl) (by first | exact is_box rfl | exact is_hp rfl | exact is_pin rfl | exact is_sc rfl | exact rfl)) ?_)))
    refine s_q rfl rfl (q_ptrAt rfl rfl rfl) ?_
    refine s_nil (n_n (w_if (is_scb rfl) (fun h12 => ?_) (fun h12 => ?_)))
    · have hlt : i < es.length := of_decide_eq_true h12
      rw [ptrAt_lt hlt]
      have hfn : Heap.get (setC H0 k5 (if i = 0 then 0 else cFs R.flatten + (i - 1))) k6 0 = some (.fn 84 [] [.hp k5 0, .hp k6 0]) := by simp only [Heap.get, C0.set.fn]; rfl
      obtain ⟨w, hval, hext, hcall⟩ : ∃ w, Heap.get (setC H0 k5 (if i = 0 then 0 else cFs R.flatten + (i - 1))) es[i].1 3 = some (.ifc 79 w) ∧ ext w = true ∧ ACall Tryz.prog G 84 true [w, bl false, .hp k5 0, .hp k6 0] (setC H0 k5 (if i = 0 then 0 else cFs R.flatten + (i - 1))) (fun _ h' => h' = setC H0 k5 (if (i + 1) = 0 then 0 else cFs R.flatten + ((i + 1) - 1))) := by
        have hv : Heap.get (setC H0 k5 (if i = 0 then 0 else cFs R.flatten + (i - 1))) es[i].1 3 = some ((WL 79 R kr kx fs)[i]'(by simp [WL]; omega)) := by
          rw [(HLs _).val _ (List.getElem_mem hlt)]
          have h1 : (es.map (·.2))[i]'(by simpa using hlt) = es[i].2 := by simp
          rw [← h1]; simp [hes]
        rcases Nat.eq_zero_or_pos i with h0 | h0
        · subst h0
          refine ⟨matF R kr kx, hv, rfl, ?_⟩
          have := pf_cntMat (G := G) _ k5 k6 0 (C0.set (m := 0)) (by omega) (by omega) R kr kx rg [k5] (Ts 0) hR (by omega) hc
          rw [setC_set] at this
          simpa using this
        · obtain ⟨j, rfl⟩ : ∃ j, i = j + 1 := ⟨i - 1, by omega⟩
          have hj : j < fs.length := by omega
          refine ⟨fs[j].d, by simpa [WL] using hv, rfl, ?_⟩
          have hn1 : (if j + 1 = 0 then 0 else cFs R.flatten + (j + 1 - 1)) = cFs R.flatten + j := by simp
          have hn2 : (if j + 1 + 1 = 0 then 0 else cFs R.flatten + (j + 1 + 1 - 1)) = cFs R.flatten + j + 1 := by simp; omega
          rw [hn1, hn2]
          rcases hs _ (List.getElem_mem hj) with ⟨b, hb⟩ | ⟨c, hb⟩
          · rw [hb]; have := pf_cntSN (G := G) _ k5 k6 _ (C0.set (m := cFs R.flatten + j)) (by omega) b; rw [setC_set] at this; exact this
          · rw [hb]; have := pf_cntSB (G := G) _ k5 k6 _ (C0.set (m := cFs R.flatten + j)) (by omega) c; rw [setC_set] at this; exact this
      refine w_skip (n_n (w_seq (w_block (w_draw [0, 0, 2, 6, 14, 30, 63] [1, 0, 0, 0, 1, 0, 4] rfl ?_))))
      refine d_q1 rfl rfl (q_loadH rfl rfl (d := .fn 84 [] [.hp k5 0, .hp k6 0]) (by exact hfn)) ?_
      refine d_q0 rfl rfl (q_mv (.inl rfl) (by first | exact is_box rfl | exact is_hp rfl | exact is_pin rfl | exact is_sc rfl | exact rfl)) ?_
      refine d_q0 rfl rfl (q_nil rfl rfl rfl) ?_
      refine d_q0 rfl rfl (q_field rfl rfl (by exact rfl)) ?_
      refine d_q1 rfl rfl (q_loadH rfl rfl (d := .ifc 79 w) (by exact hval)) ?_
      refine d_q0 rfl rfl (q_asr rfl rfl) ?_
      refine d_o4 rfl rfl (ao_callHN (ds := [w, bl false, .hp k5 0, .hp k6 0]) rfl rfl rfl (by simp [ext.extL, ext, hext]) hcall fun v21 Hv21 hv21 => ?_)
      subst hv21
      refine b_n (n_n (w_reg (s_q rfl rfl (q_mv (.inl rfl) (by first | exact is_box rfl | exact is_hp rfl | exact is_pin rfl | exact is_sc rfl | exact rfl)) ?_)))
      refine s_o rfl rfl (ao_callH rfl rfl rfl rfl (pf_Next _ lk es (HLs _) i hlt) fun vnx Hvnx hvnx => ?_)
      obtain ⟨rfl, e⟩ := hvnx
      rw [e]; clear e
      refine s_q rfl rfl (q_mv (.inr rfl) (by first | exact is_box rfl | exact is_hp rfl | exact is_pin rfl | exact is_sc rfl | exact rfl)) ?_
      refine s_nil (n_n ?_)
      refine ⟨⟨i + 1, _, hlt, ⟨rfl, rfl, rfl, rfl, trivial⟩, rfl, rfl⟩, mu_step HL0 hlt⟩
    · have hge : es.length ≤ i := by have := of_decide_eq_false h12; omega
      have htot : (if i = 0 then 0 else cFs R.flatten + (i - 1)) = cFs R.flatten + fs.length := by rw [if_neg (by omega)]; omega
      rw [htot]
      have hget : Heap.get (setC H0 k5 (cFs R.flatten + fs.length)) k5 0 = some (i64 ((cFs R.flatten + fs.length : Nat) : Int)) := by simp [Heap.get, setC]
      have hf : Fx (FloatKind.f64.nearest ((cFs R.flatten + fs.length : Nat) : Int)) (((cFs R.flatten + fs.length : Nat) : Int) * (unit : Nat)) := fv_nearest (by omega)
      refine w_exit (n_e (n_e (b_hit (n_n (w_seq (w_reg (s_q rfl rfl (q_loadH rfl rfl (d := i64 ((cFs R.flatten + fs.length : Nat) : Int)) (by exact hget)) ?_)))))))
      refine s_q rfl rfl (q_cif rfl rfl) ?_
      refine s_q rfl rfl (q_call rfl rfl rfl rfl (pf_newNum _ _ hf)) ?_
      refine s_u rfl rfl (as_st rfl rfl (by first | exact (rfl : _ = D.agg [_, _, _, _, _, _, _, _, _, _]) | exact rfl) rfl (by exact rfl) (by exact rfl) (by exact Nat.le_of_ble_eq_true rfl) (by exact (rfl : _ = [_, _, _, _, _, _, _, _, _, _]))) ?_
      refine s_nil (n_n (w_ret ?_))
      -- end 0
      refine r_r (ra_cell (by exact (rfl : _ = some (D.agg [_, _, _, _, _, _, _, _, _, _]))) ra_nil) (by first | exact (rfl : _ = D.agg [_, _, _, _, _, _, _, _, _, _]) | exact rfl) (by exact rfl) (Sub.refl _) ?_
      rfl

end Go.Proofs.YtpjckdhgefbonaaGreatDoor.Zz
