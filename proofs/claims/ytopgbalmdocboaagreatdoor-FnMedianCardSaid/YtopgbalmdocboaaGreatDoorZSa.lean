/- Walks of the functions, printed by program, and the logic behind them: each theorem says what one function or one step answers. -/
import Derived.Test.YtopgbalmdocboaaGreatDoorZI
import Derived.Test.YtopgbalmdocboaaGreatDoorZSrt
import Derived.Test.YtopgbalmdocboaaGreatDoorZQ
namespace Go.Proofs.YtopgbalmdocboaaGreatDoor.Zz
open Go.Abs
set_option maxRecDepth 100000
set_option linter.unusedVariables false
set_option linter.unusedSimpArgs false
set_option maxHeartbeats 4000000
variable {G : Nat → D}
open Go.Sort
instance : UN Tryz.prog 244 (.int .i64) := ⟨Tryz.underlying244⟩
instance : UN Tryz.prog 284 (.pointer 3) := ⟨Tryz.underlying284⟩
instance : NI Tryz.prog 244 := ⟨⟨_, Tryz.underlying244, by intro _ h; cases h⟩⟩
instance : NI Tryz.prog 284 := ⟨⟨_, Tryz.underlying284, by intro _ h; cases h⟩⟩
instance : ZV Tryz.prog 280 8 [.int .u64 0] := ZV.of Tryz.typeInfo280 rfl rfl rfl rfl rfl
instance : FN Tryz.prog 154 := ⟨Tryz.call154⟩
instance : FN Tryz.prog 247 := ⟨Tryz.call247⟩
instance : FN Tryz.prog 248 := ⟨Tryz.call248⟩
instance : FN Tryz.prog 268 := ⟨Tryz.call268⟩
instance : FN Tryz.prog 269 := ⟨Tryz.call269⟩
instance : FN Tryz.prog 270 := ⟨Tryz.call270⟩
instance : FN Tryz.prog 271 := ⟨Tryz.call271⟩
instance : FN Tryz.prog 272 := ⟨Tryz.call272⟩
instance : FN Tryz.prog 273 := ⟨Tryz.call273⟩
instance : FN Tryz.prog 274 := ⟨Tryz.call274⟩
instance : FN Tryz.prog 275 := ⟨Tryz.call275⟩
instance : FN Tryz.prog 276 := ⟨Tryz.call276⟩
instance : FN Tryz.prog 277 := ⟨Tryz.call277⟩
instance : FN Tryz.prog 302 := ⟨Tryz.call302⟩
instance : FN Tryz.prog 303 := ⟨Tryz.call303⟩
instance : FN Tryz.prog 304 := ⟨Tryz.call304⟩
instance : FN Tryz.prog 305 := ⟨Tryz.call305⟩
instance : FN Tryz.prog 306 := ⟨Tryz.call306⟩
instance : FN Tryz.prog 307 := ⟨Tryz.call307⟩
instance : FN Tryz.prog 342 := ⟨Tryz.call342⟩

theorem nan_no (x : FF) : fcmp .neq .f64 x.b x.b = false := by rw [fcmp_ne, fcmp_eq x.h x.h]; simp
theorem lss_q (x y : FF) : fcmp .lss .f64 x.b y.b = ltQ x y := (fcmp_lt x.h y.h).1


-- cmp.isNaN[float64]
theorem pf_so_isNaN (x : FF) : PF Tryz.prog G 307 [fl x.b] (bl false) := by
  refine PC.intro rfl Tryz.func307 rfl (Nat.le_of_ble_eq_true rfl) rfl ?_
  refine w_seq (w_reg (s_q rfl rfl (q_mv (.inr rfl) (is_sc rfl)) ?_))
  refine s_nil (n_n (w_seq (w_reg (s_q rfl rfl (q_mv (.inl rfl) (is_sc rfl)) ?_))))
  refine s_q rfl rfl (q_mv (.inl rfl) (is_sc rfl)) ?_
  refine s_q rfl rfl (q_fcmpV rfl rfl rfl rfl (nan_no x)) ?_
  refine s_q rfl rfl (q_mv (.inr rfl) (is_sc rfl)) ?_
  refine s_nil (n_n (w_ret ?_))
  -- end 0
  refine r_r (ra_tmp (is_sc rfl) ra_nil) (by exact (is_sc rfl)) (by exact rfl) sub_no ?_
  rfl


-- cmp.Less[float64]
theorem pf_so_Less (x y : FF) : PF Tryz.prog G 274 [fl x.b, fl y.b] (bl (ltQ x y)) := by
  refine PC.intro rfl Tryz.func274 rfl (Nat.le_of_ble_eq_true rfl) rfl ?_
  refine w_seq (w_reg (s_q rfl rfl (q_mv (.inr rfl) (is_sc rfl)) ?_))
  refine s_nil (n_n (w_seq (w_reg (s_q rfl rfl (q_mv (.inl rfl) (is_sc rfl)) ?_))))
  refine s_q rfl rfl (q_call rfl rfl rfl rfl (pf_so_isNaN _)) ?_
  refine s_q rfl rfl (q_mv (.inl rfl) (is_sc rfl)) ?_
  refine s_off rfl rfl ?_
  refine s_off rfl rfl ?_
  refine s_off rfl rfl ?_
  refine s_q rfl rfl (q_pickF rfl rfl (is_sc rfl)) ?_
  refine s_q rfl rfl (q_mv (.inl rfl) (is_sc rfl)) ?_
  refine s_q rfl rfl (q_mv (.inl rfl) (is_sc rfl)) ?_
  refine s_q rfl rfl (q_mv (.inl rfl) (is_sc rfl)) ?_
  refine s_q rfl rfl (q_as (bl_eq (lss_q x y)) (q_fcmp rfl rfl rfl rfl)) ?_
  refine s_q rfl rfl (q_pickF rfl rfl (is_sc rfl)) ?_
  refine s_q rfl rfl (q_mv (.inr rfl) (is_sc rfl)) ?_
  refine s_nil (n_n (w_ret ?_))
  -- end 0
  refine r_r (ra_tmp (is_sc rfl) ra_nil) (by exact (is_sc rfl)) (by exact rfl) sub_no ?_
  rfl


-- slices.insertionSortOrdered[float64]
theorem pf_so_ins (h : Heap) (id cap n : Nat) (d : Array FF) (sp : List D) (hn : d.size = n) (hn9 : n ≤ 1000000) (a b : Nat) (hab : a ≤ b) (hb : b ≤ n) : ACall Tryz.prog G 268 true [.hs id 0 n cap, i64 a, i64 b] (setH h id (fls d ++ sp)) (fun _ h' => h' = setH h id (fls (insertionSort ltQ d a b) ++ sp)) := by
  refine ACall.intro rfl Tryz.func268 rfl (Nat.le_of_ble_eq_true rfl) rfl ?_
  refine w_seq (w_reg (s_q rfl rfl (q_mv (.inl rfl) (is_sc rfl)) ?_))
  refine s_q rfl rfl (q_as (i64_eq ((wrap_id (by omega) (by omega)).trans (by omega) : _ = ((a + 1 : Nat) : Int))) (q_add rfl rfl rfl)) ?_
  refine s_q rfl rfl (q_mv (.inr rfl) (is_sc rfl)) ?_
  refine s_nil (n_n (w_block ?_))
  refine w_loop (fun env A => ∃ (i : Nat) (d' : Array FF), a + 1 ≤ i ∧ d'.size = n ∧ insOuter ltQ a b i d' = (insertionSort ltQ d a b) ∧ Binds env [(0, .hs id 0 n cap), (1, i64 a), (2, i64 b), (6, i64 i)] ∧ A = AH.start (setH h id (fls d' ++ sp))) (fun env _ => b - ctr (env 6)) ?_ ?_
  · exact ⟨a + 1, d, Nat.le_refl _, hn, rfl, ⟨rfl, rfl, rfl, rfl, trivial⟩, rfl⟩
  · rintro env A ⟨i, d', hi, hd', hT, hB, rfl⟩
    rw [hB.eq]; clear hB
    refine w_seq (w_seq (w_reg (s_q rfl rfl (q_mv (.inl rfl) (is_sc rfl)) ?_)))
    refine s_q rfl rfl (q_mv (.inl rfl) (is_sc rfl)) ?_
    refine s_q rfl rfl (q_lss rfl rfl rfl) ?_
    refine s_nil (n_n (w_if (is_scb rfl) (fun h12 => ?_) (fun h12 => ?_)))
    · have hlt : i < b := by have h' : (i : Int) < ((b : Nat) : Int) := of_decide_eq_true h12; omega
      refine w_skip (n_n (w_seq (w_block (w_seq (w_reg (s_q rfl rfl (q_mv (.inl rfl) (is_sc rfl)) ?_))))))
      refine s_q rfl rfl (q_mv (.inr rfl) (is_sc rfl)) ?_
      refine s_nil (n_n (w_block ?_))
      refine w_loop (fun env A => ∃ (j : Nat) (d2 : Array FF), a ≤ j ∧ j ≤ i ∧ d2.size = n ∧ insOuter ltQ a b (i + 1) (insInner ltQ a j d2) = (insertionSort ltQ d a b) ∧ Binds env [(0, .hs id 0 n cap), (1, i64 a), (2, i64 b), (6, i64 i), (7, i64 j)] ∧ A = AH.start (setH h id (fls d2 ++ sp))) (fun env _ => ctr (env 7)) ?_ ?_
      · exact ⟨i, d', by omega, Nat.le_refl _, hd', by rw [← insO_go hlt]; exact hT, ⟨rfl, rfl, rfl, rfl, rfl, trivial⟩, rfl⟩
      · clear hT hd'
        rintro env A ⟨j, d2, hj1, hj2, hd2, hT, hB, rfl⟩
        rw [hB.eq]; clear hB
        refine w_seq (w_seq (w_draw [0, 0, 3, 7, 15, 15, 63, 127, 15, 15, 527, 1807, 3855, 8191, 16383] [0, 0, 0, 0, 0, 0, 0, 1, 0, 0, 0, 0, 1, 0, 0] rfl ?_))
        refine d_q0 rfl rfl (q_mv (.inl rfl) (is_sc rfl)) ?_
        refine d_q0 rfl rfl (q_mv (.inl rfl) (is_sc rfl)) ?_
        refine d_q0 rfl rfl (q_gtr rfl rfl rfl) ?_
        refine d_q0 rfl rfl (q_mv (.inl rfl) (is_sc rfl)) ?_
        refine d_split 19 (is_scb rfl) (fun h18 => ?_) (fun h18 => ?_)
        · have hja : a < j := by have h' : (a : Int) < (j : Int) := of_decide_eq_true h18; omega
          refine d_q0 rfl rfl (q_mv (.inl rfl) (by first | exact is_im rfl | exact is_gs rfl | exact is_lit rfl | exact is_ms rfl | exact is_sc rfl | exact rfl)) ?_
          refine d_q0 rfl rfl (q_mv (.inl rfl) (is_sc rfl)) ?_
          refine d_q0 rfl rfl (q_indexHs rfl rfl rfl (by omega) (by omega)) ?_
          refine d_q1 rfl rfl (q_loadF (i := j) (d := d2) rfl rfl rfl (by omega) (by omega)) ?_
          refine d_q0 rfl rfl (q_mv (.inl rfl) (by first | exact is_im rfl | exact is_gs rfl | exact is_lit rfl | exact is_ms rfl | exact is_sc rfl | exact rfl)) ?_
          refine d_q0 rfl rfl (q_mv (.inl rfl) (is_sc rfl)) ?_
          refine d_q0 rfl rfl (q_as (i64_eq ((wrap_id (by omega) (by omega)).trans (by omega) : _ = ((j - 1 : Nat) : Int))) (q_sub rfl rfl rfl)) ?_
          refine d_q0 rfl rfl (q_indexHs rfl rfl rfl (by omega) (by omega)) ?_
          refine d_q1 rfl rfl (q_loadF (i := j - 1) (d := d2) rfl rfl rfl (by omega) (by omega)) ?_
          refine d_q0 rfl rfl (q_call rfl rfl rfl rfl (pf_so_Less _ _)) ?_
          refine d_q0 rfl rfl (q_pickT rfl rfl (is_sc rfl)) ?_
          refine d_nil (n_n (w_if (is_scb rfl) (fun h30 => ?_) (fun h30 => ?_)))
          · have hls : ltQ d2[j]! d2[j - 1]! = true := h30
            refine w_skip (n_n (w_seq (w_block (w_draw [0, 0, 0, 0, 8, 0, 0, 64, 224, 480, 0, 0, 3072, 7168, 16355, 32739, 65535, 131071] [0, 0, 0, 0, 0, 0, 0, 0, 0, 1, 0, 0, 0, 1, 0, 3, 0, 3] rfl ?_))))
            refine d_q0 rfl rfl (q_mv (.inl rfl) (by first | exact is_im rfl | exact is_gs rfl | exact is_lit rfl | exact is_ms rfl | exact is_sc rfl | exact rfl)) ?_
            refine d_q0 rfl rfl (q_mv (.inl rfl) (is_sc rfl)) ?_
            refine d_q0 rfl rfl (q_mv (.inl rfl) (by first | exact is_im rfl | exact is_gs rfl | exact is_lit rfl | exact is_ms rfl | exact is_sc rfl | exact rfl)) ?_
            refine d_q0 rfl rfl (q_mv (.inl rfl) (is_sc rfl)) ?_
            refine d_q0 rfl rfl (q_as (i64_eq ((wrap_id (by omega) (by omega)).trans (by omega) : _ = ((j - 1 : Nat) : Int))) (q_sub rfl rfl rfl)) ?_
            refine d_q0 rfl rfl (q_mv (.inl rfl) (by first | exact is_im rfl | exact is_gs rfl | exact is_lit rfl | exact is_ms rfl | exact is_sc rfl | exact rfl)) ?_
            refine d_q0 rfl rfl (q_mv (.inl rfl) (is_sc rfl)) ?_
            refine d_q0 rfl rfl (q_as (i64_eq ((wrap_id (by omega) (by omega)).trans (by omega) : _ = ((j - 1 : Nat) : Int))) (q_sub rfl rfl rfl)) ?_
            refine d_q0 rfl rfl (q_indexHs rfl rfl rfl (by omega) (by omega)) ?_
            refine d_q1 rfl rfl (q_loadF (i := j - 1) (d := d2) rfl rfl rfl (by omega) (by omega)) ?_
            refine d_q0 rfl rfl (q_mv (.inl rfl) (by first | exact is_im rfl | exact is_gs rfl | exact is_lit rfl | exact is_ms rfl | exact is_sc rfl | exact rfl)) ?_
            refine d_q0 rfl rfl (q_mv (.inl rfl) (is_sc rfl)) ?_
            refine d_q0 rfl rfl (q_indexHs rfl rfl rfl (by omega) (by omega)) ?_
            refine d_q1 rfl rfl (q_loadF (i := j) (d := d2) rfl rfl rfl (by omega) (by omega)) ?_
            refine d_q0 rfl rfl (q_indexHs rfl rfl rfl (by omega) (by omega)) ?_
            refine d_u3 rfl rfl (as_storeF (i := j) (d := d2) (d2[j - 1]!) rfl rfl rfl rfl (by omega) (by first | omega | (simp; omega))) ?_
            refine d_q0 rfl rfl (q_indexHs rfl rfl rfl (by omega) (by omega)) ?_
            refine d_u3 rfl rfl (as_storeF (i := j - 1) (d := (d2.setIfInBounds j d2[j - 1]!)) (d2[j]!) rfl rfl rfl rfl (by omega) (by first | omega | (simp; omega))) ?_
            refine d_nil (b_n (n_n (w_reg (s_q rfl rfl (q_mv (.inl rfl) (is_sc rfl)) ?_))))
            refine s_q rfl rfl (q_as (i64_eq ((wrap_id (by omega) (by omega)).trans (by omega) : _ = ((j - 1 : Nat) : Int))) (q_sub rfl rfl rfl)) ?_
            refine s_q rfl rfl (q_mv (.inr rfl) (is_sc rfl)) ?_
            refine s_nil (n_n ?_)
            refine ⟨⟨j - 1, swp d2 j (j - 1), by omega, by omega, by rw [size_swp]; exact hd2, by rw [← ins_go hja hls]; exact hT, ⟨rfl, rfl, rfl, rfl, rfl, trivial⟩, rfl⟩, ?_⟩
            show (((j - 1 : Nat) : Int)).toNat < ((j : Nat) : Int).toNat
            omega
          · have hls : ltQ d2[j]! d2[j - 1]! = false := h30
            have hT2 : insOuter ltQ a b (i + 1) d2 = (insertionSort ltQ d a b) := by rw [← hT, ins_no (by rw [hls]; simp)]
            refine w_exit (n_e (n_e (b_hit (b_n (n_n (w_reg (s_q rfl rfl (q_mv (.inl rfl) (is_sc rfl)) ?_)))))))
            refine s_q rfl rfl (q_add rfl rfl rfl) ?_
            refine s_q rfl rfl (q_mv (.inr rfl) (is_sc rfl)) ?_
            refine s_nil (n_n ?_)
            have hw : IntKind.i64.wrap ((i : Int) + 1) = ((i + 1 : Nat) : Int) := wrap_nat (by omega)
            refine ⟨⟨i + 1, d2, by omega, hd2, hT2, ⟨rfl, rfl, rfl, i64_eq hw, trivial⟩, rfl⟩, ?_⟩
            show b - (IntKind.i64.wrap ((i : Int) + 1)).toNat < b - (i : Int).toNat
            rw [hw]; omega
        · have hja : ¬ a < j := by have h' : ¬ (a : Int) < (j : Int) := of_decide_eq_false h18; omega
          have hT2 : insOuter ltQ a b (i + 1) d2 = (insertionSort ltQ d a b) := by rw [← hT, ins_no (by exact fun h => hja h.1)]
          refine d_off rfl rfl ?_
          refine d_off rfl rfl ?_
          refine d_off rfl rfl ?_
          refine d_off rfl rfl ?_
          refine d_off rfl rfl ?_
          refine d_off rfl rfl ?_
          refine d_off rfl rfl ?_
          refine d_off rfl rfl ?_
          refine d_off rfl rfl ?_
          refine d_off rfl rfl ?_
          refine d_q0 rfl rfl (q_pickF rfl rfl (is_sc rfl)) ?_
          refine d_nil (n_n (w_ifF rfl (w_exit (n_e (n_e (b_hit (b_n (n_n (w_reg (s_q rfl rfl (q_mv (.inl rfl) (is_sc rfl)) ?_))))))))))
          refine s_q rfl rfl (q_add rfl rfl rfl) ?_
          refine s_q rfl rfl (q_mv (.inr rfl) (is_sc rfl)) ?_
          refine s_nil (n_n ?_)
          have hw : IntKind.i64.wrap ((i : Int) + 1) = ((i + 1 : Nat) : Int) := wrap_nat (by omega)
          refine ⟨⟨i + 1, d2, by omega, hd2, hT2, ⟨rfl, rfl, rfl, i64_eq hw, trivial⟩, rfl⟩, ?_⟩
          show b - (IntKind.i64.wrap ((i : Int) + 1)).toNat < b - (i : Int).toNat
          rw [hw]; omega
    · have hge : ¬ i < b := by have h' : ¬ (i : Int) < ((b : Nat) : Int) := of_decide_eq_false h12; omega
      rw [insO_no (by omega)] at hT
      refine w_exit (n_e (n_e (b_hit ?_)))
      -- end 0
      refine r_n ra_nil (by exact (rfl : _ = D.tup [])) (by exact rfl) (Sub.refl _) ?_
      rw [hT]; rfl

end Go.Proofs.YtopgbalmdocboaaGreatDoor.Zz
namespace Go.Proofs.YtopgbalmdocboaaGreatDoor.Zz
open Go.Abs
set_option maxRecDepth 100000
set_option linter.unusedVariables false
set_option linter.unusedSimpArgs false
set_option maxHeartbeats 4000000
variable {G : Nat → D}
open Go.Sort

-- slices.reverseRangeOrdered[float64]
theorem pf_so_rev (h : Heap) (id cap n : Nat) (d : Array FF) (sp : List D) (hn : d.size = n) (hn9 : n ≤ 1000000) (a b : Nat) (hab : a < b) (hb : b ≤ n) : ACall Tryz.prog G 272 true [.hs id 0 n cap, i64 a, i64 b] (setH h id (fls d ++ sp)) (fun _ h' => h' = setH h id (fls (reverseRange d a b) ++ sp)) := by
  refine ACall.intro rfl Tryz.func272 rfl (Nat.le_of_ble_eq_true rfl) rfl ?_
  refine w_seq (w_reg (s_q rfl rfl (q_mv (.inl rfl) (is_sc rfl)) ?_))
  refine s_q rfl rfl (q_mv (.inr rfl) (is_sc rfl)) ?_
  refine s_nil (n_n (w_seq (w_reg (s_q rfl rfl (q_mv (.inl rfl) (is_sc rfl)) ?_))))
  refine s_q rfl rfl (q_as (i64_eq ((wrap_id (by omega) (by omega)).trans (by omega) : _ = ((b - 1 : Nat) : Int))) (q_sub rfl rfl rfl)) ?_
  refine s_q rfl rfl (q_mv (.inr rfl) (is_sc rfl)) ?_
  refine s_nil (n_n (w_block ?_))
  refine w_loop (fun env A => ∃ (i j : Nat) (d' : Array FF), a ≤ i ∧ j < b ∧ i ≤ j + 1 ∧ d'.size = n ∧ reverseLoop i j d' = reverseRange d a b ∧ Binds env [(0, .hs id 0 n cap), (6, i64 i), (7, i64 j)] ∧ A = AH.start (setH h id (fls d' ++ sp))) (fun env _ => ctr (env 7) - ctr (env 6)) ?_ ?_
  · exact ⟨a, b - 1, d, Nat.le_refl _, by omega, by omega, hn, rfl, ⟨rfl, rfl, rfl, trivial⟩, rfl⟩
  · rintro env A ⟨i, j, d', hi, hj, hij, hd', hT, hB, rfl⟩
    rw [hB.eq]; clear hB
    refine w_seq (w_seq (w_reg (s_q rfl rfl (q_mv (.inl rfl) (is_sc rfl)) ?_)))
    refine s_q rfl rfl (q_mv (.inl rfl) (is_sc rfl)) ?_
    refine s_q rfl rfl (q_lss rfl rfl rfl) ?_
    refine s_nil (n_n (w_if (is_scb rfl) (fun h13 => ?_) (fun h13 => ?_)))
    · have hlt : i < j := by have h' : (i : Int) < ((j : Nat) : Int) := of_decide_eq_true h13; omega
      refine w_skip (n_n (w_block (w_seq (w_draw [0, 0, 0, 0, 0, 0, 48, 112, 0, 0, 768, 1792, 4083, 8179, 16383, 32767] [0, 0, 0, 0, 0, 0, 0, 1, 0, 0, 0, 1, 0, 3, 0, 3] rfl ?_))))
      refine d_q0 rfl rfl (q_mv (.inl rfl) (by first | exact is_im rfl | exact is_gs rfl | exact is_lit rfl | exact is_ms rfl | exact is_sc rfl | exact rfl)) ?_
      refine d_q0 rfl rfl (q_mv (.inl rfl) (is_sc rfl)) ?_
      refine d_q0 rfl rfl (q_mv (.inl rfl) (by first | exact is_im rfl | exact is_gs rfl | exact is_lit rfl | exact is_ms rfl | exact is_sc rfl | exact rfl)) ?_
      refine d_q0 rfl rfl (q_mv (.inl rfl) (is_sc rfl)) ?_
      refine d_q0 rfl rfl (q_mv (.inl rfl) (by first | exact is_im rfl | exact is_gs rfl | exact is_lit rfl | exact is_ms rfl | exact is_sc rfl | exact rfl)) ?_
      refine d_q0 rfl rfl (q_mv (.inl rfl) (is_sc rfl)) ?_
      refine d_q0 rfl rfl (q_indexHs rfl rfl rfl (by omega) (by omega)) ?_
      refine d_q1 rfl rfl (q_loadF (i := j) (d := d') rfl rfl rfl (by omega) (by omega)) ?_
      refine d_q0 rfl rfl (q_mv (.inl rfl) (by first | exact is_im rfl | exact is_gs rfl | exact is_lit rfl | exact is_ms rfl | exact is_sc rfl | exact rfl)) ?_
      refine d_q0 rfl rfl (q_mv (.inl rfl) (is_sc rfl)) ?_
      refine d_q0 rfl rfl (q_indexHs rfl rfl rfl (by omega) (by omega)) ?_
      refine d_q1 rfl rfl (q_loadF (i := i) (d := d') rfl rfl rfl (by omega) (by omega)) ?_
      refine d_q0 rfl rfl (q_indexHs rfl rfl rfl (by omega) (by omega)) ?_
      refine d_u3 rfl rfl (as_storeF (i := i) (d := d') (d'[j]!) rfl rfl rfl rfl (by omega) (by first | omega | (simp; omega))) ?_
      refine d_q0 rfl rfl (q_indexHs rfl rfl rfl (by omega) (by omega)) ?_
      refine d_u3 rfl rfl (as_storeF (i := j) (d := (d'.setIfInBounds i d'[j]!)) (d'[i]!) rfl rfl rfl rfl (by omega) (by first | omega | (simp; omega))) ?_
      refine d_nil (n_n (w_seq (w_reg (s_q rfl rfl (q_mv (.inl rfl) (is_sc rfl)) ?_))))
      refine s_q rfl rfl (q_as (i64_eq ((wrap_id (by omega) (by omega)).trans (by omega) : _ = ((i + 1 : Nat) : Int))) (q_add rfl rfl rfl)) ?_
      refine s_q rfl rfl (q_mv (.inr rfl) (is_sc rfl)) ?_
      refine s_nil (n_n (w_reg (s_q rfl rfl (q_mv (.inl rfl) (is_sc rfl)) ?_)))
      refine s_q rfl rfl (q_as (i64_eq ((wrap_id (by omega) (by omega)).trans (by omega) : _ = ((j - 1 : Nat) : Int))) (q_sub rfl rfl rfl)) ?_
      refine s_q rfl rfl (q_mv (.inr rfl) (is_sc rfl)) ?_
      refine s_nil (b_n (n_n ?_))
      refine ⟨⟨i + 1, j - 1, swp d' i j, by omega, by omega, by omega, by rw [size_swp]; exact hd', by rw [← rev_go hlt]; exact hT, ⟨rfl, rfl, rfl, trivial⟩, rfl⟩, ?_⟩
      show (((j - 1 : Nat) : Int)).toNat - (((i + 1 : Nat) : Int)).toNat < ((j : Nat) : Int).toNat - ((i : Nat) : Int).toNat
      omega
    · have hge : ¬ i < j := by have h' : ¬ (i : Int) < ((j : Nat) : Int) := of_decide_eq_false h13; omega
      rw [rev_no (by omega)] at hT
      refine w_exit (n_e (n_e (b_hit ?_)))
      -- end 0
      refine r_n ra_nil (by exact (rfl : _ = D.tup [])) (by exact rfl) (Sub.refl _) ?_
      rw [hT]; rfl


-- slices.siftDownOrdered[float64]
theorem pf_so_sift (h : Heap) (id cap n : Nat) (d : Array FF) (sp : List D) (hn : d.size = n) (hn9 : n ≤ 1000000) (lo hi first : Nat) (hf : first + hi ≤ n) (hlo : lo ≤ n) : ACall Tryz.prog G 302 true [.hs id 0 n cap, i64 lo, i64 hi, i64 first] (setH h id (fls d ++ sp)) (fun _ h' => h' = setH h id (fls (siftDown ltQ hi first lo d) ++ sp)) := by
  refine ACall.intro rfl Tryz.func302 rfl (Nat.le_of_ble_eq_true rfl) rfl ?_
  refine w_seq (w_reg (s_q rfl rfl (q_mv (.inl rfl) (is_sc rfl)) ?_))
  refine s_q rfl rfl (q_mv (.inr rfl) (is_sc rfl)) ?_
  refine s_nil (n_n (w_block ?_))
  refine w_loop (fun env A => ∃ (r : Nat) (d' : Array FF), r ≤ n ∧ d'.size = n ∧ siftDown ltQ hi first r d' = (siftDown ltQ hi first lo d) ∧ Binds env [(0, .hs id 0 n cap), (2, i64 hi), (3, i64 first), (8, i64 r)] ∧ A = AH.start (setH h id (fls d' ++ sp))) (fun env _ => n - ctr (env 8)) ?_ ?_
  · exact ⟨lo, d, by omega, hn, rfl, ⟨rfl, rfl, rfl, rfl, trivial⟩, rfl⟩
  · rintro env A ⟨r, d', hr, hd', hT, hB, rfl⟩
    rw [hB.eq]; clear hB
    refine w_block (w_seq (w_reg (s_q rfl rfl (q_mv (.inl rfl) (is_sc rfl)) ?_)))
    refine s_q rfl rfl (q_as (i64_eq ((wrap_id (by omega) (by omega)).trans (by omega) : _ = ((2 * r : Nat) : Int))) (q_mul rfl rfl rfl)) ?_
    refine s_q rfl rfl (q_as (i64_eq ((wrap_id (by omega) (by omega)).trans (by omega) : _ = ((2 * r + 1 : Nat) : Int))) (q_add rfl rfl rfl)) ?_
    refine s_q rfl rfl (q_mv (.inr rfl) (is_sc rfl)) ?_
    refine s_nil (n_n (w_seq (w_seq (w_reg (s_q rfl rfl (q_mv (.inl rfl) (is_sc rfl)) ?_)))))
    refine s_q rfl rfl (q_mv (.inl rfl) (is_sc rfl)) ?_
    refine s_q rfl rfl (q_geq rfl rfl rfl) ?_
    refine s_nil (n_n (w_if (is_scb rfl) (fun h16 => ?_) (fun h16 => ?_)))
    · have hch : hi ≤ 2 * r + 1 := by have h' : (hi : Int) ≤ ((2 * r + 1 : Nat) : Int) := of_decide_eq_true h16; omega
      rw [sift_stop hch] at hT
      refine w_exit (n_e (b_miss rfl (n_e (b_hit ?_))))
      -- end 0
      refine r_n ra_nil (by exact (rfl : _ = D.tup [])) (by exact rfl) (Sub.refl _) ?_
      rw [hT]; rfl
    · have hch : ¬ hi ≤ 2 * r + 1 := by have h' : ¬ (hi : Int) ≤ ((2 * r + 1 : Nat) : Int) := of_decide_eq_false h16; omega
      refine w_skip (n_n (w_seq (w_seq (w_draw [0, 1, 0, 7, 15, 31, 31, 31, 223, 511, 1023, 31, 31, 31, 12319, 28703, 63519, 129055, 262143, 524287] [0, 0, 0, 0, 0, 0, 0, 0, 0, 0, 1, 0, 0, 0, 0, 0, 0, 1, 0, 0] rfl ?_))))
      refine d_q0 rfl rfl (q_mv (.inl rfl) (is_sc rfl)) ?_
      refine d_q0 rfl rfl (q_as (i64_eq ((wrap_id (by omega) (by omega)).trans (by omega) : _ = ((2 * r + 2 : Nat) : Int))) (q_add rfl rfl rfl)) ?_
      refine d_q0 rfl rfl (q_mv (.inl rfl) (is_sc rfl)) ?_
      refine d_q0 rfl rfl (q_lss rfl rfl rfl) ?_
      refine d_q0 rfl rfl (q_mv (.inl rfl) (is_sc rfl)) ?_
      refine d_split 21 (is_scb rfl) (fun h20 => ?_) (fun h20 => ?_)
      · have hc2 : 2 * r + 1 + 1 < hi := by have h' : ((2 * r + 2 : Nat) : Int) < (hi : Int) := of_decide_eq_true h20; omega
        refine d_q0 rfl rfl (q_mv (.inl rfl) (by first | exact is_im rfl | exact is_gs rfl | exact is_lit rfl | exact is_ms rfl | exact is_sc rfl | exact rfl)) ?_
        refine d_q0 rfl rfl (q_mv (.inl rfl) (is_sc rfl)) ?_
        refine d_q0 rfl rfl (q_mv (.inl rfl) (is_sc rfl)) ?_
        refine d_q0 rfl rfl (q_as (i64_eq ((wrap_id (by omega) (by omega)).trans (by omega) : _ = ((first + (2 * r + 1) : Nat) : Int))) (q_add rfl rfl rfl)) ?_
        refine d_q0 rfl rfl (q_indexHs rfl rfl rfl (by omega) (by omega)) ?_
        refine d_q1 rfl rfl (q_loadF (i := first + (2 * r + 1)) (d := d') rfl rfl rfl (by omega) (by omega)) ?_
        refine d_q0 rfl rfl (q_mv (.inl rfl) (by first | exact is_im rfl | exact is_gs rfl | exact is_lit rfl | exact is_ms rfl | exact is_sc rfl | exact rfl)) ?_
        refine d_q0 rfl rfl (q_mv (.inl rfl) (is_sc rfl)) ?_
        refine d_q0 rfl rfl (q_mv (.inl rfl) (is_sc rfl)) ?_
        refine d_q0 rfl rfl (q_as (i64_eq ((wrap_id (by omega) (by omega)).trans (by omega) : _ = ((first + (2 * r + 1) : Nat) : Int))) (q_add rfl rfl rfl)) ?_
        refine d_q0 rfl rfl (q_as (i64_eq ((wrap_id (by omega) (by omega)).trans (by omega) : _ = ((first + (2 * r + 1) + 1 : Nat) : Int))) (q_add rfl rfl rfl)) ?_
        refine d_q0 rfl rfl (q_indexHs rfl rfl rfl (by omega) (by omega)) ?_
        refine d_q1 rfl rfl (q_loadF (i := first + (2 * r + 1) + 1) (d := d') rfl rfl rfl (by omega) (by omega)) ?_
        refine d_q0 rfl rfl (q_call rfl rfl rfl rfl (pf_so_Less _ _)) ?_
        refine d_q0 rfl rfl (q_pickT rfl rfl (is_sc rfl)) ?_
        refine d_nil (n_n (w_if (is_scb rfl) (fun h36 => ?_) (fun h36 => ?_)))
        · obtain ⟨c, hc⟩ : ∃ c, c = 2 * r + 2 := ⟨_, rfl⟩
          have hcb : c < hi ∧ r < c := by omega
          have hst : siftDown ltQ hi first r d' = if ltQ d'[first + r]! d'[first + c]! = false then d' else siftDown ltQ hi first c (swp d' (first + r) (first + c)) := by rw [hc]; exact sift_two hch hc2 h36
          refine w_reg (s_q rfl rfl (q_mv (.inl rfl) (is_sc rfl)) ?_)
          refine s_q rfl rfl (q_as (i64_eq ((wrap_id (by omega) (by omega)).trans (by omega) : _ = ((2 * r + 2 : Nat) : Int))) (q_add rfl rfl rfl)) ?_
          refine s_q rfl rfl (q_mv (.inr rfl) (is_sc rfl)) ?_
          refine s_nil (n_n (w_seq (w_seq (w_draw [0, 0, 0, 6, 15, 31, 0, 0, 0, 384, 960, 1984, 4095, 8191] [0, 0, 0, 0, 0, 1, 0, 0, 0, 0, 0, 1, 0, 0] rfl ?_))))
          refine d_q0 rfl rfl (q_mv (.inl rfl) (by first | exact is_im rfl | exact is_gs rfl | exact is_lit rfl | exact is_ms rfl | exact is_sc rfl | exact rfl)) ?_
          refine d_q0 rfl rfl (q_mv (.inl rfl) (is_sc rfl)) ?_
          refine d_q0 rfl rfl (q_mv (.inl rfl) (is_sc rfl)) ?_
          refine d_q0 rfl rfl (q_as (i64_eq ((wrap_id (by omega) (by omega)).trans (by omega) : _ = ((first + r : Nat) : Int))) (q_add rfl rfl rfl)) ?_
          refine d_q0 rfl rfl (q_indexHs rfl rfl rfl (by omega) (by omega)) ?_
          refine d_q1 rfl rfl (q_loadF (i := first + r) (d := d') rfl rfl rfl (by omega) (by omega)) ?_
          refine d_q0 rfl rfl (q_mv (.inl rfl) (by first | exact is_im rfl | exact is_gs rfl | exact is_lit rfl | exact is_ms rfl | exact is_sc rfl | exact rfl)) ?_
          refine d_q0 rfl rfl (q_mv (.inl rfl) (is_sc rfl)) ?_
          refine d_q0 rfl rfl (q_mv (.inl rfl) (is_sc rfl)) ?_
          refine d_q0 rfl rfl (q_as (i64_eq ((wrap_id (by omega) (by omega)).trans (by omega) : _ = ((first + c : Nat) : Int))) (q_add rfl rfl rfl)) ?_
          refine d_q0 rfl rfl (q_indexHs rfl rfl rfl (by omega) (by omega)) ?_
          refine d_q1 rfl rfl (q_loadF (i := first + c) (d := d') rfl rfl rfl (by omega) (by omega)) ?_
          refine d_q0 rfl rfl (q_call rfl rfl rfl rfl (pf_so_Less _ _)) ?_
          refine d_q0 rfl rfl (q_not rfl rfl) ?_
          refine d_nil (n_n (w_if (is_scb rfl) (fun h52 => ?_) (fun h52 => ?_)))
          · have hls : ltQ d'[first + r]! d'[first + c]! = false := by simpa using h52
            rw [if_pos hls] at hst
            refine w_ret (n_r (b_r (n_r (b_r ?_))))
            -- end 1
            refine r_r ra_nil (by exact (rfl : _ = D.tup [])) (by exact rfl) (Sub.refl _) ?_
            rw [← hT, hst]; rfl
          · have hls : ltQ d'[first + r]! d'[first + c]! = true := by simpa using h52
            rw [if_neg (by rw [hls]; simp)] at hst
            refine w_skip (n_n (w_seq (w_draw [0, 0, 0, 6, 0, 0, 0, 96, 0, 0, 0, 1536, 3840, 7936, 0, 0, 0, 98304, 245760, 507904, 1048335, 2096911, 4194303, 8388607] [0, 0, 0, 0, 0, 0, 0, 0, 0, 0, 0, 0, 0, 1, 0, 0, 0, 0, 0, 1, 0, 3, 0, 3] rfl ?_)))
            refine d_q0 rfl rfl (q_mv (.inl rfl) (by first | exact is_im rfl | exact is_gs rfl | exact is_lit rfl | exact is_ms rfl | exact is_sc rfl | exact rfl)) ?_
            refine d_q0 rfl rfl (q_mv (.inl rfl) (is_sc rfl)) ?_
            refine d_q0 rfl rfl (q_mv (.inl rfl) (is_sc rfl)) ?_
            refine d_q0 rfl rfl (q_as (i64_eq ((wrap_id (by omega) (by omega)).trans (by omega) : _ = ((first + r : Nat) : Int))) (q_add rfl rfl rfl)) ?_
            refine d_q0 rfl rfl (q_mv (.inl rfl) (by first | exact is_im rfl | exact is_gs rfl | exact is_lit rfl | exact is_ms rfl | exact is_sc rfl | exact rfl)) ?_
            refine d_q0 rfl rfl (q_mv (.inl rfl) (is_sc rfl)) ?_
            refine d_q0 rfl rfl (q_mv (.inl rfl) (is_sc rfl)) ?_
            refine d_q0 rfl rfl (q_as (i64_eq ((wrap_id (by omega) (by omega)).trans (by omega) : _ = ((first + c : Nat) : Int))) (q_add rfl rfl rfl)) ?_
            refine d_q0 rfl rfl (q_mv (.inl rfl) (by first | exact is_im rfl | exact is_gs rfl | exact is_lit rfl | exact is_ms rfl | exact is_sc rfl | exact rfl)) ?_
            refine d_q0 rfl rfl (q_mv (.inl rfl) (is_sc rfl)) ?_
            refine d_q0 rfl rfl (q_mv (.inl rfl) (is_sc rfl)) ?_
            refine d_q0 rfl rfl (q_as (i64_eq ((wrap_id (by omega) (by omega)).trans (by omega) : _ = ((first + c : Nat) : Int))) (q_add rfl rfl rfl)) ?_
            refine d_q0 rfl rfl (q_indexHs rfl rfl rfl (by omega) (by omega)) ?_
            refine d_q1 rfl rfl (q_loadF (i := first + c) (d := d') rfl rfl rfl (by omega) (by omega)) ?_
            refine d_q0 rfl rfl (q_mv (.inl rfl) (by first | exact is_im rfl | exact is_gs rfl | exact is_lit rfl | exact is_ms rfl | exact is_sc rfl | exact rfl)) ?_
            refine d_q0 rfl rfl (q_mv (.inl rfl) (is_sc rfl)) ?_
            refine d_q0 rfl rfl (q_mv (.inl rfl) (is_sc rfl)) ?_
            refine d_q0 rfl rfl (q_as (i64_eq ((wrap_id (by omega) (by omega)).trans (by omega) : _ = ((first + r : Nat) : Int))) (q_add rfl rfl rfl)) ?_
            refine d_q0 rfl rfl (q_indexHs rfl rfl rfl (by omega) (by omega)) ?_
            refine d_q1 rfl rfl (q_loadF (i := first + r) (d := d') rfl rfl rfl (by omega) (by omega)) ?_
            refine d_q0 rfl rfl (q_indexHs rfl rfl rfl (by omega) (by omega)) ?_
            refine d_u3 rfl rfl (as_storeF (i := first + r) (d := d') (d'[first + c]!) rfl rfl rfl rfl (by omega) (by first | omega | (simp; omega))) ?_
            refine d_q0 rfl rfl (q_indexHs rfl rfl rfl (by omega) (by omega)) ?_
            refine d_u3 rfl rfl (as_storeF (i := first + c) (d := (d'.setIfInBounds (first + r) d'[first + c]!)) (d'[first + r]!) rfl rfl rfl rfl (by omega) (by first | omega | (simp; omega))) ?_
            refine d_nil (n_n (w_reg (s_q rfl rfl (q_mv (.inl rfl) (is_sc rfl)) ?_)))
            refine s_q rfl rfl (q_mv (.inr rfl) (is_sc rfl)) ?_
            refine s_nil (b_n (n_n ?_))
            refine ⟨⟨c, swp d' (first + r) (first + c), by omega, by rw [size_swp]; exact hd', by rw [← hst]; exact hT, ⟨rfl, rfl, rfl, i64_eq (by omega), trivial⟩, rfl⟩, ?_⟩
            show n - (((2 * r + 2 : Nat) : Int)).toNat < n - ((r : Nat) : Int).toNat
            omega
        · obtain ⟨c, hc⟩ : ∃ c, c = 2 * r + 1 := ⟨_, rfl⟩
          have hcb : c < hi ∧ r < c := by omega
          have hst : siftDown ltQ hi first r d' = if ltQ d'[first + r]! d'[first + c]! = false then d' else siftDown ltQ hi first c (swp d' (first + r) (first + c)) := by rw [hc]; exact sift_one hch (fun h => by have h9 := h.2; rw [show ltQ d'[first + (2 * r + 1)]! d'[first + (2 * r + 1) + 1]! = false from h36] at h9; cases h9)
          refine w_skip (n_n (w_seq (w_seq (w_draw [0, 0, 0, 6, 15, 31, 0, 0, 0, 384, 960, 1984, 4095, 8191] [0, 0, 0, 0, 0, 1, 0, 0, 0, 0, 0, 1, 0, 0] rfl ?_))))
          refine d_q0 rfl rfl (q_mv (.inl rfl) (by first | exact is_im rfl | exact is_gs rfl | exact is_lit rfl | exact is_ms rfl | exact is_sc rfl | exact rfl)) ?_
          refine d_q0 rfl rfl (q_mv (.inl rfl) (is_sc rfl)) ?_
          refine d_q0 rfl rfl (q_mv (.inl rfl) (is_sc rfl)) ?_
          refine d_q0 rfl rfl (q_as (i64_eq ((wrap_id (by omega) (by omega)).trans (by omega) : _ = ((first + r : Nat) : Int))) (q_add rfl rfl rfl)) ?_
          refine d_q0 rfl rfl (q_indexHs rfl rfl rfl (by omega) (by omega)) ?_
          refine d_q1 rfl rfl (q_loadF (i := first + r) (d := d') rfl rfl rfl (by omega) (by omega)) ?_
          refine d_q0 rfl rfl (q_mv (.inl rfl) (by first | exact is_im rfl | exact is_gs rfl | exact is_lit rfl | exact is_ms rfl | exact is_sc rfl | exact rfl)) ?_
          refine d_q0 rfl rfl (q_mv (.inl rfl) (is_sc rfl)) ?_
          refine d_q0 rfl rfl (q_mv (.inl rfl) (is_sc rfl)) ?_
          refine d_q0 rfl rfl (q_as (i64_eq ((wrap_id (by omega) (by omega)).trans (by omega) : _ = ((first + c : Nat) : Int))) (q_add rfl rfl rfl)) ?_
          refine d_q0 rfl rfl (q_indexHs rfl rfl rfl (by omega) (by omega)) ?_
          refine d_q1 rfl rfl (q_loadF (i := first + c) (d := d') rfl rfl rfl (by omega) (by omega)) ?_
          refine d_q0 rfl rfl (q_call rfl rfl rfl rfl (pf_so_Less _ _)) ?_
          refine d_q0 rfl rfl (q_not rfl rfl) ?_
          refine d_nil (n_n (w_if (is_scb rfl) (fun h52 => ?_) (fun h52 => ?_)))
          · have hls : ltQ d'[first + r]! d'[first + c]! = false := by simpa using h52
            rw [if_pos hls] at hst
            refine w_ret (n_r (b_r (n_r (b_r ?_))))
            -- end 2
            refine r_r ra_nil (by exact (rfl : _ = D.tup [])) (by exact rfl) (Sub.refl _) ?_
            rw [← hT, hst]; rfl
          · have hls : ltQ d'[first + r]! d'[first + c]! = true := by simpa using h52
            rw [if_neg (by rw [hls]; simp)] at hst
            refine w_skip (n_n (w_seq (w_draw [0, 0, 0, 6, 0, 0, 0, 96, 0, 0, 0, 1536, 3840, 7936, 0, 0, 0, 98304, 245760, 507904, 1048335, 2096911, 4194303, 8388607] [0, 0, 0, 0, 0, 0, 0, 0, 0, 0, 0, 0, 0, 1, 0, 0, 0, 0, 0, 1, 0, 3, 0, 3] rfl ?_)))
            refine d_q0 rfl rfl (q_mv (.inl rfl) (by first | exact is_im rfl | exact is_gs rfl | exact is_lit rfl | exact is_ms rfl | exact is_sc rfl | exact rfl)) ?_
            refine d_q0 rfl rfl (q_mv (.inl rfl) (is_sc rfl)) ?_
            refine d_q0 rfl rfl (q_mv (.inl rfl) (is_sc rfl)) ?_
            refine d_q0 rfl rfl (q_as (i64_eq ((wrap_id (by omega) (by omega)).trans (by omega) : _ = ((first + r : Nat) : Int))) (q_add rfl rfl rfl)) ?_
            refine d_q0 rfl rfl (q_mv (.inl rfl) (by first | exact is_im rfl | exact is_gs rfl | exact is_lit rfl | exact is_ms rfl | exact is_sc rfl | exact rfl)) ?_
            refine d_q0 rfl rfl (q_mv (.inl rfl) (is_sc rfl)) ?_
            refine d_q0 rfl rfl (q_mv (.inl rfl) (is_sc rfl)) ?_
            refine d_q0 rfl rfl (q_as (i64_eq ((wrap_id (by omega) (by omega)).trans (by omega) : _ = ((first + c : Nat) : Int))) (q_add rfl rfl rfl)) ?_
            refine d_q0 rfl rfl (q_mv (.inl rfl) (by first | exact is_im rfl | exact is_gs rfl | exact is_lit rfl | exact is_ms rfl | exact is_sc rfl | exact rfl)) ?_
            refine d_q0 rfl rfl (q_mv (.inl rfl) (is_sc rfl)) ?_
            refine d_q0 rfl rfl (q_mv (.inl rfl) (is_sc rfl)) ?_
            refine d_q0 rfl rfl (q_as (i64_eq ((wrap_id (by omega) (by omega)).trans (by omega) : _ = ((first + c : Nat) : Int))) (q_add rfl rfl rfl)) ?_
            refine d_q0 rfl rfl (q_indexHs rfl rfl rfl (by omega) (by omega)) ?_
            refine d_q1 rfl rfl (q_loadF (i := first + c) (d := d') rfl rfl rfl (by omega) (by omega)) ?_
            refine d_q0 rfl rfl (q_mv (.inl rfl) (by first | exact is_im rfl | exact is_gs rfl | exact is_lit rfl | exact is_ms rfl | exact is_sc rfl | exact rfl)) ?_
            refine d_q0 rfl rfl (q_mv (.inl rfl) (is_sc rfl)) ?_
            refine d_q0 rfl rfl (q_mv (.inl rfl) (is_sc rfl)) ?_
            refine d_q0 rfl rfl (q_as (i64_eq ((wrap_id (by omega) (by omega)).trans (by omega) : _ = ((first + r : Nat) : Int))) (q_add rfl rfl rfl)) ?_
            refine d_q0 rfl rfl (q_indexHs rfl rfl rfl (by omega) (by omega)) ?_
            refine d_q1 rfl rfl (q_loadF (i := first + r) (d := d') rfl rfl rfl (by omega) (by omega)) ?_
            refine d_q0 rfl rfl (q_indexHs rfl rfl rfl (by omega) (by omega)) ?_
            refine d_u3 rfl rfl (as_storeF (i := first + r) (d := d') (d'[first + c]!) rfl rfl rfl rfl (by omega) (by first | omega | (simp; omega))) ?_
            refine d_q0 rfl rfl (q_indexHs rfl rfl rfl (by omega) (by omega)) ?_
            refine d_u3 rfl rfl (as_storeF (i := first + c) (d := (d'.setIfInBounds (first + r) d'[first + c]!)) (d'[first + r]!) rfl rfl rfl rfl (by omega) (by first | omega | (simp; omega))) ?_
            refine d_nil (n_n (w_reg (s_q rfl rfl (q_mv (.inl rfl) (is_sc rfl)) ?_)))
            refine s_q rfl rfl (q_mv (.inr rfl) (is_sc rfl)) ?_
            refine s_nil (b_n (n_n ?_))
            refine ⟨⟨c, swp d' (first + r) (first + c), by omega, by rw [size_swp]; exact hd', by rw [← hst]; exact hT, ⟨rfl, rfl, rfl, i64_eq (by omega), trivial⟩, rfl⟩, ?_⟩
            show n - (((2 * r + 1 : Nat) : Int)).toNat < n - ((r : Nat) : Int).toNat
            omega
      · have hc2 : ¬ 2 * r + 1 + 1 < hi := by have h' : ¬ ((2 * r + 2 : Nat) : Int) < (hi : Int) := of_decide_eq_false h20; omega
        obtain ⟨c, hc⟩ : ∃ c, c = 2 * r + 1 := ⟨_, rfl⟩
        have hcb : c < hi ∧ r < c := by omega
        have hst : siftDown ltQ hi first r d' = if ltQ d'[first + r]! d'[first + c]! = false then d' else siftDown ltQ hi first c (swp d' (first + r) (first + c)) := by rw [hc]; exact sift_one hch (fun h => hc2 h.1)
        refine d_off rfl rfl ?_
        refine d_off rfl rfl ?_
        refine d_off rfl rfl ?_
        refine d_off rfl rfl ?_
        refine d_off rfl rfl ?_
        refine d_off rfl rfl ?_
        refine d_off rfl rfl ?_
        refine d_off rfl rfl ?_
        refine d_off rfl rfl ?_
        refine d_off rfl rfl ?_
        refine d_off rfl rfl ?_
        refine d_off rfl rfl ?_
        refine d_off rfl rfl ?_
        refine d_off rfl rfl ?_
        refine d_q0 rfl rfl (q_pickF rfl rfl (is_sc rfl)) ?_
        refine d_nil (n_n (w_ifF rfl (w_skip (n_n (w_seq (w_seq (w_draw [0, 0, 0, 6, 15, 31, 0, 0, 0, 384, 960, 1984, 4095, 8191] [0, 0, 0, 0, 0, 1, 0, 0, 0, 0, 0, 1, 0, 0] rfl ?_)))))))
        refine d_q0 rfl rfl (q_mv (.inl rfl) (by first | exact is_im rfl | exact is_gs rfl | exact is_lit rfl | exact is_ms rfl | exact is_sc rfl | exact rfl)) ?_
        refine d_q0 rfl rfl (q_mv (.inl rfl) (is_sc rfl)) ?_
        refine d_q0 rfl rfl (q_mv (.inl rfl) (is_sc rfl)) ?_
        refine d_q0 rfl rfl (q_as (i64_eq ((wrap_id (by omega) (by omega)).trans (by omega) : _ = ((first + r : Nat) : Int))) (q_add rfl rfl rfl)) ?_
        refine d_q0 rfl rfl (q_indexHs rfl rfl rfl (by omega) (by omega)) ?_
        refine d_q1 rfl rfl (q_loadF (i := first + r) (d := d') rfl rfl rfl (by omega) (by omega)) ?_
        refine d_q0 rfl rfl (q_mv (.inl rfl) (by first | exact is_im rfl | exact is_gs rfl | exact is_lit rfl | exact is_ms rfl | exact is_sc rfl | exact rfl)) ?_
        refine d_q0 rfl rfl (q_mv (.inl rfl) (is_sc rfl)) ?_
        refine d_q0 rfl rfl (q_mv (.inl rfl) (is_sc rfl)) ?_
        refine d_q0 rfl rfl (q_as (i64_eq ((wrap_id (by omega) (by omega)).trans (by omega) : _ = ((first + c : Nat) : Int))) (q_add rfl rfl rfl)) ?_
        refine d_q0 rfl rfl (q_indexHs rfl rfl rfl (by omega) (by omega)) ?_
        refine d_q1 rfl rfl (q_loadF (i := first + c) (d := d') rfl rfl rfl (by omega) (by omega)) ?_
        refine d_q0 rfl rfl (q_call rfl rfl rfl rfl (pf_so_Less _ _)) ?_
        refine d_q0 rfl rfl (q_not rfl rfl) ?_
        refine d_nil (n_n (w_if (is_scb rfl) (fun h52 => ?_) (fun h52 => ?_)))
        · have hls : ltQ d'[first + r]! d'[first + c]! = false := by simpa using h52
          rw [if_pos hls] at hst
          refine w_ret (n_r (b_r (n_r (b_r ?_))))
          -- end 3
          refine r_r ra_nil (by exact (rfl : _ = D.tup [])) (by exact rfl) (Sub.refl _) ?_
          rw [← hT, hst]; rfl
        · have hls : ltQ d'[first + r]! d'[first + c]! = true := by simpa using h52
          rw [if_neg (by rw [hls]; simp)] at hst
          refine w_skip (n_n (w_seq (w_draw [0, 0, 0, 6, 0, 0, 0, 96, 0, 0, 0, 1536, 3840, 7936, 0, 0, 0, 98304, 245760, 507904, 1048335, 2096911, 4194303, 8388607] [0, 0, 0, 0, 0, 0, 0, 0, 0, 0, 0, 0, 0, 1, 0, 0, 0, 0, 0, 1, 0, 3, 0, 3] rfl ?_)))
          refine d_q0 rfl rfl (q_mv (.inl rfl) (by first | exact is_im rfl | exact is_gs rfl | exact is_lit rfl | exact is_ms rfl | exact is_sc rfl | exact rfl)) ?_
          refine d_q0 rfl rfl (q_mv (.inl rfl) (is_sc rfl)) ?_
          refine d_q0 rfl rfl (q_mv (.inl rfl) (is_sc rfl)) ?_
          refine d_q0 rfl rfl (q_as (i64_eq ((wrap_id (by omega) (by omega)).trans (by omega) : _ = ((first + r : Nat) : Int))) (q_add rfl rfl rfl)) ?_
          refine d_q0 rfl rfl (q_mv (.inl rfl) (by first | exact is_im rfl | exact is_gs rfl | exact is_lit rfl | exact is_ms rfl | exact is_sc rfl | exact rfl)) ?_
          refine d_q0 rfl rfl (q_mv (.inl rfl) (is_sc rfl)) ?_
          refine d_q0 rfl rfl (q_mv (.inl rfl) (is_sc rfl)) ?_
          refine d_q0 rfl rfl (q_as (i64_eq ((wrap_id (by omega) (by omega)).trans (by omega) : _ = ((first + c : Nat) : Int))) (q_add rfl rfl rfl)) ?_
          refine d_q0 rfl rfl (q_mv (.inl rfl) (by first | exact is_im rfl | exact is_gs rfl | exact is_lit rfl | exact is_ms rfl | exact is_sc rfl | exact rfl)) ?_
          refine d_q0 rfl rfl (q_mv (.inl rfl) (is_sc rfl)) ?_
          refine d_q0 rfl rfl (q_mv (.inl rfl) (is_sc rfl)) ?_
          refine d_q0 rfl rfl (q_as (i64_eq ((wrap_id (by omega) (by omega)).trans (by omega) : _ = ((first + c : Nat) : Int))) (q_add rfl rfl rfl)) ?_
          refine d_q0 rfl rfl (q_indexHs rfl rfl rfl (by omega) (by omega)) ?_
          refine d_q1 rfl rfl (q_loadF (i := first + c) (d := d') rfl rfl rfl (by omega) (by omega)) ?_
          refine d_q0 rfl rfl (q_mv (.inl rfl) (by first | exact is_im rfl | exact is_gs rfl | exact is_lit rfl | exact is_ms rfl | exact is_sc rfl | exact rfl)) ?_
          refine d_q0 rfl rfl (q_mv (.inl rfl) (is_sc rfl)) ?_
          refine d_q0 rfl rfl (q_mv (.inl rfl) (is_sc rfl)) ?_
          refine d_q0 rfl rfl (q_as (i64_eq ((wrap_id (by omega) (by omega)).trans (by omega) : _ = ((first + r : Nat) : Int))) (q_add rfl rfl rfl)) ?_
          refine d_q0 rfl rfl (q_indexHs rfl rfl rfl (by omega) (by omega)) ?_
          refine d_q1 rfl rfl (q_loadF (i := first + r) (d := d') rfl rfl rfl (by omega) (by omega)) ?_
          refine d_q0 rfl rfl (q_indexHs rfl rfl rfl (by omega) (by omega)) ?_
          refine d_u3 rfl rfl (as_storeF (i := first + r) (d := d') (d'[first + c]!) rfl rfl rfl rfl (by omega) (by first | omega | (simp; omega))) ?_
          refine d_q0 rfl rfl (q_indexHs rfl rfl rfl (by omega) (by omega)) ?_
          refine d_u3 rfl rfl (as_storeF (i := first + c) (d := (d'.setIfInBounds (first + r) d'[first + c]!)) (d'[first + r]!) rfl rfl rfl rfl (by omega) (by first | omega | (simp; omega))) ?_
          refine d_nil (n_n (w_reg (s_q rfl rfl (q_mv (.inl rfl) (is_sc rfl)) ?_)))
          refine s_q rfl rfl (q_mv (.inr rfl) (is_sc rfl)) ?_
          refine s_nil (b_n (n_n ?_))
          refine ⟨⟨c, swp d' (first + r) (first + c), by omega, by rw [size_swp]; exact hd', by rw [← hst]; exact hT, ⟨rfl, rfl, rfl, i64_eq (by omega), trivial⟩, rfl⟩, ?_⟩
          show n - (((2 * r + 1 : Nat) : Int)).toNat < n - ((r : Nat) : Int).toNat
          omega


-- slices.heapSortOrdered[float64]
theorem pf_so_heap (h : Heap) (id cap n : Nat) (d : Array FF) (sp : List D) (hn : d.size = n) (hn9 : n ≤ 1000000) (a b : Nat) (hab : a < b) (hb : b ≤ n) : ACall Tryz.prog G 269 true [.hs id 0 n cap, i64 a, i64 b] (setH h id (fls d ++ sp)) (fun _ h' => h' = setH h id (fls (heapSort ltQ d a b) ++ sp)) := by
  refine ACall.intro rfl Tryz.func269 rfl (Nat.le_of_ble_eq_true rfl) rfl ?_
  refine w_seq (w_reg (s_q rfl rfl (q_mv (.inl rfl) (is_sc rfl)) ?_))
  refine s_q rfl rfl (q_mv (.inr rfl) (is_sc rfl)) ?_
  refine s_nil (n_n (w_seq (w_reg (s_q rfl rfl (q_mv (.inr rfl) (is_sc rfl)) ?_))))
  refine s_nil (n_n (w_seq (w_reg (s_q rfl rfl (q_mv (.inl rfl) (is_sc rfl)) ?_))))
  refine s_q rfl rfl (q_mv (.inl rfl) (is_sc rfl)) ?_
  refine s_q rfl rfl (q_as (i64_eq ((wrap_id (by omega) (by omega)).trans (by omega) : _ = ((b - a : Nat) : Int))) (q_sub rfl rfl rfl)) ?_
  refine s_q rfl rfl (q_mv (.inr rfl) (is_sc rfl)) ?_
  refine s_nil (n_n (w_seq (w_seq (w_reg (s_q rfl rfl (q_mv (.inl rfl) (is_sc rfl)) ?_)))))
  refine s_q rfl rfl (q_as (i64_eq ((wrap_id (by omega) (by omega)).trans (by omega) : _ = ((b - a - 1 : Nat) : Int))) (q_sub rfl rfl rfl)) ?_
  refine s_q rfl rfl (q_as (i64_eq (show IntKind.i64.wrap (((b - a - 1 : Nat) : Int).tdiv 2) = (((b - a - 1) / 2 : Nat) : Int) by rw [Int.tdiv_eq_ediv_of_nonneg (by omega)]; exact (wrap_id (by omega) (by omega)).trans (by omega))) (q_quo rfl rfl rfl (by decide))) ?_
  refine s_q rfl rfl (q_mv (.inr rfl) (is_sc rfl)) ?_
  refine s_nil (n_n (w_block ?_))
  refine w_loop (fun env A => ∃ (k : Nat) (d' : Array FF), k ≤ (b - a - 1) / 2 + 1 ∧ d'.size = n ∧ heapBuild ltQ (b - a) a k d' = (heapBuild ltQ (b - a) a ((b - a - 1) / 2 + 1) d) ∧ Binds env [(0, .hs id 0 n cap), (6, i64 a), (7, i64 0), (8, i64 ((b - a : Nat) : Int)), (9, i64 ((k : Int) - 1))] ∧ A = AH.start (setH h id (fls d' ++ sp))) (fun env _ => ctr1 (env 9)) ?_ ?_
  · refine ⟨(b - a - 1) / 2 + 1, d, Nat.le_refl _, hn, rfl, ⟨rfl, rfl, rfl, rfl, ?_, trivial⟩, rfl⟩
    exact i64_eq (by omega)
  · rintro env A ⟨k, d', hk, hd', hT, hB, rfl⟩
    rw [hB.eq]; clear hB
    refine w_seq (w_seq (w_reg (s_q rfl rfl (q_mv (.inl rfl) (is_sc rfl)) ?_)))
    refine s_q rfl rfl (q_geq rfl rfl rfl) ?_
    refine s_nil (n_n (w_if (is_scb rfl) (fun h19 => ?_) (fun h19 => ?_)))
    · have hk0 : 0 < k := by have h' : (0 : Int) ≤ (k : Int) - 1 := of_decide_eq_true h19; omega
      refine w_skip (n_n (w_seq (w_block (w_reg (s_q rfl rfl (q_mv (.inl rfl) (by first | exact is_im rfl | exact is_gs rfl | exact is_lit rfl | exact is_ms rfl | exact is_sc rfl | exact rfl)) ?_)))))
      refine s_q rfl rfl (q_as (i64_eq (by omega : _ = ((k - 1 : Nat) : Int))) (q_mv (.inl rfl) (is_sc rfl))) ?_
      refine s_q rfl rfl (q_mv (.inl rfl) (is_sc rfl)) ?_
      refine s_q rfl rfl (q_mv (.inl rfl) (is_sc rfl)) ?_
      refine s_o rfl rfl (ao_callH rfl rfl rfl rfl (pf_so_sift h id cap n d' sp hd' hn9 (k - 1) (b - a) a (by omega) (by omega)) fun v26 Hv26 hv26 => ?_)
      subst hv26
      refine s_nil (b_n (n_n (w_reg (s_q rfl rfl (q_mv (.inl rfl) (is_sc rfl)) ?_))))
      refine s_q rfl rfl (q_as (i64_eq (wrap_id (by omega) (by omega) : _ = (k : Int) - 1 - 1)) (q_sub rfl rfl rfl)) ?_
      refine s_q rfl rfl (q_mv (.inr rfl) (is_sc rfl)) ?_
      refine s_nil (n_n ?_)
      refine ⟨⟨k - 1, _, by omega, by rw [sift_size ltQ _ _ _ _ _ (Nat.le_refl _)]; exact hd', by rw [← build_go hk0]; exact hT, ⟨rfl, rfl, rfl, rfl, i64_eq (by omega), trivial⟩, rfl⟩, ?_⟩
      show ((k : Int) - 1 - 1 + 1).toNat < ((k : Int) - 1 + 1).toNat
      omega
    · have hk0 : k = 0 := by have h' : ¬ (0 : Int) ≤ (k : Int) - 1 := of_decide_eq_false h19; omega
      subst hk0
      refine w_exit (n_e (n_e (b_hit (n_n (w_seq (w_reg (s_q rfl rfl (q_mv (.inl rfl) (is_sc rfl)) ?_)))))))
      refine s_q rfl rfl (q_as (i64_eq ((wrap_id (by omega) (by omega)).trans (by omega) : _ = ((b - a - 1 : Nat) : Int))) (q_sub rfl rfl rfl)) ?_
      refine s_q rfl rfl (q_mv (.inr rfl) (is_sc rfl)) ?_
      refine s_nil (n_n (w_block ?_))
      refine w_loop (fun env A => ∃ (k : Nat) (d' : Array FF), k ≤ b - a ∧ d'.size = n ∧ heapPop ltQ a k d' = (heapSort ltQ d a b) ∧ Binds env [(0, .hs id 0 n cap), (6, i64 a), (7, i64 0), (8, i64 ((b - a : Nat) : Int)), (10, i64 ((k : Int) - 1))] ∧ A = AH.start (setH h id (fls d' ++ sp))) (fun env _ => ctr1 (env 10)) ?_ ?_
      · refine ⟨b - a, d', Nat.le_refl _, hd', by rw [show heapSort ltQ d a b = heapPop ltQ a (b - a) (heapBuild ltQ (b - a) a ((b - a - 1) / 2 + 1) d) from rfl, ← hT]; rfl, ⟨rfl, rfl, rfl, rfl, ?_, trivial⟩, rfl⟩
        exact i64_eq (by omega)
      · clear hT hd' hk
        clear d'
        rintro env A ⟨k, d', hk, hd', hT, hB, rfl⟩
        rw [hB.eq]; clear hB
        refine w_seq (w_seq (w_reg (s_q rfl rfl (q_mv (.inl rfl) (is_sc rfl)) ?_)))
        refine s_q rfl rfl (q_geq rfl rfl rfl) ?_
        refine s_nil (n_n (w_if (is_scb rfl) (fun h30 => ?_) (fun h30 => ?_)))
        · have hk0 : 0 < k := by have h' : (0 : Int) ≤ (k : Int) - 1 := of_decide_eq_true h30; omega
          refine w_skip (n_n (w_seq (w_block (w_seq (w_draw [0, 0, 0, 0, 0, 24, 0, 0, 0, 384, 960, 1984, 0, 0, 12288, 28672, 65475, 131011, 262143, 524287] [0, 0, 0, 0, 0, 0, 0, 0, 0, 0, 0, 1, 0, 0, 0, 1, 0, 3, 0, 3] rfl ?_)))))
          refine d_q0 rfl rfl (q_mv (.inl rfl) (by first | exact is_im rfl | exact is_gs rfl | exact is_lit rfl | exact is_ms rfl | exact is_sc rfl | exact rfl)) ?_
          refine d_q0 rfl rfl (q_mv (.inl rfl) (is_sc rfl)) ?_
          refine d_q0 rfl rfl (q_mv (.inl rfl) (by first | exact is_im rfl | exact is_gs rfl | exact is_lit rfl | exact is_ms rfl | exact is_sc rfl | exact rfl)) ?_
          refine d_q0 rfl rfl (q_mv (.inl rfl) (is_sc rfl)) ?_
          refine d_q0 rfl rfl (q_mv (.inl rfl) (is_sc rfl)) ?_
          refine d_q0 rfl rfl (q_as (i64_eq ((wrap_id (by omega) (by omega)).trans (by omega) : _ = ((a + (k - 1) : Nat) : Int))) (q_add rfl rfl rfl)) ?_
          refine d_q0 rfl rfl (q_mv (.inl rfl) (by first | exact is_im rfl | exact is_gs rfl | exact is_lit rfl | exact is_ms rfl | exact is_sc rfl | exact rfl)) ?_
          refine d_q0 rfl rfl (q_mv (.inl rfl) (is_sc rfl)) ?_
          refine d_q0 rfl rfl (q_mv (.inl rfl) (is_sc rfl)) ?_
          refine d_q0 rfl rfl (q_as (i64_eq ((wrap_id (by omega) (by omega)).trans (by omega) : _ = ((a + (k - 1) : Nat) : Int))) (q_add rfl rfl rfl)) ?_
          refine d_q0 rfl rfl (q_indexHs rfl rfl rfl (by omega) (by omega)) ?_
          refine d_q1 rfl rfl (q_loadF (i := a + (k - 1)) (d := d') rfl rfl rfl (by omega) (by omega)) ?_
          refine d_q0 rfl rfl (q_mv (.inl rfl) (by first | exact is_im rfl | exact is_gs rfl | exact is_lit rfl | exact is_ms rfl | exact is_sc rfl | exact rfl)) ?_
          refine d_q0 rfl rfl (q_mv (.inl rfl) (is_sc rfl)) ?_
          refine d_q0 rfl rfl (q_indexHs rfl rfl rfl (by omega) (by omega)) ?_
          refine d_q1 rfl rfl (q_loadF (i := a) (d := d') rfl rfl rfl (by omega) (by omega)) ?_
          refine d_q0 rfl rfl (q_indexHs rfl rfl rfl (by omega) (by omega)) ?_
          refine d_u3 rfl rfl (as_storeF (i := a) (d := d') (d'[a + (k - 1)]!) rfl rfl rfl rfl (by omega) (by first | omega | (simp; omega))) ?_
          refine d_q0 rfl rfl (q_indexHs rfl rfl rfl (by omega) (by omega)) ?_
          refine d_u3 rfl rfl (as_storeF (i := a + (k - 1)) (d := (d'.setIfInBounds a d'[a + (k - 1)]!)) (d'[a]!) rfl rfl rfl rfl (by omega) (by first | omega | (simp; omega))) ?_
          refine d_nil (n_n (w_reg (s_q rfl rfl (q_mv (.inl rfl) (by first | exact is_im rfl | exact is_gs rfl | exact is_lit rfl | exact is_ms rfl | exact is_sc rfl | exact rfl)) ?_)))
          refine s_q rfl rfl (q_mv (.inl rfl) (is_sc rfl)) ?_
          refine s_q rfl rfl (q_as (i64_eq (by omega : _ = ((k - 1 : Nat) : Int))) (q_mv (.inl rfl) (is_sc rfl))) ?_
          refine s_q rfl rfl (q_mv (.inl rfl) (is_sc rfl)) ?_
          refine s_o rfl rfl (ao_callH rfl rfl rfl rfl (pf_so_sift h id cap n (swp d' a (a + (k - 1))) sp (by rw [size_swp]; exact hd') hn9 0 (k - 1) a (by omega) (by omega)) fun v55 Hv55 hv55 => ?_)
          subst hv55
          refine s_nil (b_n (n_n (w_reg (s_q rfl rfl (q_mv (.inl rfl) (is_sc rfl)) ?_))))
          refine s_q rfl rfl (q_as (i64_eq (wrap_id (by omega) (by omega) : _ = (k : Int) - 1 - 1)) (q_sub rfl rfl rfl)) ?_
          refine s_q rfl rfl (q_mv (.inr rfl) (is_sc rfl)) ?_
          refine s_nil (n_n ?_)
          refine ⟨⟨k - 1, _, by omega, by rw [sift_size ltQ _ _ _ _ _ (Nat.le_refl _), size_swp]; exact hd', by rw [← pop_go hk0]; exact hT, ⟨rfl, rfl, rfl, rfl, i64_eq (by omega), trivial⟩, rfl⟩, ?_⟩
          show ((k : Int) - 1 - 1 + 1).toNat < ((k : Int) - 1 + 1).toNat
          omega
        · have hk0 : k = 0 := by have h' : ¬ (0 : Int) ≤ (k : Int) - 1 := of_decide_eq_false h30; omega
          subst hk0
          refine w_exit (n_e (n_e (b_hit ?_)))
          -- end 0
          refine r_n ra_nil (by exact (rfl : _ = D.tup [])) (by exact rfl) (Sub.refl _) ?_
          rw [← hT]; rfl

end Go.Proofs.YtopgbalmdocboaaGreatDoor.Zz
