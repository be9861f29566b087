/- Walks of the functions, printed by program, and the logic behind them: each theorem says what one function or one step answers. -/
import Derived.Test.YtopgbalmdocboaaGreatDoorZSa
namespace Go.Proofs.YtopgbalmdocboaaGreatDoor.Zz
open Go.Abs
set_option maxRecDepth 100000
set_option linter.unusedVariables false
set_option linter.unusedSimpArgs false
set_option maxHeartbeats 4000000
variable {G : Nat → D}
open Go.Sort

-- slices.partitionEqualOrdered[float64]
theorem pf_so_partEq (h : Heap) (id cap n : Nat) (d : Array FF) (sp : List D) (hn : d.size = n) (hn9 : n ≤ 1000000) (a b p : Nat) (hap : a ≤ p) (hpb : p < b) (hb : b ≤ n) : ACall Tryz.prog G 275 true [.hs id 0 n cap, i64 a, i64 b, i64 p] (setH h id (fls d ++ sp)) (fun v h' => v = i64 ((partitionEqual ltQ d a b p).1 : Nat) ∧ h' = setH h id (fls (partitionEqual ltQ d a b p).2 ++ sp)) := by
  obtain ⟨R, hR⟩ : ∃ R, partitionEqual ltQ d a b p = R := ⟨_, rfl⟩
  rw [hR]
  refine ACall.intro rfl Tryz.func275 rfl (Nat.le_of_ble_eq_true rfl) rfl ?_
  refine w_seq (w_reg (s_q rfl rfl (q_mv (.inr rfl) (is_sc rfl)) ?_))
  refine s_nil (n_n (w_seq (w_draw [0, 0, 0, 0, 0, 0, 48, 112, 0, 0, 768, 1792, 4083, 8179, 16383, 32767] [0, 0, 0, 0, 0, 0, 0, 1, 0, 0, 0, 1, 0, 3, 0, 3] rfl ?_)))
  refine d_q0 rfl rfl (q_mv (.inl rfl) (by first | exact is_im rfl | exact is_gs rfl | exact is_lit rfl | exact is_ms rfl | exact is_sc rfl | exact rfl)) ?_
  refine d_q0 rfl rfl (q_mv (.inl rfl) (is_sc rfl)) ?_
  refine d_q0 rfl rfl (q_mv (.inl rfl) (by first | exact is_im rfl | exact is_gs rfl | exact is_lit rfl | exact is_ms rfl | exact is_sc rfl | exact rfl)) ?_
  refine d_q0 rfl rfl (q_mv (.inl rfl) (is_sc rfl)) ?_
  refine d_q0 rfl rfl (q_mv (.inl rfl) (by first | exact is_im rfl | exact is_gs rfl | exact is_lit rfl | exact is_ms rfl | exact is_sc rfl | exact rfl)) ?_
  refine d_q0 rfl rfl (q_mv (.inl rfl) (is_sc rfl)) ?_
  refine d_q0 rfl rfl (q_indexHs rfl rfl rfl (by omega) (by omega)) ?_
  refine d_q1 rfl rfl (q_loadF (i := p) (d := d) rfl rfl rfl (by omega) (by omega)) ?_
  refine d_q0 rfl rfl (q_mv (.inl rfl) (by first | exact is_im rfl | exact is_gs rfl | exact is_lit rfl | exact is_ms rfl | exact is_sc rfl | exact rfl)) ?_
  refine d_q0 rfl rfl (q_mv (.inl rfl) (is_sc rfl)) ?_
  refine d_q0 rfl rfl (q_indexHs rfl rfl rfl (by omega) (by omega)) ?_
  refine d_q1 rfl rfl (q_loadF (i := a) (d := d) rfl rfl rfl (by omega) (by omega)) ?_
  refine d_q0 rfl rfl (q_indexHs rfl rfl rfl (by omega) (by omega)) ?_
  refine d_u3 rfl rfl (as_storeF (i := a) (d := d) (d[p]!) rfl rfl rfl rfl (by omega) (by first | omega | (simp; omega))) ?_
  refine d_q0 rfl rfl (q_indexHs rfl rfl rfl (by omega) (by omega)) ?_
  refine d_u3 rfl rfl (as_storeF (i := p) (d := (d.setIfInBounds a d[p]!)) (d[a]!) rfl rfl rfl rfl (by omega) (by first | omega | (simp; omega))) ?_
  refine d_nil (n_n (w_seq (w_reg (s_q rfl rfl (q_mv (.inl rfl) (is_sc rfl)) ?_))))
  refine s_q rfl rfl (q_as (i64_eq ((wrap_id (by omega) (by omega)).trans (by omega) : _ = ((a + 1 : Nat) : Int))) (q_add rfl rfl rfl)) ?_
  refine s_q rfl rfl (q_mv (.inl rfl) (is_sc rfl)) ?_
  refine s_q rfl rfl (q_as (i64_eq ((wrap_id (by omega) (by omega)).trans (by omega) : _ = ((b - 1 : Nat) : Int))) (q_sub rfl rfl rfl)) ?_
  refine s_q rfl rfl (q_mv (.inr rfl) (is_sc rfl)) ?_
  refine s_q rfl rfl (q_mv (.inr rfl) (is_sc rfl)) ?_
  refine s_nil (n_n (w_seq (w_block ?_)))
  refine w_loop (fun env A => ∃ (i j : Nat) (d2 : Array FF), a + 1 ≤ i ∧ i ≤ b ∧ j < b ∧ d2.size = n ∧ partEqLoop ltQ a i j d2 = R ∧ Binds env [(0, .hs id 0 n cap), (1, i64 a), (9, i64 i), (10, i64 j)] ∧ A = AH.start (setH h id (fls d2 ++ sp))) (fun env _ => ctr (env 10) + 1 - ctr (env 9)) ?_ ?_
  · exact ⟨a + 1, b - 1, swp d a p, Nat.le_refl _, by omega, by omega, by rw [size_swp]; exact hn, hR, ⟨rfl, rfl, rfl, rfl, trivial⟩, rfl⟩
  · rintro env A ⟨i3, j3, d2, h31, h32, h33, hs2, hR2, hB, rfl⟩
    rw [hB.eq]; clear hB
    obtain ⟨I2, hI2⟩ : ∃ I2, scanUp (fun x => !ltQ d2[a]! x) d2 j3 i3 = I2 := ⟨_, rfl⟩
    obtain ⟨J2, hJ2⟩ : ∃ J2, scanDown (fun x => ltQ d2[a]! x) d2 I2 j3 = J2 := ⟨_, rfl⟩
    refine w_block (w_seq (w_join (fun env A => i3 ≤ I2 ∧ I2 ≤ b ∧ Binds env [(0, .hs id 0 n cap), (1, i64 a), (9, i64 I2), (10, i64 j3)] ∧ A = AH.start (setH h id (fls d2 ++ sp))) ?_ ?_))
    · refine w_block ?_
      refine w_loop (fun env A => ∃ i : Nat, i3 ≤ i ∧ i ≤ b ∧ scanUp (fun x => !ltQ d2[a]! x) d2 (j3) i = I2 ∧ Binds env [(0, .hs id 0 n cap), (1, i64 a), (9, i64 i), (10, i64 ((j3 : Nat) : Int))] ∧ A = AH.start (setH h id (fls d2 ++ sp))) (fun env _ => b - ctr (env 9)) ?_ ?_
      · exact ⟨i3, Nat.le_refl _, by omega, hI2, ⟨rfl, rfl, rfl, rfl, trivial⟩, rfl⟩
      · rintro env A ⟨i, hi1, hi2, hI, hB, rfl⟩
        rw [hB.eq]; clear hB
        refine w_seq (w_seq (w_draw [0, 0, 3, 7, 15, 15, 63, 127, 15, 15, 783, 1807, 4095, 8191, 16383] [0, 0, 0, 0, 0, 0, 0, 1, 0, 0, 0, 1, 0, 0, 0] rfl ?_))
        refine d_q0 rfl rfl (q_mv (.inl rfl) (is_sc rfl)) ?_
        refine d_q0 rfl rfl (q_mv (.inl rfl) (is_sc rfl)) ?_
        refine d_q0 rfl rfl (q_leq rfl rfl rfl) ?_
        refine d_q0 rfl rfl (q_mv (.inl rfl) (is_sc rfl)) ?_
        refine d_split 32 (is_scb rfl) (fun h32 => ?_) (fun h32 => ?_)
        · have hle : i ≤ j3 := by have h' : ((i : Nat) : Int) ≤ ((j3 : Nat) : Int) := of_decide_eq_true h32; omega
          refine d_q0 rfl rfl (q_mv (.inl rfl) (by first | exact is_im rfl | exact is_gs rfl | exact is_lit rfl | exact is_ms rfl | exact is_sc rfl | exact rfl)) ?_
          refine d_q0 rfl rfl (q_mv (.inl rfl) (is_sc rfl)) ?_
          refine d_q0 rfl rfl (q_indexHs rfl rfl rfl (by omega) (by omega)) ?_
          refine d_q1 rfl rfl (q_loadF (i := a) (d := d2) rfl rfl rfl (by omega) (by omega)) ?_
          refine d_q0 rfl rfl (q_mv (.inl rfl) (by first | exact is_im rfl | exact is_gs rfl | exact is_lit rfl | exact is_ms rfl | exact is_sc rfl | exact rfl)) ?_
          refine d_q0 rfl rfl (q_mv (.inl rfl) (is_sc rfl)) ?_
          refine d_q0 rfl rfl (q_indexHs rfl rfl rfl (by omega) (by omega)) ?_
          refine d_q1 rfl rfl (q_loadF (i := i) (d := d2) rfl rfl rfl (by omega) (by omega)) ?_
          refine d_q0 rfl rfl (q_call rfl rfl rfl rfl (pf_so_Less _ _)) ?_
          refine d_q0 rfl rfl (q_not rfl rfl) ?_
          refine d_q0 rfl rfl (q_pickT rfl rfl (is_sc rfl)) ?_
          refine d_nil (n_n (w_if (is_scb rfl) (fun h43 => ?_) (fun h43 => ?_)))
          · have hls : (fun x => !ltQ d2[a]! x) d2[i]! = true := h43
            refine w_skip (n_n (w_block (w_reg (s_q rfl rfl (q_mv (.inl rfl) (is_sc rfl)) ?_))))
            refine s_q rfl rfl (q_as (i64_eq ((wrap_id (by omega) (by omega)).trans (by omega) : _ = ((i + 1 : Nat) : Int))) (q_add rfl rfl rfl)) ?_
            refine s_q rfl rfl (q_mv (.inr rfl) (is_sc rfl)) ?_
            refine s_nil (b_n (n_n ?_))
            refine ⟨⟨i + 1, by omega, by omega, by rw [← up_go hle hls]; exact hI, ⟨rfl, rfl, rfl, rfl, trivial⟩, rfl⟩, ?_⟩
            show b - (((i + 1 : Nat) : Int)).toNat < b - ((i : Nat) : Int).toNat
            omega
          · have hls : (fun x => !ltQ d2[a]! x) d2[i]! = false := h43
            have hnx : ¬ (i ≤ j3 ∧ (fun x => !ltQ d2[a]! x) d2[i]! = true) := fun h => by rw [hls] at h; simp at h
            have hst := (up_no (p := (fun x => !ltQ d2[a]! x)) hnx)
            rw [hst] at hI
            refine w_exit (n_e (n_e (b_hit ?_)))
            subst hI
            exact ⟨rfl, hi1, hi2, ⟨rfl, rfl, rfl, rfl, trivial⟩, rfl⟩
        · have hle : ¬ i ≤ j3 := by have h' : ¬ ((i : Nat) : Int) ≤ ((j3 : Nat) : Int) := of_decide_eq_false h32; omega
          have hnx : ¬ (i ≤ j3 ∧ (fun x => !ltQ d2[a]! x) d2[i]! = true) := fun h => hle h.1
          have hst := (up_no (p := (fun x => !ltQ d2[a]! x)) hnx)
          rw [hst] at hI
          refine d_off rfl rfl ?_
          refine d_off rfl rfl ?_
          refine d_off rfl rfl ?_
          refine d_off rfl rfl ?_
          refine d_off rfl rfl ?_
          refine d_off rfl rfl ?_
          refine d_off rfl rfl ?_
          refine d_off rfl rfl ?_
          refine d_off rfl rfl ?_
          refine d_off rfl rfl ?_
          refine d_q0 rfl rfl (q_pickF rfl rfl (is_sc rfl)) ?_
          refine d_nil (n_n (w_ifF rfl (w_exit (n_e (n_e (b_hit ?_))))))
          subst hI
          exact ⟨rfl, hi1, hi2, ⟨rfl, rfl, rfl, rfl, trivial⟩, rfl⟩
    · rintro env A ⟨hI21, hI22, hB, rfl⟩
      rw [hB.eq]; clear hB
      refine n_n (w_seq (w_join (fun env A => J2 ≤ j3 ∧ Binds env [(0, .hs id 0 n cap), (1, i64 a), (9, i64 I2), (10, i64 J2)] ∧ A = AH.start (setH h id (fls d2 ++ sp))) ?_ ?_))
      · refine w_block ?_
        refine w_loop (fun env A => ∃ j : Nat, j ≤ j3 ∧ scanDown (fun x => ltQ d2[a]! x) d2 I2 j = J2 ∧ Binds env [(0, .hs id 0 n cap), (1, i64 a), (9, i64 I2), (10, i64 j)] ∧ A = AH.start (setH h id (fls d2 ++ sp))) (fun env _ => ctr (env 10)) ?_ ?_
        · exact ⟨j3, Nat.le_refl _, hJ2, ⟨rfl, rfl, rfl, rfl, trivial⟩, rfl⟩
        · rintro env A ⟨j, hj1, hJ, hB, rfl⟩
          rw [hB.eq]; clear hB
          refine w_seq (w_seq (w_draw [0, 0, 3, 7, 15, 15, 63, 127, 15, 15, 783, 1807, 4095, 8191] [0, 0, 0, 0, 0, 0, 0, 1, 0, 0, 0, 1, 0, 0] rfl ?_))
          refine d_q0 rfl rfl (q_mv (.inl rfl) (is_sc rfl)) ?_
          refine d_q0 rfl rfl (q_mv (.inl rfl) (is_sc rfl)) ?_
          refine d_q0 rfl rfl (q_leq rfl rfl rfl) ?_
          refine d_q0 rfl rfl (q_mv (.inl rfl) (is_sc rfl)) ?_
          refine d_split 49 (is_scb rfl) (fun h49 => ?_) (fun h49 => ?_)
          · have hle : I2 ≤ j := by have h' : ((I2 : Nat) : Int) ≤ ((j : Nat) : Int) := of_decide_eq_true h49; omega
            refine d_q0 rfl rfl (q_mv (.inl rfl) (by first | exact is_im rfl | exact is_gs rfl | exact is_lit rfl | exact is_ms rfl | exact is_sc rfl | exact rfl)) ?_
            refine d_q0 rfl rfl (q_mv (.inl rfl) (is_sc rfl)) ?_
            refine d_q0 rfl rfl (q_indexHs rfl rfl rfl (by omega) (by omega)) ?_
            refine d_q1 rfl rfl (q_loadF (i := a) (d := d2) rfl rfl rfl (by omega) (by omega)) ?_
            refine d_q0 rfl rfl (q_mv (.inl rfl) (by first | exact is_im rfl | exact is_gs rfl | exact is_lit rfl | exact is_ms rfl | exact is_sc rfl | exact rfl)) ?_
            refine d_q0 rfl rfl (q_mv (.inl rfl) (is_sc rfl)) ?_
            refine d_q0 rfl rfl (q_indexHs rfl rfl rfl (by omega) (by omega)) ?_
            refine d_q1 rfl rfl (q_loadF (i := j) (d := d2) rfl rfl rfl (by omega) (by omega)) ?_
            refine d_q0 rfl rfl (q_call rfl rfl rfl rfl (pf_so_Less _ _)) ?_
            refine d_q0 rfl rfl (q_pickT rfl rfl (is_sc rfl)) ?_
            refine d_nil (n_n (w_if (is_scb rfl) (fun h59 => ?_) (fun h59 => ?_)))
            · have hls : (fun x => ltQ d2[a]! x) d2[j]! = true := h59
              refine w_skip (n_n (w_block (w_reg (s_q rfl rfl (q_mv (.inl rfl) (is_sc rfl)) ?_))))
              refine s_q rfl rfl (q_as (i64_eq ((wrap_id (by omega) (by omega)).trans (by omega) : _ = ((j - 1 : Nat) : Int))) (q_sub rfl rfl rfl)) ?_
              refine s_q rfl rfl (q_mv (.inr rfl) (is_sc rfl)) ?_
              refine s_nil (b_n (n_n ?_))
              refine ⟨⟨j - 1, by omega, by rw [← dn_go (by omega) hle hls]; exact hJ, ⟨rfl, rfl, rfl, rfl, trivial⟩, rfl⟩, ?_⟩
              show (((j - 1 : Nat) : Int)).toNat < ((j : Nat) : Int).toNat
              omega
            · have hls : (fun x => ltQ d2[a]! x) d2[j]! = false := h59
              have hnx : ¬ (I2 ≤ j ∧ (fun x => ltQ d2[a]! x) d2[j]! = true) := fun h => by rw [hls] at h; simp at h
              have hst := (dn_no (p := (fun x => ltQ d2[a]! x)) hnx)
              rw [hst] at hJ
              refine w_exit (n_e (n_e (b_hit ?_)))
              subst hJ
              exact ⟨rfl, hj1, ⟨rfl, rfl, rfl, rfl, trivial⟩, rfl⟩
          · have hle : ¬ I2 ≤ j := by have h' : ¬ ((I2 : Nat) : Int) ≤ ((j : Nat) : Int) := of_decide_eq_false h49; omega
            have hnx : ¬ (I2 ≤ j ∧ (fun x => ltQ d2[a]! x) d2[j]! = true) := fun h => hle h.1
            have hst := (dn_no (p := (fun x => ltQ d2[a]! x)) hnx)
            rw [hst] at hJ
            refine d_off rfl rfl ?_
            refine d_off rfl rfl ?_
            refine d_off rfl rfl ?_
            refine d_off rfl rfl ?_
            refine d_off rfl rfl ?_
            refine d_off rfl rfl ?_
            refine d_off rfl rfl ?_
            refine d_off rfl rfl ?_
            refine d_off rfl rfl ?_
            refine d_q0 rfl rfl (q_pickF rfl rfl (is_sc rfl)) ?_
            refine d_nil (n_n (w_ifF rfl (w_exit (n_e (n_e (b_hit ?_))))))
            subst hJ
            exact ⟨rfl, hj1, ⟨rfl, rfl, rfl, rfl, trivial⟩, rfl⟩
      · rintro env A ⟨hJ21, hB, rfl⟩
        rw [hB.eq]; clear hB
        refine n_n (w_seq (w_seq (w_reg (s_q rfl rfl (q_mv (.inl rfl) (is_sc rfl)) ?_))))
        refine s_q rfl rfl (q_mv (.inl rfl) (is_sc rfl)) ?_
        refine s_q rfl rfl (q_gtr rfl rfl rfl) ?_
        refine s_nil (n_n (w_if (is_scb rfl) (fun h64 => ?_) (fun h64 => ?_)))
        · have hgt2 : J2 < I2 := by have h' : ((J2 : Nat) : Int) < ((I2 : Nat) : Int) := of_decide_eq_true h64; omega
          have hRe := hR2.symm.trans (pe_end hI2 hJ2 hgt2)
          refine w_exit (n_e (b_miss rfl (n_e (b_hit (n_n (w_seq (w_reg (s_q rfl rfl (q_mv (.inl rfl) (is_sc rfl)) ?_))))))))
          refine s_q rfl rfl (q_mv (.inr rfl) (is_sc rfl)) ?_
          refine s_nil (n_n (w_ret ?_))
          -- end 0
          refine r_r (ra_tmp (is_sc rfl) ra_nil) (by exact (is_sc rfl)) (by exact rfl) (Sub.refl _) ?_
          rw [hRe]; exact ⟨rfl, rfl⟩
        · have hgt2 : ¬ J2 < I2 := by have h' : ¬ ((J2 : Nat) : Int) < ((I2 : Nat) : Int) := of_decide_eq_false h64; omega
          refine w_skip (n_n (w_seq (w_draw [0, 0, 0, 0, 0, 0, 48, 112, 0, 0, 768, 1792, 4083, 8179, 16383, 32767] [0, 0, 0, 0, 0, 0, 0, 1, 0, 0, 0, 1, 0, 3, 0, 3] rfl ?_)))
          refine d_q0 rfl rfl (q_mv (.inl rfl) (by first | exact is_im rfl | exact is_gs rfl | exact is_lit rfl | exact is_ms rfl | exact is_sc rfl | exact rfl)) ?_
          refine d_q0 rfl rfl (q_mv (.inl rfl) (is_sc rfl)) ?_
          refine d_q0 rfl rfl (q_mv (.inl rfl) (by first | exact is_im rfl | exact is_gs rfl | exact is_lit rfl | exact is_ms rfl | exact is_sc rfl | exact rfl)) ?_
          refine d_q0 rfl rfl (q_mv (.inl rfl) (is_sc rfl)) ?_
          refine d_q0 rfl rfl (q_mv (.inl rfl) (by first | exact is_im rfl | exact is_gs rfl | exact is_lit rfl | exact is_ms rfl | exact is_sc rfl | exact rfl)) ?_
          refine d_q0 rfl rfl (q_mv (.inl rfl) (is_sc rfl)) ?_
          refine d_q0 rfl rfl (q_indexHs rfl rfl rfl (by omega) (by omega)) ?_
          refine d_q1 rfl rfl (q_loadF (i := J2) (d := d2) rfl rfl rfl (by omega) (by omega)) ?_
          refine d_q0 rfl rfl (q_mv (.inl rfl) (by first | exact is_im rfl | exact is_gs rfl | exact is_lit rfl | exact is_ms rfl | exact is_sc rfl | exact rfl)) ?_
          refine d_q0 rfl rfl (q_mv (.inl rfl) (is_sc rfl)) ?_
          refine d_q0 rfl rfl (q_indexHs rfl rfl rfl (by omega) (by omega)) ?_
          refine d_q1 rfl rfl (q_loadF (i := I2) (d := d2) rfl rfl rfl (by omega) (by omega)) ?_
          refine d_q0 rfl rfl (q_indexHs rfl rfl rfl (by omega) (by omega)) ?_
          refine d_u3 rfl rfl (as_storeF (i := I2) (d := d2) (d2[J2]!) rfl rfl rfl rfl (by omega) (by first | omega | (simp; omega))) ?_
          refine d_q0 rfl rfl (q_indexHs rfl rfl rfl (by omega) (by omega)) ?_
          refine d_u3 rfl rfl (as_storeF (i := J2) (d := (d2.setIfInBounds I2 d2[J2]!)) (d2[I2]!) rfl rfl rfl rfl (by omega) (by first | omega | (simp; omega))) ?_
          refine d_nil (n_n (w_seq (w_reg (s_q rfl rfl (q_mv (.inl rfl) (is_sc rfl)) ?_))))
          refine s_q rfl rfl (q_as (i64_eq ((wrap_id (by omega) (by omega)).trans (by omega) : _ = ((I2 + 1 : Nat) : Int))) (q_add rfl rfl rfl)) ?_
          refine s_q rfl rfl (q_mv (.inr rfl) (is_sc rfl)) ?_
          refine s_nil (n_n (w_reg (s_q rfl rfl (q_mv (.inl rfl) (is_sc rfl)) ?_)))
          refine s_q rfl rfl (q_as (i64_eq ((wrap_id (by omega) (by omega)).trans (by omega) : _ = ((J2 - 1 : Nat) : Int))) (q_sub rfl rfl rfl)) ?_
          refine s_q rfl rfl (q_mv (.inr rfl) (is_sc rfl)) ?_
          refine s_nil (b_n (n_n ?_))
          refine ⟨⟨I2 + 1, J2 - 1, swp d2 I2 J2, by omega, by omega, by omega, by rw [size_swp]; exact hs2, by rw [← pe_go hI2 hJ2 hgt2]; exact hR2, ⟨rfl, rfl, rfl, rfl, trivial⟩, rfl⟩, ?_⟩
          show (((J2 - 1 : Nat) : Int)).toNat + 1 - (((I2 + 1 : Nat) : Int)).toNat < ((j3 : Nat) : Int).toNat + 1 - ((i3 : Nat) : Int).toNat
          omega

end Go.Proofs.YtopgbalmdocboaaGreatDoor.Zz
namespace Go.Proofs.YtopgbalmdocboaaGreatDoor.Zz
open Go.Abs
set_option maxRecDepth 100000
set_option linter.unusedVariables false
set_option linter.unusedSimpArgs false
set_option maxHeartbeats 4000000
variable {G : Nat → D}
open Go.Sort

-- slices.partitionOrdered[float64]
theorem pf_so_part (h : Heap) (id cap n : Nat) (d : Array FF) (sp : List D) (hn : d.size = n) (hn9 : n ≤ 1000000) (a b p : Nat) (hap : a ≤ p) (hpb : p < b) (hb : b ≤ n) : ACall Tryz.prog G 276 true [.hs id 0 n cap, i64 a, i64 b, i64 p] (setH h id (fls d ++ sp)) (fun v h' => v = .tup [i64 ((partition ltQ d a b p).1 : Nat), bl (partition ltQ d a b p).2.1] ∧ h' = setH h id (fls (partition ltQ d a b p).2.2 ++ sp)) := by
  obtain ⟨d1, hd1⟩ : ∃ d1, swp d a p = d1 := ⟨_, rfl⟩
  have hs1 : d1.size = n := by rw [← hd1, size_swp]; exact hn
  obtain ⟨I0, hI0⟩ : ∃ I0, scanUp (fun x => ltQ x d1[a]!) d1 (b - 1) (a + 1) = I0 := ⟨_, rfl⟩
  obtain ⟨J0, hJ0⟩ : ∃ J0, scanDown (fun x => !ltQ x d1[a]!) d1 I0 (b - 1) = J0 := ⟨_, rfl⟩
  refine ACall.intro rfl Tryz.func276 rfl (Nat.le_of_ble_eq_true rfl) rfl ?_
  refine w_seq (w_reg (s_q rfl rfl (q_mv (.inr rfl) (is_sc rfl)) ?_))
  refine s_q rfl rfl (q_mv (.inr rfl) (is_sc rfl)) ?_
  refine s_nil (n_n (w_seq (w_draw [0, 0, 0, 0, 0, 0, 48, 112, 0, 0, 768, 1792, 4083, 8179, 16383, 32767] [0, 0, 0, 0, 0, 0, 0, 1, 0, 0, 0, 1, 0, 3, 0, 3] rfl ?_)))
  refine d_q0 rfl rfl (q_mv (.inl rfl) (by first | exact is_im rfl | exact is_gs rfl | exact is_lit rfl | exact is_ms rfl | exact is_sc rfl | exact rfl)) ?_
  refine d_q0 rfl rfl (q_mv (.inl rfl) (is_sc rfl)) ?_
  refine d_q0 rfl rfl (q_mv (.inl rfl) (by first | exact is_im rfl | exact is_gs rfl | exact is_lit rfl | exact is_ms rfl | exact is_sc rfl | exact rfl)) ?_
  refine d_q0 rfl rfl (q_mv (.inl rfl) (is_sc rfl)) ?_
  refine d_q0 rfl rfl (q_mv (.inl rfl) (by first | exact is_im rfl | exact is_gs rfl | exact is_lit rfl | exact is_ms rfl | exact is_sc rfl | exact rfl)) ?_
  refine d_q0 rfl rfl (q_mv (.inl rfl) (is_sc rfl)) ?_
  refine d_q0 rfl rfl (q_indexHs rfl rfl rfl (by omega) (by omega)) ?_
  refine d_q1 rfl rfl (q_loadF (i := p) (d := d) rfl rfl rfl (by omega) (by omega)) ?_
  refine d_q0 rfl rfl (q_mv (.inl rfl) (by first | exact is_im rfl | exact is_gs rfl | exact is_lit rfl | exact is_ms rfl | exact is_sc rfl | exact rfl)) ?_
  refine d_q0 rfl rfl (q_mv (.inl rfl) (is_sc rfl)) ?_
  refine d_q0 rfl rfl (q_indexHs rfl rfl rfl (by omega) (by omega)) ?_
  refine d_q1 rfl rfl (q_loadF (i := a) (d := d) rfl rfl rfl (by omega) (by omega)) ?_
  refine d_q0 rfl rfl (q_indexHs rfl rfl rfl (by omega) (by omega)) ?_
  refine d_u3 rfl rfl (as_storeF (i := a) (d := d) (d[p]!) rfl rfl rfl rfl (by omega) (by first | omega | (simp; omega))) ?_
  refine d_q0 rfl rfl (q_indexHs rfl rfl rfl (by omega) (by omega)) ?_
  refine d_u3 rfl rfl (as_storeF (i := p) (d := (d.setIfInBounds a d[p]!)) (d[a]!) rfl rfl rfl rfl (by omega) (by first | omega | (simp; omega))) ?_
  refine d_nil (n_n (w_seq (w_reg (s_q rfl rfl (q_mv (.inl rfl) (is_sc rfl)) ?_))))
  refine s_q rfl rfl (q_as (i64_eq ((wrap_id (by omega) (by omega)).trans (by omega) : _ = ((a + 1 : Nat) : Int))) (q_add rfl rfl rfl)) ?_
  refine s_q rfl rfl (q_mv (.inl rfl) (is_sc rfl)) ?_
  refine s_q rfl rfl (q_as (i64_eq ((wrap_id (by omega) (by omega)).trans (by omega) : _ = ((b - 1 : Nat) : Int))) (q_sub rfl rfl rfl)) ?_
  refine s_q rfl rfl (q_mv (.inr rfl) (is_sc rfl)) ?_
  refine s_q rfl rfl (q_mv (.inr rfl) (is_sc rfl)) ?_
  refine s_nil (n_n (w_seq (w_join (fun env A => a + 1 ≤ I0 ∧ I0 ≤ b ∧ Binds env [(0, .hs id 0 n cap), (1, i64 a), (10, i64 I0), (11, i64 ((b - 1 : Nat) : Int))] ∧ A = AH.start (setH h id (fls d1 ++ sp))) ?_ ?_)))
  · refine w_block ?_
    refine w_loop (fun env A => ∃ i : Nat, a + 1 ≤ i ∧ i ≤ b ∧ scanUp (fun x => ltQ x d1[a]!) d1 (b - 1) i = I0 ∧ Binds env [(0, .hs id 0 n cap), (1, i64 a), (10, i64 i), (11, i64 ((b - 1 : Nat) : Int))] ∧ A = AH.start (setH h id (fls d1 ++ sp))) (fun env _ => b - ctr (env 10)) ?_ ?_
    · refine ⟨a + 1, Nat.le_refl _, by omega, hI0, ⟨rfl, rfl, rfl, rfl, trivial⟩, ?_⟩
      rw [← hd1]; rfl
    · rintro env A ⟨i, hi1, hi2, hI, hB, rfl⟩
      rw [hB.eq]; clear hB
      refine w_seq (w_seq (w_draw [0, 0, 3, 7, 15, 15, 63, 127, 15, 15, 783, 1807, 4095, 8191] [0, 0, 0, 0, 0, 0, 0, 1, 0, 0, 0, 1, 0, 0] rfl ?_))
      refine d_q0 rfl rfl (q_mv (.inl rfl) (is_sc rfl)) ?_
      refine d_q0 rfl rfl (q_mv (.inl rfl) (is_sc rfl)) ?_
      refine d_q0 rfl rfl (q_leq rfl rfl rfl) ?_
      refine d_q0 rfl rfl (q_mv (.inl rfl) (is_sc rfl)) ?_
      refine d_split 33 (is_scb rfl) (fun h33 => ?_) (fun h33 => ?_)
      · have hle : i ≤ b - 1 := by have h' : ((i : Nat) : Int) ≤ ((b - 1 : Nat) : Int) := of_decide_eq_true h33; omega
        refine d_q0 rfl rfl (q_mv (.inl rfl) (by first | exact is_im rfl | exact is_gs rfl | exact is_lit rfl | exact is_ms rfl | exact is_sc rfl | exact rfl)) ?_
        refine d_q0 rfl rfl (q_mv (.inl rfl) (is_sc rfl)) ?_
        refine d_q0 rfl rfl (q_indexHs rfl rfl rfl (by omega) (by omega)) ?_
        refine d_q1 rfl rfl (q_loadF (i := i) (d := d1) rfl rfl rfl (by omega) (by omega)) ?_
        refine d_q0 rfl rfl (q_mv (.inl rfl) (by first | exact is_im rfl | exact is_gs rfl | exact is_lit rfl | exact is_ms rfl | exact is_sc rfl | exact rfl)) ?_
        refine d_q0 rfl rfl (q_mv (.inl rfl) (is_sc rfl)) ?_
        refine d_q0 rfl rfl (q_indexHs rfl rfl rfl (by omega) (by omega)) ?_
        refine d_q1 rfl rfl (q_loadF (i := a) (d := d1) rfl rfl rfl (by omega) (by omega)) ?_
        refine d_q0 rfl rfl (q_call rfl rfl rfl rfl (pf_so_Less _ _)) ?_
        refine d_q0 rfl rfl (q_pickT rfl rfl (is_sc rfl)) ?_
        refine d_nil (n_n (w_if (is_scb rfl) (fun h43 => ?_) (fun h43 => ?_)))
        · have hls : (fun x => ltQ x d1[a]!) d1[i]! = true := h43
          refine w_skip (n_n (w_block (w_reg (s_q rfl rfl (q_mv (.inl rfl) (is_sc rfl)) ?_))))
          refine s_q rfl rfl (q_as (i64_eq ((wrap_id (by omega) (by omega)).trans (by omega) : _ = ((i + 1 : Nat) : Int))) (q_add rfl rfl rfl)) ?_
          refine s_q rfl rfl (q_mv (.inr rfl) (is_sc rfl)) ?_
          refine s_nil (b_n (n_n ?_))
          refine ⟨⟨i + 1, by omega, by omega, by rw [← up_go hle hls]; exact hI, ⟨rfl, rfl, rfl, rfl, trivial⟩, rfl⟩, ?_⟩
          show b - (((i + 1 : Nat) : Int)).toNat < b - ((i : Nat) : Int).toNat
          omega
        · have hls : (fun x => ltQ x d1[a]!) d1[i]! = false := h43
          have hnx : ¬ (i ≤ b - 1 ∧ (fun x => ltQ x d1[a]!) d1[i]! = true) := fun h => by rw [hls] at h; simp at h
          have hst := (up_no (p := (fun x => ltQ x d1[a]!)) hnx)
          rw [hst] at hI
          refine w_exit (n_e (n_e (b_hit ?_)))
          subst hI
          exact ⟨rfl, hi1, hi2, ⟨rfl, rfl, rfl, rfl, trivial⟩, rfl⟩
      · have hle : ¬ i ≤ b - 1 := by have h' : ¬ ((i : Nat) : Int) ≤ ((b - 1 : Nat) : Int) := of_decide_eq_false h33; omega
        have hnx : ¬ (i ≤ b - 1 ∧ (fun x => ltQ x d1[a]!) d1[i]! = true) := fun h => hle h.1
        have hst := (up_no (p := (fun x => ltQ x d1[a]!)) hnx)
        rw [hst] at hI
        refine d_off rfl rfl ?_
        refine d_off rfl rfl ?_
        refine d_off rfl rfl ?_
        refine d_off rfl rfl ?_
        refine d_off rfl rfl ?_
        refine d_off rfl rfl ?_
        refine d_off rfl rfl ?_
        refine d_off rfl rfl ?_
        refine d_off rfl rfl ?_
        refine d_q0 rfl rfl (q_pickF rfl rfl (is_sc rfl)) ?_
        refine d_nil (n_n (w_ifF rfl (w_exit (n_e (n_e (b_hit ?_))))))
        subst hI
        exact ⟨rfl, hi1, hi2, ⟨rfl, rfl, rfl, rfl, trivial⟩, rfl⟩
  · rintro env A ⟨hI01, hI02, hB, rfl⟩
    rw [hB.eq]; clear hB
    refine n_n (w_seq (w_join (fun env A => J0 ≤ b - 1 ∧ Binds env [(0, .hs id 0 n cap), (1, i64 a), (10, i64 I0), (11, i64 J0)] ∧ A = AH.start (setH h id (fls d1 ++ sp))) ?_ ?_))
    · refine w_block ?_
      refine w_loop (fun env A => ∃ j : Nat, j ≤ b - 1 ∧ scanDown (fun x => !ltQ x d1[a]!) d1 I0 j = J0 ∧ Binds env [(0, .hs id 0 n cap), (1, i64 a), (10, i64 I0), (11, i64 j)] ∧ A = AH.start (setH h id (fls d1 ++ sp))) (fun env _ => ctr (env 11)) ?_ ?_
      · exact ⟨b - 1, Nat.le_refl _, hJ0, ⟨rfl, rfl, rfl, rfl, trivial⟩, rfl⟩
      · rintro env A ⟨j, hj1, hJ, hB, rfl⟩
        rw [hB.eq]; clear hB
        refine w_seq (w_seq (w_draw [0, 0, 3, 7, 15, 15, 63, 127, 15, 15, 783, 1807, 4095, 8191, 16383] [0, 0, 0, 0, 0, 0, 0, 1, 0, 0, 0, 1, 0, 0, 0] rfl ?_))
        refine d_q0 rfl rfl (q_mv (.inl rfl) (is_sc rfl)) ?_
        refine d_q0 rfl rfl (q_mv (.inl rfl) (is_sc rfl)) ?_
        refine d_q0 rfl rfl (q_leq rfl rfl rfl) ?_
        refine d_q0 rfl rfl (q_mv (.inl rfl) (is_sc rfl)) ?_
        refine d_split 49 (is_scb rfl) (fun h49 => ?_) (fun h49 => ?_)
        · have hle : I0 ≤ j := by have h' : ((I0 : Nat) : Int) ≤ ((j : Nat) : Int) := of_decide_eq_true h49; omega
          refine d_q0 rfl rfl (q_mv (.inl rfl) (by first | exact is_im rfl | exact is_gs rfl | exact is_lit rfl | exact is_ms rfl | exact is_sc rfl | exact rfl)) ?_
          refine d_q0 rfl rfl (q_mv (.inl rfl) (is_sc rfl)) ?_
          refine d_q0 rfl rfl (q_indexHs rfl rfl rfl (by omega) (by omega)) ?_
          refine d_q1 rfl rfl (q_loadF (i := j) (d := d1) rfl rfl rfl (by omega) (by omega)) ?_
          refine d_q0 rfl rfl (q_mv (.inl rfl) (by first | exact is_im rfl | exact is_gs rfl | exact is_lit rfl | exact is_ms rfl | exact is_sc rfl | exact rfl)) ?_
          refine d_q0 rfl rfl (q_mv (.inl rfl) (is_sc rfl)) ?_
          refine d_q0 rfl rfl (q_indexHs rfl rfl rfl (by omega) (by omega)) ?_
          refine d_q1 rfl rfl (q_loadF (i := a) (d := d1) rfl rfl rfl (by omega) (by omega)) ?_
          refine d_q0 rfl rfl (q_call rfl rfl rfl rfl (pf_so_Less _ _)) ?_
          refine d_q0 rfl rfl (q_not rfl rfl) ?_
          refine d_q0 rfl rfl (q_pickT rfl rfl (is_sc rfl)) ?_
          refine d_nil (n_n (w_if (is_scb rfl) (fun h60 => ?_) (fun h60 => ?_)))
          · have hls : (fun x => !ltQ x d1[a]!) d1[j]! = true := h60
            refine w_skip (n_n (w_block (w_reg (s_q rfl rfl (q_mv (.inl rfl) (is_sc rfl)) ?_))))
            refine s_q rfl rfl (q_as (i64_eq ((wrap_id (by omega) (by omega)).trans (by omega) : _ = ((j - 1 : Nat) : Int))) (q_sub rfl rfl rfl)) ?_
            refine s_q rfl rfl (q_mv (.inr rfl) (is_sc rfl)) ?_
            refine s_nil (b_n (n_n ?_))
            refine ⟨⟨j - 1, by omega, by rw [← dn_go (by omega) hle hls]; exact hJ, ⟨rfl, rfl, rfl, rfl, trivial⟩, rfl⟩, ?_⟩
            show (((j - 1 : Nat) : Int)).toNat < ((j : Nat) : Int).toNat
            omega
          · have hls : (fun x => !ltQ x d1[a]!) d1[j]! = false := h60
            have hnx : ¬ (I0 ≤ j ∧ (fun x => !ltQ x d1[a]!) d1[j]! = true) := fun h => by rw [hls] at h; simp at h
            have hst := (dn_no (p := (fun x => !ltQ x d1[a]!)) hnx)
            rw [hst] at hJ
            refine w_exit (n_e (n_e (b_hit ?_)))
            subst hJ
            exact ⟨rfl, hj1, ⟨rfl, rfl, rfl, rfl, trivial⟩, rfl⟩
        · have hle : ¬ I0 ≤ j := by have h' : ¬ ((I0 : Nat) : Int) ≤ ((j : Nat) : Int) := of_decide_eq_false h49; omega
          have hnx : ¬ (I0 ≤ j ∧ (fun x => !ltQ x d1[a]!) d1[j]! = true) := fun h => hle h.1
          have hst := (dn_no (p := (fun x => !ltQ x d1[a]!)) hnx)
          rw [hst] at hJ
          refine d_off rfl rfl ?_
          refine d_off rfl rfl ?_
          refine d_off rfl rfl ?_
          refine d_off rfl rfl ?_
          refine d_off rfl rfl ?_
          refine d_off rfl rfl ?_
          refine d_off rfl rfl ?_
          refine d_off rfl rfl ?_
          refine d_off rfl rfl ?_
          refine d_off rfl rfl ?_
          refine d_q0 rfl rfl (q_pickF rfl rfl (is_sc rfl)) ?_
          refine d_nil (n_n (w_ifF rfl (w_exit (n_e (n_e (b_hit ?_))))))
          subst hJ
          exact ⟨rfl, hj1, ⟨rfl, rfl, rfl, rfl, trivial⟩, rfl⟩
    · rintro env A ⟨hJ01, hB, rfl⟩
      rw [hB.eq]; clear hB
      refine n_n (w_seq (w_seq (w_reg (s_q rfl rfl (q_mv (.inl rfl) (is_sc rfl)) ?_))))
      refine s_q rfl rfl (q_mv (.inl rfl) (is_sc rfl)) ?_
      refine s_q rfl rfl (q_gtr rfl rfl rfl) ?_
      refine s_nil (n_n (w_if (is_scb rfl) (fun h65 => ?_) (fun h65 => ?_)))
      · have hgt : J0 < I0 := by have h' : ((J0 : Nat) : Int) < ((I0 : Nat) : Int) := of_decide_eq_true h65; omega
        refine w_seq (w_draw [0, 0, 0, 0, 0, 0, 48, 112, 0, 0, 768, 1792, 4083, 8179, 16383, 32767] [0, 0, 0, 0, 0, 0, 0, 1, 0, 0, 0, 1, 0, 3, 0, 3] rfl ?_)
        refine d_q0 rfl rfl (q_mv (.inl rfl) (by first | exact is_im rfl | exact is_gs rfl | exact is_lit rfl | exact is_ms rfl | exact is_sc rfl | exact rfl)) ?_
        refine d_q0 rfl rfl (q_mv (.inl rfl) (is_sc rfl)) ?_
        refine d_q0 rfl rfl (q_mv (.inl rfl) (by first | exact is_im rfl | exact is_gs rfl | exact is_lit rfl | exact is_ms rfl | exact is_sc rfl | exact rfl)) ?_
        refine d_q0 rfl rfl (q_mv (.inl rfl) (is_sc rfl)) ?_
        refine d_q0 rfl rfl (q_mv (.inl rfl) (by first | exact is_im rfl | exact is_gs rfl | exact is_lit rfl | exact is_ms rfl | exact is_sc rfl | exact rfl)) ?_
        refine d_q0 rfl rfl (q_mv (.inl rfl) (is_sc rfl)) ?_
        refine d_q0 rfl rfl (q_indexHs rfl rfl rfl (by omega) (by omega)) ?_
        refine d_q1 rfl rfl (q_loadF (i := a) (d := d1) rfl rfl rfl (by omega) (by omega)) ?_
        refine d_q0 rfl rfl (q_mv (.inl rfl) (by first | exact is_im rfl | exact is_gs rfl | exact is_lit rfl | exact is_ms rfl | exact is_sc rfl | exact rfl)) ?_
        refine d_q0 rfl rfl (q_mv (.inl rfl) (is_sc rfl)) ?_
        refine d_q0 rfl rfl (q_indexHs rfl rfl rfl (by omega) (by omega)) ?_
        refine d_q1 rfl rfl (q_loadF (i := J0) (d := d1) rfl rfl rfl (by omega) (by omega)) ?_
        refine d_q0 rfl rfl (q_indexHs rfl rfl rfl (by omega) (by omega)) ?_
        refine d_u3 rfl rfl (as_storeF (i := J0) (d := d1) (d1[a]!) rfl rfl rfl rfl (by omega) (by first | omega | (simp; omega))) ?_
        refine d_q0 rfl rfl (q_indexHs rfl rfl rfl (by omega) (by omega)) ?_
        refine d_u3 rfl rfl (as_storeF (i := a) (d := (d1.setIfInBounds J0 d1[a]!)) (d1[J0]!) rfl rfl rfl rfl (by omega) (by first | omega | (simp; omega))) ?_
        refine d_nil (n_n (w_seq (w_reg (s_q rfl rfl (q_mv (.inl rfl) (is_sc rfl)) ?_))))
        refine s_q rfl rfl (q_mv (.inr rfl) (is_sc rfl)) ?_
        refine s_q rfl rfl (q_mv (.inr rfl) (is_sc rfl)) ?_
        refine s_nil (n_n (w_ret (n_r ?_)))
        -- end 0
        refine r_r (ra_tmp (is_sc rfl) (ra_tmp (is_sc rfl) ra_nil)) (by exact (rfl : _ = D.tup [_, _])) (by exact rfl) (Sub.refl _) ?_
        rw [part_yes hd1 hI0 hJ0 hgt]; exact ⟨rfl, rfl⟩
      · have hgt : ¬ J0 < I0 := by have h' : ¬ ((J0 : Nat) : Int) < ((I0 : Nat) : Int) := of_decide_eq_false h65; omega
        refine w_skip (n_n (w_seq (w_draw [0, 0, 0, 0, 0, 0, 48, 112, 0, 0, 768, 1792, 4083, 8179, 16383, 32767] [0, 0, 0, 0, 0, 0, 0, 1, 0, 0, 0, 1, 0, 3, 0, 3] rfl ?_)))
        refine d_q0 rfl rfl (q_mv (.inl rfl) (by first | exact is_im rfl | exact is_gs rfl | exact is_lit rfl | exact is_ms rfl | exact is_sc rfl | exact rfl)) ?_
        refine d_q0 rfl rfl (q_mv (.inl rfl) (is_sc rfl)) ?_
        refine d_q0 rfl rfl (q_mv (.inl rfl) (by first | exact is_im rfl | exact is_gs rfl | exact is_lit rfl | exact is_ms rfl | exact is_sc rfl | exact rfl)) ?_
        refine d_q0 rfl rfl (q_mv (.inl rfl) (is_sc rfl)) ?_
        refine d_q0 rfl rfl (q_mv (.inl rfl) (by first | exact is_im rfl | exact is_gs rfl | exact is_lit rfl | exact is_ms rfl | exact is_sc rfl | exact rfl)) ?_
        refine d_q0 rfl rfl (q_mv (.inl rfl) (is_sc rfl)) ?_
        refine d_q0 rfl rfl (q_indexHs rfl rfl rfl (by omega) (by omega)) ?_
        refine d_q1 rfl rfl (q_loadF (i := J0) (d := d1) rfl rfl rfl (by omega) (by omega)) ?_
        refine d_q0 rfl rfl (q_mv (.inl rfl) (by first | exact is_im rfl | exact is_gs rfl | exact is_lit rfl | exact is_ms rfl | exact is_sc rfl | exact rfl)) ?_
        refine d_q0 rfl rfl (q_mv (.inl rfl) (is_sc rfl)) ?_
        refine d_q0 rfl rfl (q_indexHs rfl rfl rfl (by omega) (by omega)) ?_
        refine d_q1 rfl rfl (q_loadF (i := I0) (d := d1) rfl rfl rfl (by omega) (by omega)) ?_
        refine d_q0 rfl rfl (q_indexHs rfl rfl rfl (by omega) (by omega)) ?_
        refine d_u3 rfl rfl (as_storeF (i := I0) (d := d1) (d1[J0]!) rfl rfl rfl rfl (by omega) (by first | omega | (simp; omega))) ?_
        refine d_q0 rfl rfl (q_indexHs rfl rfl rfl (by omega) (by omega)) ?_
        refine d_u3 rfl rfl (as_storeF (i := J0) (d := (d1.setIfInBounds I0 d1[J0]!)) (d1[I0]!) rfl rfl rfl rfl (by omega) (by first | omega | (simp; omega))) ?_
        refine d_nil (n_n (w_seq (w_reg (s_q rfl rfl (q_mv (.inl rfl) (is_sc rfl)) ?_))))
        refine s_q rfl rfl (q_as (i64_eq ((wrap_id (by omega) (by omega)).trans (by omega) : _ = ((I0 + 1 : Nat) : Int))) (q_add rfl rfl rfl)) ?_
        refine s_q rfl rfl (q_mv (.inr rfl) (is_sc rfl)) ?_
        refine s_nil (n_n (w_seq (w_reg (s_q rfl rfl (q_mv (.inl rfl) (is_sc rfl)) ?_))))
        refine s_q rfl rfl (q_as (i64_eq ((wrap_id (by omega) (by omega)).trans (by omega) : _ = ((J0 - 1 : Nat) : Int))) (q_sub rfl rfl rfl)) ?_
        refine s_q rfl rfl (q_mv (.inr rfl) (is_sc rfl)) ?_
        refine s_nil (n_n (w_seq (w_block ?_)))
        obtain ⟨R, hR⟩ : ∃ R, partLoop ltQ a (I0 + 1) (J0 - 1) (swp d1 I0 J0) = R := ⟨_, rfl⟩
        refine w_loop (fun env A => ∃ (i j : Nat) (d2 : Array FF), a + 1 ≤ i ∧ i ≤ b ∧ j < b ∧ d2.size = n ∧ partLoop ltQ a i j d2 = R ∧ Binds env [(0, .hs id 0 n cap), (1, i64 a), (10, i64 i), (11, i64 j)] ∧ A = AH.start (setH h id (fls d2 ++ sp))) (fun env _ => ctr (env 11) + 1 - ctr (env 10)) ?_ ?_
        · exact ⟨I0 + 1, J0 - 1, swp d1 I0 J0, by omega, by omega, by omega, by rw [size_swp]; exact hs1, hR, ⟨rfl, rfl, rfl, rfl, trivial⟩, rfl⟩
        · rintro env A ⟨i3, j3, d2, h31, h32, h33, hs2, hR2, hB, rfl⟩
          rw [hB.eq]; clear hB
          obtain ⟨I2, hI2⟩ : ∃ I2, scanUp (fun x => ltQ x d2[a]!) d2 j3 i3 = I2 := ⟨_, rfl⟩
          obtain ⟨J2, hJ2⟩ : ∃ J2, scanDown (fun x => !ltQ x d2[a]!) d2 I2 j3 = J2 := ⟨_, rfl⟩
          refine w_block (w_seq (w_join (fun env A => i3 ≤ I2 ∧ I2 ≤ b ∧ Binds env [(0, .hs id 0 n cap), (1, i64 a), (10, i64 I2), (11, i64 ((j3 : Nat) : Int))] ∧ A = AH.start (setH h id (fls d2 ++ sp))) ?_ ?_))
          · refine w_block ?_
            refine w_loop (fun env A => ∃ i : Nat, i3 ≤ i ∧ i ≤ b ∧ scanUp (fun x => ltQ x d2[a]!) d2 (j3) i = I2 ∧ Binds env [(0, .hs id 0 n cap), (1, i64 a), (10, i64 i), (11, i64 ((j3 : Nat) : Int))] ∧ A = AH.start (setH h id (fls d2 ++ sp))) (fun env _ => b - ctr (env 10)) ?_ ?_
            · exact ⟨i3, Nat.le_refl _, by omega, hI2, ⟨rfl, rfl, rfl, rfl, trivial⟩, rfl⟩
            · rintro env A ⟨i, hi1, hi2, hI, hB, rfl⟩
              rw [hB.eq]; clear hB
              refine w_seq (w_seq (w_draw [0, 0, 3, 7, 15, 15, 63, 127, 15, 15, 783, 1807, 4095, 8191] [0, 0, 0, 0, 0, 0, 0, 1, 0, 0, 0, 1, 0, 0] rfl ?_))
              refine d_q0 rfl rfl (q_mv (.inl rfl) (is_sc rfl)) ?_
              refine d_q0 rfl rfl (q_mv (.inl rfl) (is_sc rfl)) ?_
              refine d_q0 rfl rfl (q_leq rfl rfl rfl) ?_
              refine d_q0 rfl rfl (q_mv (.inl rfl) (is_sc rfl)) ?_
              refine d_split 102 (is_scb rfl) (fun h102 => ?_) (fun h102 => ?_)
              · have hle : i ≤ j3 := by have h' : ((i : Nat) : Int) ≤ ((j3 : Nat) : Int) := of_decide_eq_true h102; omega
                refine d_q0 rfl rfl (q_mv (.inl rfl) (by first | exact is_im rfl | exact is_gs rfl | exact is_lit rfl | exact is_ms rfl | exact is_sc rfl | exact rfl)) ?_
                refine d_q0 rfl rfl (q_mv (.inl rfl) (is_sc rfl)) ?_
                refine d_q0 rfl rfl (q_indexHs rfl rfl rfl (by omega) (by omega)) ?_
                refine d_q1 rfl rfl (q_loadF (i := i) (d := d2) rfl rfl rfl (by omega) (by omega)) ?_
                refine d_q0 rfl rfl (q_mv (.inl rfl) (by first | exact is_im rfl | exact is_gs rfl | exact is_lit rfl | exact is_ms rfl | exact is_sc rfl | exact rfl)) ?_
                refine d_q0 rfl rfl (q_mv (.inl rfl) (is_sc rfl)) ?_
                refine d_q0 rfl rfl (q_indexHs rfl rfl rfl (by omega) (by omega)) ?_
                refine d_q1 rfl rfl (q_loadF (i := a) (d := d2) rfl rfl rfl (by omega) (by omega)) ?_
                refine d_q0 rfl rfl (q_call rfl rfl rfl rfl (pf_so_Less _ _)) ?_
                refine d_q0 rfl rfl (q_pickT rfl rfl (is_sc rfl)) ?_
                refine d_nil (n_n (w_if (is_scb rfl) (fun h112 => ?_) (fun h112 => ?_)))
                · have hls : (fun x => ltQ x d2[a]!) d2[i]! = true := h112
                  refine w_skip (n_n (w_block (w_reg (s_q rfl rfl (q_mv (.inl rfl) (is_sc rfl)) ?_))))
                  refine s_q rfl rfl (q_as (i64_eq ((wrap_id (by omega) (by omega)).trans (by omega) : _ = ((i + 1 : Nat) : Int))) (q_add rfl rfl rfl)) ?_
                  refine s_q rfl rfl (q_mv (.inr rfl) (is_sc rfl)) ?_
                  refine s_nil (b_n (n_n ?_))
                  refine ⟨⟨i + 1, by omega, by omega, by rw [← up_go hle hls]; exact hI, ⟨rfl, rfl, rfl, rfl, trivial⟩, rfl⟩, ?_⟩
                  show b - (((i + 1 : Nat) : Int)).toNat < b - ((i : Nat) : Int).toNat
                  omega
                · have hls : (fun x => ltQ x d2[a]!) d2[i]! = false := h112
                  have hnx : ¬ (i ≤ j3 ∧ (fun x => ltQ x d2[a]!) d2[i]! = true) := fun h => by rw [hls] at h; simp at h
                  have hst := (up_no (p := (fun x => ltQ x d2[a]!)) hnx)
                  rw [hst] at hI
                  refine w_exit (n_e (n_e (b_hit ?_)))
                  subst hI
                  exact ⟨rfl, hi1, hi2, ⟨rfl, rfl, rfl, rfl, trivial⟩, rfl⟩
              · have hle : ¬ i ≤ j3 := by have h' : ¬ ((i : Nat) : Int) ≤ ((j3 : Nat) : Int) := of_decide_eq_false h102; omega
                have hnx : ¬ (i ≤ j3 ∧ (fun x => ltQ x d2[a]!) d2[i]! = true) := fun h => hle h.1
                have hst := (up_no (p := (fun x => ltQ x d2[a]!)) hnx)
                rw [hst] at hI
                refine d_off rfl rfl ?_
                refine d_off rfl rfl ?_
                refine d_off rfl rfl ?_
                refine d_off rfl rfl ?_
                refine d_off rfl rfl ?_
                refine d_off rfl rfl ?_
                refine d_off rfl rfl ?_
                refine d_off rfl rfl ?_
                refine d_off rfl rfl ?_
                refine d_q0 rfl rfl (q_pickF rfl rfl (is_sc rfl)) ?_
                refine d_nil (n_n (w_ifF rfl (w_exit (n_e (n_e (b_hit ?_))))))
                subst hI
                exact ⟨rfl, hi1, hi2, ⟨rfl, rfl, rfl, rfl, trivial⟩, rfl⟩
          · rintro env A ⟨hI21, hI22, hB, rfl⟩
            rw [hB.eq]; clear hB
            refine n_n (w_seq (w_join (fun env A => J2 ≤ j3 ∧ Binds env [(0, .hs id 0 n cap), (1, i64 a), (10, i64 I2), (11, i64 J2)] ∧ A = AH.start (setH h id (fls d2 ++ sp))) ?_ ?_))
            · refine w_block ?_
              refine w_loop (fun env A => ∃ j : Nat, j ≤ j3 ∧ scanDown (fun x => !ltQ x d2[a]!) d2 I2 j = J2 ∧ Binds env [(0, .hs id 0 n cap), (1, i64 a), (10, i64 I2), (11, i64 j)] ∧ A = AH.start (setH h id (fls d2 ++ sp))) (fun env _ => ctr (env 11)) ?_ ?_
              · exact ⟨j3, Nat.le_refl _, hJ2, ⟨rfl, rfl, rfl, rfl, trivial⟩, rfl⟩
              · rintro env A ⟨j, hj1, hJ, hB, rfl⟩
                rw [hB.eq]; clear hB
                refine w_seq (w_seq (w_draw [0, 0, 3, 7, 15, 15, 63, 127, 15, 15, 783, 1807, 4095, 8191, 16383] [0, 0, 0, 0, 0, 0, 0, 1, 0, 0, 0, 1, 0, 0, 0] rfl ?_))
                refine d_q0 rfl rfl (q_mv (.inl rfl) (is_sc rfl)) ?_
                refine d_q0 rfl rfl (q_mv (.inl rfl) (is_sc rfl)) ?_
                refine d_q0 rfl rfl (q_leq rfl rfl rfl) ?_
                refine d_q0 rfl rfl (q_mv (.inl rfl) (is_sc rfl)) ?_
                refine d_split 118 (is_scb rfl) (fun h118 => ?_) (fun h118 => ?_)
                · have hle : I2 ≤ j := by have h' : ((I2 : Nat) : Int) ≤ ((j : Nat) : Int) := of_decide_eq_true h118; omega
                  refine d_q0 rfl rfl (q_mv (.inl rfl) (by first | exact is_im rfl | exact is_gs rfl | exact is_lit rfl | exact is_ms rfl | exact is_sc rfl | exact rfl)) ?_
                  refine d_q0 rfl rfl (q_mv (.inl rfl) (is_sc rfl)) ?_
                  refine d_q0 rfl rfl (q_indexHs rfl rfl rfl (by omega) (by omega)) ?_
                  refine d_q1 rfl rfl (q_loadF (i := j) (d := d2) rfl rfl rfl (by omega) (by omega)) ?_
                  refine d_q0 rfl rfl (q_mv (.inl rfl) (by first | exact is_im rfl | exact is_gs rfl | exact is_lit rfl | exact is_ms rfl | exact is_sc rfl | exact rfl)) ?_
                  refine d_q0 rfl rfl (q_mv (.inl rfl) (is_sc rfl)) ?_
                  refine d_q0 rfl rfl (q_indexHs rfl rfl rfl (by omega) (by omega)) ?_
                  refine d_q1 rfl rfl (q_loadF (i := a) (d := d2) rfl rfl rfl (by omega) (by omega)) ?_
                  refine d_q0 rfl rfl (q_call rfl rfl rfl rfl (pf_so_Less _ _)) ?_
                  refine d_q0 rfl rfl (q_not rfl rfl) ?_
                  refine d_q0 rfl rfl (q_pickT rfl rfl (is_sc rfl)) ?_
                  refine d_nil (n_n (w_if (is_scb rfl) (fun h129 => ?_) (fun h129 => ?_)))
                  · have hls : (fun x => !ltQ x d2[a]!) d2[j]! = true := h129
                    refine w_skip (n_n (w_block (w_reg (s_q rfl rfl (q_mv (.inl rfl) (is_sc rfl)) ?_))))
                    refine s_q rfl rfl (q_as (i64_eq ((wrap_id (by omega) (by omega)).trans (by omega) : _ = ((j - 1 : Nat) : Int))) (q_sub rfl rfl rfl)) ?_
                    refine s_q rfl rfl (q_mv (.inr rfl) (is_sc rfl)) ?_
                    refine s_nil (b_n (n_n ?_))
                    refine ⟨⟨j - 1, by omega, by rw [← dn_go (by omega) hle hls]; exact hJ, ⟨rfl, rfl, rfl, rfl, trivial⟩, rfl⟩, ?_⟩
                    show (((j - 1 : Nat) : Int)).toNat < ((j : Nat) : Int).toNat
                    omega
                  · have hls : (fun x => !ltQ x d2[a]!) d2[j]! = false := h129
                    have hnx : ¬ (I2 ≤ j ∧ (fun x => !ltQ x d2[a]!) d2[j]! = true) := fun h => by rw [hls] at h; simp at h
                    have hst := (dn_no (p := (fun x => !ltQ x d2[a]!)) hnx)
                    rw [hst] at hJ
                    refine w_exit (n_e (n_e (b_hit ?_)))
                    subst hJ
                    exact ⟨rfl, hj1, ⟨rfl, rfl, rfl, rfl, trivial⟩, rfl⟩
                · have hle : ¬ I2 ≤ j := by have h' : ¬ ((I2 : Nat) : Int) ≤ ((j : Nat) : Int) := of_decide_eq_false h118; omega
                  have hnx : ¬ (I2 ≤ j ∧ (fun x => !ltQ x d2[a]!) d2[j]! = true) := fun h => hle h.1
                  have hst := (dn_no (p := (fun x => !ltQ x d2[a]!)) hnx)
                  rw [hst] at hJ
                  refine d_off rfl rfl ?_
                  refine d_off rfl rfl ?_
                  refine d_off rfl rfl ?_
                  refine d_off rfl rfl ?_
                  refine d_off rfl rfl ?_
                  refine d_off rfl rfl ?_
                  refine d_off rfl rfl ?_
                  refine d_off rfl rfl ?_
                  refine d_off rfl rfl ?_
                  refine d_off rfl rfl ?_
                  refine d_q0 rfl rfl (q_pickF rfl rfl (is_sc rfl)) ?_
                  refine d_nil (n_n (w_ifF rfl (w_exit (n_e (n_e (b_hit ?_))))))
                  subst hJ
                  exact ⟨rfl, hj1, ⟨rfl, rfl, rfl, rfl, trivial⟩, rfl⟩
            · rintro env A ⟨hJ21, hB, rfl⟩
              rw [hB.eq]; clear hB
              refine n_n (w_seq (w_seq (w_reg (s_q rfl rfl (q_mv (.inl rfl) (is_sc rfl)) ?_))))
              refine s_q rfl rfl (q_mv (.inl rfl) (is_sc rfl)) ?_
              refine s_q rfl rfl (q_gtr rfl rfl rfl) ?_
              refine s_nil (n_n (w_if (is_scb rfl) (fun h134 => ?_) (fun h134 => ?_)))
              · have hgt2 : J2 < I2 := by have h' : ((J2 : Nat) : Int) < ((I2 : Nat) : Int) := of_decide_eq_true h134; omega
                have hRe := hR2.symm.trans (pl_end hI2 hJ2 hgt2)
                refine w_exit (n_e (b_miss rfl (n_e (b_hit (n_n (w_seq (w_draw [0, 0, 0, 0, 0, 0, 48, 112, 0, 0, 768, 1792, 4083, 8179, 16383, 32767] [0, 0, 0, 0, 0, 0, 0, 1, 0, 0, 0, 1, 0, 3, 0, 3] rfl ?_)))))))
                refine d_q0 rfl rfl (q_mv (.inl rfl) (by first | exact is_im rfl | exact is_gs rfl | exact is_lit rfl | exact is_ms rfl | exact is_sc rfl | exact rfl)) ?_
                refine d_q0 rfl rfl (q_mv (.inl rfl) (is_sc rfl)) ?_
                refine d_q0 rfl rfl (q_mv (.inl rfl) (by first | exact is_im rfl | exact is_gs rfl | exact is_lit rfl | exact is_ms rfl | exact is_sc rfl | exact rfl)) ?_
                refine d_q0 rfl rfl (q_mv (.inl rfl) (is_sc rfl)) ?_
                refine d_q0 rfl rfl (q_mv (.inl rfl) (by first | exact is_im rfl | exact is_gs rfl | exact is_lit rfl | exact is_ms rfl | exact is_sc rfl | exact rfl)) ?_
                refine d_q0 rfl rfl (q_mv (.inl rfl) (is_sc rfl)) ?_
                refine d_q0 rfl rfl (q_indexHs rfl rfl rfl (by omega) (by omega)) ?_
                refine d_q1 rfl rfl (q_loadF (i := a) (d := d2) rfl rfl rfl (by omega) (by omega)) ?_
                refine d_q0 rfl rfl (q_mv (.inl rfl) (by first | exact is_im rfl | exact is_gs rfl | exact is_lit rfl | exact is_ms rfl | exact is_sc rfl | exact rfl)) ?_
                refine d_q0 rfl rfl (q_mv (.inl rfl) (is_sc rfl)) ?_
                refine d_q0 rfl rfl (q_indexHs rfl rfl rfl (by omega) (by omega)) ?_
                refine d_q1 rfl rfl (q_loadF (i := J2) (d := d2) rfl rfl rfl (by omega) (by omega)) ?_
                refine d_q0 rfl rfl (q_indexHs rfl rfl rfl (by omega) (by omega)) ?_
                refine d_u3 rfl rfl (as_storeF (i := J2) (d := d2) (d2[a]!) rfl rfl rfl rfl (by omega) (by first | omega | (simp; omega))) ?_
                refine d_q0 rfl rfl (q_indexHs rfl rfl rfl (by omega) (by omega)) ?_
                refine d_u3 rfl rfl (as_storeF (i := a) (d := (d2.setIfInBounds J2 d2[a]!)) (d2[J2]!) rfl rfl rfl rfl (by omega) (by first | omega | (simp; omega))) ?_
                refine d_nil (n_n (w_seq (w_reg (s_q rfl rfl (q_mv (.inl rfl) (is_sc rfl)) ?_))))
                refine s_q rfl rfl (q_mv (.inr rfl) (is_sc rfl)) ?_
                refine s_q rfl rfl (q_mv (.inr rfl) (is_sc rfl)) ?_
                refine s_nil (n_n (w_ret ?_))
                -- end 1
                refine r_r (ra_tmp (is_sc rfl) (ra_tmp (is_sc rfl) ra_nil)) (by exact (rfl : _ = D.tup [_, _])) (by exact rfl) (Sub.refl _) ?_
                rw [part_no hd1 hI0 hJ0 hgt (hR.trans hRe)]; exact ⟨rfl, rfl⟩
              · have hgt2 : ¬ J2 < I2 := by have h' : ¬ ((J2 : Nat) : Int) < ((I2 : Nat) : Int) := of_decide_eq_false h134; omega
                refine w_skip (n_n (w_seq (w_draw [0, 0, 0, 0, 0, 0, 48, 112, 0, 0, 768, 1792, 4083, 8179, 16383, 32767] [0, 0, 0, 0, 0, 0, 0, 1, 0, 0, 0, 1, 0, 3, 0, 3] rfl ?_)))
                refine d_q0 rfl rfl (q_mv (.inl rfl) (by first | exact is_im rfl | exact is_gs rfl | exact is_lit rfl | exact is_ms rfl | exact is_sc rfl | exact rfl)) ?_
                refine d_q0 rfl rfl (q_mv (.inl rfl) (is_sc rfl)) ?_
                refine d_q0 rfl rfl (q_mv (.inl rfl) (by first | exact is_im rfl | exact is_gs rfl | exact is_lit rfl | exact is_ms rfl | exact is_sc rfl | exact rfl)) ?_
                refine d_q0 rfl rfl (q_mv (.inl rfl) (is_sc rfl)) ?_
                refine d_q0 rfl rfl (q_mv (.inl rfl) (by first | exact is_im rfl | exact is_gs rfl | exact is_lit rfl | exact is_ms rfl | exact is_sc rfl | exact rfl)) ?_
                refine d_q0 rfl rfl (q_mv (.inl rfl) (is_sc rfl)) ?_
                refine d_q0 rfl rfl (q_indexHs rfl rfl rfl (by omega) (by omega)) ?_
                refine d_q1 rfl rfl (q_loadF (i := J2) (d := d2) rfl rfl rfl (by omega) (by omega)) ?_
                refine d_q0 rfl rfl (q_mv (.inl rfl) (by first | exact is_im rfl | exact is_gs rfl | exact is_lit rfl | exact is_ms rfl | exact is_sc rfl | exact rfl)) ?_
                refine d_q0 rfl rfl (q_mv (.inl rfl) (is_sc rfl)) ?_
                refine d_q0 rfl rfl (q_indexHs rfl rfl rfl (by omega) (by omega)) ?_
                refine d_q1 rfl rfl (q_loadF (i := I2) (d := d2) rfl rfl rfl (by omega) (by omega)) ?_
                refine d_q0 rfl rfl (q_indexHs rfl rfl rfl (by omega) (by omega)) ?_
                refine d_u3 rfl rfl (as_storeF (i := I2) (d := d2) (d2[J2]!) rfl rfl rfl rfl (by omega) (by first | omega | (simp; omega))) ?_
                refine d_q0 rfl rfl (q_indexHs rfl rfl rfl (by omega) (by omega)) ?_
                refine d_u3 rfl rfl (as_storeF (i := J2) (d := (d2.setIfInBounds I2 d2[J2]!)) (d2[I2]!) rfl rfl rfl rfl (by omega) (by first | omega | (simp; omega))) ?_
                refine d_nil (n_n (w_seq (w_reg (s_q rfl rfl (q_mv (.inl rfl) (is_sc rfl)) ?_))))
                refine s_q rfl rfl (q_as (i64_eq ((wrap_id (by omega) (by omega)).trans (by omega) : _ = ((I2 + 1 : Nat) : Int))) (q_add rfl rfl rfl)) ?_
                refine s_q rfl rfl (q_mv (.inr rfl) (is_sc rfl)) ?_
                refine s_nil (n_n (w_reg (s_q rfl rfl (q_mv (.inl rfl) (is_sc rfl)) ?_)))
                refine s_q rfl rfl (q_as (i64_eq ((wrap_id (by omega) (by omega)).trans (by omega) : _ = ((J2 - 1 : Nat) : Int))) (q_sub rfl rfl rfl)) ?_
                refine s_q rfl rfl (q_mv (.inr rfl) (is_sc rfl)) ?_
                refine s_nil (b_n (n_n ?_))
                refine ⟨⟨I2 + 1, J2 - 1, swp d2 I2 J2, by omega, by omega, by omega, by rw [size_swp]; exact hs2, by rw [← pl_go hI2 hJ2 hgt2]; exact hR2, ⟨rfl, rfl, rfl, rfl, trivial⟩, rfl⟩, ?_⟩
                show (((J2 - 1 : Nat) : Int)).toNat + 1 - (((I2 + 1 : Nat) : Int)).toNat < ((j3 : Nat) : Int).toNat + 1 - ((i3 : Nat) : Int).toNat
                omega

end Go.Proofs.YtopgbalmdocboaaGreatDoor.Zz
