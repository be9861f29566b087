/- Walks of the functions, printed by program, and the logic behind them: each theorem says what one function or one step answers. -/
import Derived.Test.YtpjckdhgefbonaaGreatDoorZSpMUNIT
import Derived.Test.YtpjckdhgefbonaaGreatDoorZDrMUNIT
import Derived.Test.YtpjckdhgefbonaaGreatDoorZItem
import Derived.Test.YtpjckdhgefbonaaGreatDoorZNum
namespace Go.Proofs.YtpjckdhgefbonaaGreatDoor.Zz
open Go.Abs
set_option maxRecDepth 100000
set_option linter.unusedVariables false
set_option linter.unusedSimpArgs false
set_option maxHeartbeats 4000000
variable {G : Nat → D}

theorem quo_one : floatBits .quo .f64 (FloatKind.f64.nearest 1) (FloatKind.f64.nearest 1) = some 4607182418800017408 := by decide
theorem quo_zero : floatBits .quo .f64 (FloatKind.f64.nearest 0) (FloatKind.f64.nearest 1) = some 0 := by decide
theorem pf_doubtTab (rows : List (List U)) (hl : rows.length < 1000000000) (hf : rows.flatten.length < 1000000000) (hr : ∀ r ∈ rows, r.length < 1000000000 ∧ ∀ u ∈ r, ¬ u.kind = 5) : PF Tryz.prog G 29 [(tabV rows).d] (bl ((rows.flatten.map U.v).any (isK 6))) := by
  have e : flatV [tabV rows] = rows.flatten.map U.v := by rw [flatV_one]; simp [tabV]
  have hO : Ok [tabV rows] := ⟨by simp, by rw [e, List.length_map]; exact hf, fun v hv _ => by
    rw [List.mem_singleton.1 hv]
    exact ⟨hl, hr⟩⟩
  have := pf_doubtful_step (G := G) (tabV rows) (flatV [tabV rows]) hO.flat (pf_flat [tabV rows] hO)
  rw [e] at this; exact this
theorem pf_munAgrees (k : Nat) (h1 : 1 ≤ k) (h20 : k ≤ 20) : PF Tryz.prog G 11 [.fn 16 [] [], st [77, 85, 78, 73, 84], lst [num (k : Int) 1]] (bl true) := by
  have hcall := pf_Call_MUNIT (G := G) k h1 h20
  obtain ⟨hq, hx, hqb⟩ := qV_whole (n := (k : Int)) (by omega)
  have hal := pf_all (G := G) [num (k : Int) 1] (by simp) (fun v => iNum (qV v)) (fun v hv => by rw [List.mem_singleton.1 hv]; exact pf_ofN _ _ _ hq)
  have hof : ∀ r ∈ munR k k, ∀ u ∈ r, PF Tryz.prog G 49 [u.v.d] (IU.v (numI u)).d := fun r hr u hu => by
    rcases mun_mem hr hu with rfl | rfl
    · exact pf_ofN 1 1 _ quo_one
    · exact pf_ofN 0 1 _ quo_zero
  have hall : ∀ r ∈ munR k k, PF Tryz.prog G 32 [lstU r] (ilstU (r.map numI)) := fun r hr => by
    have := pf_all (G := G) (r.map U.v) (by rw [List.length_map, munR_row hr]; omega) (fun v => IU.v ⟨1, if v.num = 1 then 4607182418800017408 else 0, []⟩) (fun v hv => by
      obtain ⟨u, hu, rfl⟩ := List.mem_map.1 hv
      exact hof r hr u hu)
    rw [lst_U, List.map_map] at this
    have e : r.map ((fun v : V => IU.v ⟨1, if v.num = 1 then 4607182418800017408 else 0, []⟩) ∘ U.v) = (r.map numI).map IU.v := by rw [List.map_map]; rfl
    rw [e, ilst_U] at this
    exact this
  have ho := pf_ofTab (G := G) (munR k k) numI (by rw [munR_len]; omega) hall
  have hs := pf_sameTab (G := G) (munR k k) numI (by rw [munR_len]; omega) (fun r hr => by rw [munR_row hr]; omega) ho (fun r hr u hu => by
    have h := hof r hr u hu
    rcases mun_mem hr hu with rfl | rfl
    · have := pf_same (G := G) 1 1 4607182418800017408 4607182418800017408 [] [] (num 1 1) (pf_ofN 1 1 _ quo_one)
      rw [sameN fx_one fx_one] at this; exact this
    · have := pf_same (G := G) 1 1 0 0 [] [] (num 0 1) (pf_ofN 0 1 _ quo_zero)
      rw [sameN fx_zero fx_zero] at this; exact this)
  rw [← mun_same] at hs
  have hkk : k * k ≤ 20 * 20 := Nat.mul_le_mul h20 h20
  have hw := pf_doubtTab (G := G) (munR k k) (by rw [munR_len]; omega) (by rw [munR_flat]; omega) (fun r hr => ⟨by rw [munR_row hr]; omega, fun u hu => by rcases mun_mem hr hu with rfl | rfl <;> simp⟩)
  rw [show ((munR k k).flatten.map U.v).any (isK 6) = false from by
    rw [List.any_eq_false]
    intro v hv
    obtain ⟨u, hu, rfl⟩ := List.mem_map.1 hv
    obtain ⟨r, hr, hur⟩ := List.mem_flatten.1 hu
    rcases mun_mem hr hur with rfl | rfl <;> simp [isK, U.v]] at hw
  exact pf_agreesS 16 [77, 85, 78, 73, 84] [⟨1, (k : Int), 1, []⟩] (by simp) (by simp) (tabV (munR k k)) hcall rfl hw [iNum (qV (num (k : Int) 1))] (tabI ((munFs k k).map (·.map fI))) hal (pf_ImplMUNIT _ k hx h1 h20) hs
def munK (n : Int) : Nat := (1 + partI n 20).toNat
theorem munK_le (n : Int) : 1 ≤ munK n ∧ munK n ≤ 20 ∧ 1 + partI n 20 = (munK n : Nat) := by
  have := part_le (k := n) (n := 20) (by omega)
  unfold munK; omega


-- pub-tallysheet/laws.part
theorem pf_part (n m : Int) (hm : 0 < m) (hm2 : m < 1000000) : PF Tryz.prog G 18 [i64 n, i64 m] (i64 (partI n m)) := by
  have hp1 := Int.tmod_lt_of_pos n hm
  have hp2 := part_le (k := n) hm
  refine PC.intro rfl Tryz.func18 rfl (Nat.le_of_ble_eq_true rfl) rfl ?_
  refine w_seq (w_reg (s_q rfl rfl (q_mv (.inr rfl) (is_sc rfl)) ?_))
  refine s_nil (n_n (w_seq (w_reg (s_q rfl rfl (q_mv (.inl rfl) (is_sc rfl)) ?_))))
  refine s_q rfl rfl (q_mv (.inl rfl) (is_sc rfl)) ?_
  refine s_q rfl rfl (q_rem rfl rfl rfl (by omega)) ?_
  refine s_q rfl rfl (q_mv (.inr rfl) (is_sc rfl)) ?_
  refine s_nil (n_n (w_seq (w_seq (w_reg (s_q rfl rfl (q_mv (.inl rfl) (is_sc rfl)) ?_)))))
  refine s_q rfl rfl (q_lss rfl rfl rfl) ?_
  refine s_nil (n_n (w_if (is_scb rfl) (fun h9 => ?_) (fun h9 => ?_)))
  · have h0 : n.tmod m < 0 := of_decide_eq_true h9
    have he : partI n m = n.tmod m + m := if_pos h0
    refine w_reg (s_q rfl rfl (q_mv (.inl rfl) (is_sc rfl)) ?_)
    refine s_q rfl rfl (q_mv (.inl rfl) (is_sc rfl)) ?_
    refine s_q rfl rfl (q_as (i64_eq (show IntKind.i64.wrap (n.tmod m + m) = partI n m by rw [wrap_id (by omega) (by omega)]; exact he.symm)) (q_add rfl rfl rfl)) ?_
    refine s_q rfl rfl (q_mv (.inr rfl) (is_sc rfl)) ?_
    refine s_nil (n_n (w_seq (w_reg (s_q rfl rfl (q_mv (.inl rfl) (is_sc rfl)) ?_))))
    refine s_q rfl rfl (q_mv (.inr rfl) (is_sc rfl)) ?_
    refine s_nil (n_n (w_ret ?_))
    -- end 0
    refine r_r (ra_tmp (is_sc rfl) ra_nil) (by exact (is_sc rfl)) (by exact rfl) sub_no ?_
    rfl
  · have h0 : ¬ n.tmod m < 0 := of_decide_eq_false h9
    have he : partI n m = n.tmod m := if_neg h0
    refine w_skip (n_n (w_seq (w_reg (s_q rfl rfl (q_mv (.inl rfl) (is_sc rfl)) ?_))))
    refine s_q rfl rfl (q_mv (.inr rfl) (is_sc rfl)) ?_
    refine s_nil (n_n (w_ret ?_))
    -- end 1
    refine r_r (ra_tmp (is_sc rfl) ra_nil) (by exact (is_sc rfl)) (by exact rfl) sub_no ?_
    rw [he]


-- pub-tallysheet/laws.FnMunit
theorem pf_FnMunit (n : Int) : PF Tryz.prog G 4 [i64 n] (bl true) := by
  obtain ⟨k1, k2, k3⟩ := munK_le n
  refine PC.intro rfl Tryz.func4 rfl (Nat.le_of_ble_eq_true rfl) rfl ?_
  refine w_seq (w_reg (s_q rfl rfl (q_mv (.inr rfl) (is_sc rfl)) ?_))
  refine s_nil (n_n (w_seq (w_reg (s_q rfl rfl (q_mv (.inl rfl) (is_sc rfl)) ?_))))
  refine s_q rfl rfl (q_call rfl rfl rfl rfl (pf_part n 20 (by omega) (by omega))) ?_
  refine s_q rfl rfl (q_as (i64_eq (show IntKind.i64.wrap (1 + partI n 20) = ((munK n : Nat) : Int) by rw [wrap_id (by omega) (by omega)]; exact k3)) (q_add rfl rfl rfl)) ?_
  refine s_q rfl rfl (q_call rfl rfl rfl rfl (pf_intN1 (munK n : Int) (by omega))) ?_
  refine s_q rfl rfl (q_bs rfl (pt_cons (by first | exact (rfl : _ = D.agg [_, _, _, _, _]) | exact rfl) pt_nil) (by decide) (by decide) (by exact (rfl : _ = some [_, _, _, _, _])) (by exact (rfl : _ = [_, _, _, _, _])) (by exact rfl) (by exact rfl)) ?_
  refine s_q rfl rfl (q_call rfl rfl rfl rfl (pf_munAgrees (munK n) k1 k2)) ?_
  refine s_q rfl rfl (q_mv (.inr rfl) (is_sc rfl)) ?_
  refine s_nil (n_n (w_ret ?_))
  -- end 0
  refine r_r (ra_tmp (is_sc rfl) ra_nil) (by exact (is_sc rfl)) (by exact rfl) sub_no ?_
  rfl

end Go.Proofs.YtpjckdhgefbonaaGreatDoor.Zz
