/- Walks of the functions, printed by program: each theorem says what one function answers. -/
import Derived.Test.YtjobmjfdlkjaoaaGreatDoorZSpLCM
import Derived.Test.YtjobmjfdlkjaoaaGreatDoorZDrLCM
import Derived.Test.YtjobmjfdlkjaoaaGreatDoorZInj
namespace Go.Proofs.YtjobmjfdlkjaoaaGreatDoor.Zz
open Go.Abs
set_option maxRecDepth 100000
set_option linter.unusedVariables false
set_option linter.unusedSimpArgs false
set_option maxHeartbeats 4000000
variable {G : Nat → D}

def intU (n : Int) : U := ⟨(intV n).kind, (intV n).num, (intV n).den, (intV n).text⟩
theorem intU_v (n : Int) : (intU n).v = intV n := by unfold intU intV U.v; split <;> rfl
theorem lst_int (l : List Int) : lst (l.map intV) = lstU (l.map intU) := by
  rw [← lst_U, List.map_map]; congr 1; exact List.map_congr_left fun n _ => (intU_v n).symm
theorem lcmI_le : ∀ (l : List Int) (o L : Nat), (∀ n ∈ l, 0 ≤ n ∧ n ≤ 1000) → 1 ≤ o → o ≤ 1000000000 → lcmI o l = some L → 1 ≤ L ∧ L ≤ 1000000000
  | [], o, L, _, _, h, e => by simp only [lcmI, Option.some.injEq] at e; omega
  | n :: t, o, L, hb, h1, h, e => by
    unfold lcmI at e
    split at e
    · cases e
    · rename_i hc
      have hn := hb n List.mem_cons_self
      have hq := lcm_le h1 (by omega) (show 1 ≤ n.toNat by omega) (by omega)
      exact lcmI_le t _ L (fun m hm => hb m (List.mem_cons_of_mem _ hm)) hq.1 hq.2.1 e
theorem pf_lcmAgrees (l : List Int) (h30 : l.length ≤ 30) : PF Tryz.prog G 9 [.fn 17 [] [], st [76, 67, 77], lst (l.map intV)] (bl true) := by
  rw [lst_int]
  have hl : (l.map intU).length < 1000000000 := by simp only [List.length_map]; omega
  have hk : ∀ u ∈ l.map intU, ¬ u.kind = 5 := fun u hu => by
    obtain ⟨n, _, rfl⟩ := List.mem_map.1 hu
    show ¬ (intV n).kind = 5
    unfold intV; split <;> simp [doubt]
  have hwD := pf_doubtP (G := G) doubt (by simp [doubt])
  by_cases hc : ¬ l = [] ∧ l.all okL = true
  · have hok : ∀ n ∈ l, 0 ≤ n ∧ n ≤ 1000 := fun n hn => okL_of (List.all_eq_true.1 hc.2 n hn)
    have hV : l.map intV = nums l := List.map_congr_left fun n hn => intV_num (by have := hok n hn; omega)
    have hcall := pf_Call_LCMA (G := G) l h30 hc.1 hok
    rw [← hV, lst_int] at hcall
    have hd : ((l.map intU).map U.v).any (isK 6) = false := by
      rw [List.map_map, List.any_eq_false]
      intro v hv
      obtain ⟨n, hn, rfl⟩ := List.mem_map.1 hv
      have : (U.v ∘ intU) n = num n 1 := by show (intU n).v = _; rw [intU_v]; exact intV_num (by have := hok n hn; omega)
      rw [this]; simp [isK, num]
    cases hL : lcmI 1 l with
    | none =>
      rw [lcmV_none hL] at hcall
      exact pf_agreesD 17 [76, 67, 77] _ hl hk doubt hcall hd hwD
    | some L =>
      rw [lcmV_some hL] at hcall
      have hLe := lcmI_le l 1 L hok (by omega) (by omega) hL
      have hqa : ∀ n ∈ l, floatBits .quo .f64 (FloatKind.f64.nearest n) (FloatKind.f64.nearest 1) = some (qV (num n 1)) ∧ Fx (qV (num n 1)) (n * (unit : Nat)) ∧ qV (num n 1) < 2 ^ 64 := fun n hn => qV_whole (by have := hok n hn; omega)
      have ha := pf_all (G := G) (nums l) (by simp only [nums, List.length_map]; omega) (fun v => iNum (qV v)) (fun v hv => by
        obtain ⟨n, hn, rfl⟩ := List.mem_map.1 hv
        exact pf_ofN n 1 _ (hqa n hn).1)
      rw [← hV, lst_int, hV] at ha
      have e : (nums l).map (fun v => iNum (qV v)) = l.map fun n => iNum (qV (num n 1)) := by unfold nums; rw [List.map_map]; rfl
      rw [e] at ha
      have hi : PF Tryz.prog G 17 [ilst (l.map fun n => iNum (qV (num n 1)))] (iNum (FloatKind.f64.nearest L)).d :=
        (pf_ImplLCM (G := G) l (fun n => qV (num n 1)) (fun n hn => Fy.of (hqa n hn).2.1) (fun n hn => (hqa n hn).2.2) hok h30 hc.1 L hL).mono fun v ⟨r, h1, h2, h3⟩ => by
          rw [h1, fy_inj h3 (near_lt _) h2 (Fy.nearest (by omega)) (by omega)]
      obtain ⟨hq3, hx3, _⟩ := qV_whole (n := (L : Int)) (by omega)
      have hsm := pf_same (G := G) 1 1 (FloatKind.f64.nearest L) (qV (num (L : Int) 1)) [] [] (num (L : Int) 1) (pf_ofN _ _ _ hq3)
      rw [same_whole (Fy.nearest (by omega)).whole hx3] at hsm
      exact pf_agreesS 17 [76, 67, 77] _ hl hk (num L 1) hcall hd (pf_doubtP (num L 1) (by simp [num])) _ (iNum (FloatKind.f64.nearest L)) ha hi hsm
  · have hcall := pf_Call_LCMB (G := G) l h30 hc
    rw [lst_int] at hcall
    cases hd : ((l.map intU).map U.v).any (isK 6) with
    | true => exact pf_agreesT 17 [76, 67, 77] _ hl hk doubt hcall hd
    | false => exact pf_agreesD 17 [76, 67, 77] _ hl hk doubt hcall hd hwD


-- pub-tallysheet/laws.FnLcm
theorem pf_FnLcm (l : List Int) : PF Tryz.prog G 8 [.im (l.map i64) l.length] (bl true) := by
  refine PC.intro rfl Tryz.func8 rfl (Nat.le_of_ble_eq_true rfl) rfl ?_
  refine w_seq (w_reg (s_q rfl rfl (q_mv (.inr rfl) (is_sc rfl)) ?_))
  refine s_nil (n_n (w_seq (w_seq (w_reg (s_q rfl rfl (q_mv (.inl rfl) (by first | exact is_im rfl | exact is_gs rfl | exact is_lit rfl | exact is_ms rfl | exact is_sc rfl | exact rfl)) ?_)))))
  refine s_q rfl rfl (q_len rfl rfl rfl) ?_
  refine s_q rfl rfl (q_gtr rfl rfl rfl) ?_
  refine s_nil (n_n (w_if (is_scb rfl) (fun h5 => ?_) (fun h5 => ?_)))
  · refine w_seq (w_reg (s_q rfl rfl (q_mv (.inr rfl) (is_sc rfl)) ?_))
    refine s_nil (n_n (w_ret (n_r ?_)))
    -- end 0
    refine r_r (ra_tmp (is_sc rfl) ra_nil) (by exact (is_sc rfl)) (by exact rfl) sub_no ?_
    rfl
  · have h2 : ¬ (2147483647 : Int) < (l.length : Int) := of_decide_eq_false h5
    refine w_skip (n_n (w_seq (w_reg (s_q rfl rfl (q_mv (.inl rfl) (by first | exact is_im rfl | exact is_gs rfl | exact is_lit rfl | exact is_ms rfl | exact is_sc rfl | exact rfl)) ?_))))
    refine s_q rfl rfl (q_len rfl rfl rfl) ?_
    refine s_q rfl rfl (q_gtr rfl rfl rfl) ?_
    refine s_q rfl rfl (q_mv (.inl rfl) (is_sc rfl)) ?_
    refine s_split 9 (is_scb rfl) (fun h9 => ?_) (fun h9 => ?_)
    · refine s_off rfl rfl ?_
      refine s_off rfl rfl ?_
      refine s_off rfl rfl ?_
      refine s_q rfl rfl (q_pickT rfl rfl (is_sc rfl)) ?_
      refine s_q rfl rfl (q_mv (.inr rfl) (is_sc rfl)) ?_
      refine s_nil (n_n (w_ret ?_))
      -- end 1
      refine r_r (ra_tmp (is_sc rfl) ra_nil) (by exact (is_sc rfl)) (by exact rfl) sub_no ?_
      rfl
    · have h30 : l.length ≤ 30 := by have h' : ¬ (30 : Int) < (l.length : Int) := of_decide_eq_false h9; omega
      refine s_q rfl rfl (q_mv (.inl rfl) (by first | exact is_im rfl | exact is_gs rfl | exact is_lit rfl | exact is_ms rfl | exact is_sc rfl | exact rfl)) ?_
      refine s_q rfl rfl (q_call rfl rfl rfl rfl (pf_argWholes l (by omega))) ?_
      refine s_q rfl rfl (q_call rfl rfl rfl rfl (pf_lcmAgrees l h30)) ?_
      refine s_q rfl rfl (q_pickF rfl rfl (is_sc rfl)) ?_
      refine s_q rfl rfl (q_mv (.inr rfl) (is_sc rfl)) ?_
      refine s_nil (n_n (w_ret ?_))
      -- end 2
      refine r_r (ra_tmp (is_sc rfl) ra_nil) (by exact (is_sc rfl)) (by exact rfl) sub_no ?_
      rfl

end Go.Proofs.YtjobmjfdlkjaoaaGreatDoor.Zz
