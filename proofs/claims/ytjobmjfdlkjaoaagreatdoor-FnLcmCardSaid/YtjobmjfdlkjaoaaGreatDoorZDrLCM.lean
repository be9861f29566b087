/- Walks of the functions, printed by program: each theorem says what one function answers. -/
import Derived.Test.YtjobmjfdlkjaoaaGreatDoorZPrLCM
import Derived.Test.YtjobmjfdlkjaoaaGreatDoorZWG
namespace Go.Proofs.YtjobmjfdlkjaoaaGreatDoor.Zz
open Go.Abs
set_option maxRecDepth 100000
set_option linter.unusedVariables false
set_option linter.unusedSimpArgs false
set_option maxHeartbeats 4000000
variable {G : Nat → D}

-- pub-tallysheet/pub/excelize.DoorLCM
theorem pf_DoorLCM (ns : List Int) (q : Int → Nat) (hg : ∀ n ∈ ns, Fy 0 (q n) n) (hgb : ∀ n ∈ ns, q n < 2 ^ 64) (hok : ∀ n ∈ ns, 0 ≤ n ∧ n ≤ 1000) (h30 : ns.length ≤ 30) (hne : ¬ ns = []) (L : Nat) (hL : lcmI 1 ns = some L) : PC Tryz.prog G 33 [ilst (ns.map fun n => iNum (q n))] (fun v => ∃ r, v = (iNum r).d ∧ Fy 0 r (L : Int) ∧ r < 2 ^ 64) := by
  refine PC.intro rfl Tryz.func33 rfl (Nat.le_of_ble_eq_true rfl) rfl ?_
  refine w_seq (w_reg (s_s rfl rfl (as_alloc0 (id := 0) rfl rfl (by exact (rfl : _ = [_, _, _, _]))) ?_))
  refine s_nil (n_n (w_seq (w_reg (s_o rfl rfl (ao_callH rfl rfl rfl rfl (pf_doorFuncs _) fun v3 Hv3 hv3 => ?_)))))
  obtain ⟨kf, rfl⟩ := hv3
  refine s_q rfl rfl (q_mv (.inl rfl) (by first | exact is_im rfl | exact is_gs rfl | exact is_lit rfl | exact is_ms rfl | exact is_sc rfl | exact rfl)) ?_
  refine s_o rfl rfl (ao_callH rfl rfl rfl rfl (pf_innerList _ (ns.map fun n => iNum (q n)) (by simp only [List.length_map]; omega) (fun v => fNum (clean v.num)) (fun v hv => by obtain ⟨n, hn, rfl⟩ := List.mem_map.1 hv; exact pf_innerN (q n) _ (hg n hn).whole)) fun v5 Hv5 hv5 => ?_)
  obtain ⟨kl, es, rfl, hL5, hes⟩ := hv5
  refine s_o rfl rfl (ao_callH rfl rfl rfl rfl (pf_LCM _ kf kl es hL5 ns (fun n => clean (q n)) (by rw [hes, List.map_map]; rfl) (fun n hn => (hg n hn).clean) (fun n hn => clean_lt (hgb n hn)) hok h30 hne L hL) fun v6 Hv6 hv6 => ?_)
  obtain ⟨r, rfl, hr⟩ := hv6
  refine s_q rfl rfl (q_call rfl rfl rfl rfl (pf_doorN _)) ?_
  refine s_u rfl rfl (as_st rfl rfl (by first | exact (rfl : _ = D.agg [_, _, _, _]) | exact rfl) rfl (by exact rfl) (by exact rfl) (by exact Nat.le_of_ble_eq_true rfl) (by exact (rfl : _ = [_, _, _, _]))) ?_
  refine s_nil (n_n (w_ret ?_))
  -- end 0
  refine r_r (ra_cell (by exact (rfl : _ = some (D.agg [_, _, _, _]))) ra_nil) (by first | exact (rfl : _ = D.agg [_, _, _, _]) | exact rfl) (by exact rfl) sub_no ?_
  exact ⟨_, rfl, hr⟩


-- pub-tallysheet/impl.LCM
theorem pf_ImplLCM (ns : List Int) (q : Int → Nat) (hg : ∀ n ∈ ns, Fy 0 (q n) n) (hgb : ∀ n ∈ ns, q n < 2 ^ 64) (hok : ∀ n ∈ ns, 0 ≤ n ∧ n ≤ 1000) (h30 : ns.length ≤ 30) (hne : ¬ ns = []) (L : Nat) (hL : lcmI 1 ns = some L) : PC Tryz.prog G 17 [ilst (ns.map fun n => iNum (q n))] (fun v => ∃ r, v = (iNum r).d ∧ Fy 0 r (L : Int) ∧ r < 2 ^ 64) := by
  refine PC.intro rfl Tryz.func17 rfl (Nat.le_of_ble_eq_true rfl) rfl ?_
  refine w_seq (w_reg (s_s rfl rfl (as_alloc0 (id := 0) rfl rfl (by exact (rfl : _ = [_, _, _, _]))) ?_))
  refine s_nil (n_n (w_seq (w_reg (s_q rfl rfl (q_mv (.inl rfl) (by first | exact is_im rfl | exact is_gs rfl | exact is_lit rfl | exact is_ms rfl | exact is_sc rfl | exact rfl)) ?_))))
  refine s_q rfl rfl (q_call rfl rfl rfl rfl (pf_in (ns.map fun n => iNum (q n)) (by simp only [List.length_map]; omega) (by intro v hv; obtain ⟨n, _, rfl⟩ := List.mem_map.1 hv; rfl))) ?_
  refine s_o rfl rfl (ao_call rfl rfl rfl rfl (pf_DoorLCM ns q hg hgb hok h30 hne L hL) fun vd hvd => ?_)
  obtain ⟨r, rfl, hr⟩ := hvd
  refine s_q rfl rfl (q_call rfl rfl rfl rfl (pf_out _ _ _)) ?_
  refine s_u rfl rfl (as_st rfl rfl (by first | exact (rfl : _ = D.agg [_, _, _, _]) | exact rfl) rfl (by exact rfl) (by exact rfl) (by exact Nat.le_of_ble_eq_true rfl) (by exact (rfl : _ = [_, _, _, _]))) ?_
  refine s_nil (n_n (w_ret ?_))
  -- end 0
  refine r_r (ra_cell (by exact (rfl : _ = some (D.agg [_, _, _, _]))) ra_nil) (by first | exact (rfl : _ = D.agg [_, _, _, _]) | exact rfl) (by exact rfl) sub_no ?_
  exact ⟨_, rfl, hr⟩

end Go.Proofs.YtjobmjfdlkjaoaaGreatDoor.Zz
