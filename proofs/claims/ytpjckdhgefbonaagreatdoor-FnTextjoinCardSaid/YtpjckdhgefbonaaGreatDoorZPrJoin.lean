/- Walks of the functions, printed by program, and the logic behind them: each theorem says what one function or one step answers. -/
import Derived.Test.YtpjckdhgefbonaaGreatDoorZM
import Derived.Test.YtpjckdhgefbonaaGreatDoorZNx
import Derived.Test.YtpjckdhgefbonaaGreatDoorZCallX
import Derived.Test.YtpjckdhgefbonaaGreatDoorZTj
import Derived.Shelf.Lay
import Derived.Shelf.Strings.OnBuilder
namespace Go.Proofs.YtpjckdhgefbonaaGreatDoor.Zz
open Go.Abs
set_option maxRecDepth 100000
set_option linter.unusedVariables false
set_option linter.unusedSimpArgs false
set_option maxHeartbeats 4000000
variable {G : Nat → D}

shelf_lay Lays.n156 Nm 156 at Tryz as Tryz.lays156
theorem Tryz.Builder_Extra_156 : Builder.Extra Tryz.prog Tryz.lays156_ren where
  sizeBuilder := by kernel_rfl
  liesBuilder := by kernel_rfl
  t5 := Tryz.underlying5
  a5 := Tryz.isAgg5
  z5 := Tryz.sizeOf5
  v5 := Tryz.zeroValue5
  infoByte := by kernel_rfl
  cellsByte := by kernel_rfl
  sizeByte := by kernel_rfl
  neB5 := by decide

theorem pf_Join (ts : List (List UInt8)) (b : List UInt8) (hn : ts.length ≤ 1000000) (hlen : (joinB b ts).length ≤ 1000000) : PF Tryz.prog G 73 [.im (ts.map st) ts.length, st b] (st (joinB b ts)) :=
  pf_shelf fun g Prot w cargs hr ha => by
    simp only [repL] at ha
    obtain ⟨v, r, rfl, h1, v2, r2, rfl, h2, rfl⟩ := ha
    simp only [rep] at h2
    subst h2
    have fin : ∀ w' (hb : Go.RowKit.Below w.heap.size w w'), ∃ cv, Ending.returned (.string ⟨(Lib.join ts b).toArray⟩) = Ending.returned cv ∧ Go.RowKit.Below w.heap.size w w' ∧ rep g Lo.none (st (joinB b ts)) cv := fun w' hb => ⟨_, rfl, hb, by simp only [rep]; rw [join_lib]⟩
    simp only [rep] at h1
    by_cases hz : ts = []
    · subst hz
      rcases h1 with ⟨_, _, rfl⟩ | ⟨bk, o, cap, rfl, _, _⟩
      · exact (Any.strings_Join_none Tryz.lays156 Tryz.Builder_Extra_156 none 0 ⟨⟨b⟩⟩ w).mono fun e w' ⟨he, hw⟩ => by subst he; subst hw; exact fin _ (Go.RowKit.Below.refl _ _)
      · exact (Any.strings_Join_none Tryz.lays156 Tryz.Builder_Extra_156 (some ⟨bk, o, none⟩) cap ⟨⟨b⟩⟩ w).mono fun e w' ⟨he, hw⟩ => by subst he; subst hw; exact fin _ (Go.RowKit.Below.refl _ _)
    · have hpos : 0 < ts.length := List.length_pos_iff.mpr hz
      rcases h1 with ⟨h0, _, _⟩ | ⟨bk, o, cap, rfl, hcap, hS⟩
      · omega
      obtain ⟨vs, k1, k2, _⟩ := repS_vals hS
      have k3 := repL_sts k1
      subst k3
      have hcell : ∀ (j : Nat) s, ts[j]? = some s → w.cell? ⟨bk, o + j, none⟩ = some (.string ⟨⟨s⟩⟩) := fun j s hj => hr.sld _ _ _ (k2 j _ (by rw [List.getElem?_map, hj]; rfl))
      have hbk : bk < w.heap.size := hr.σ_lt (k2 0 (.string ⟨⟨ts[0]⟩⟩) (by rw [List.getElem?_map, List.getElem?_eq_getElem hpos]; rfl))
      have e1 : ((ts.map fun s => (⟨⟨s⟩⟩ : ByteArray)).map (·.data.toList)) = ts := by rw [List.map_map]; simp [Function.comp_def]
      have h := Any.strings_Join Tryz.lays156 Tryz.Builder_Extra_156 bk o cap (ts.map fun s => (⟨⟨s⟩⟩ : ByteArray)) ⟨⟨b⟩⟩ w (fun j x hx => by
        rw [List.getElem?_map] at hx
        cases hj : ts[j]? with
        | none => rw [hj] at hx; cases hx
        | some s => rw [hj] at hx; cases hx; exact hcell j s hj) hbk (by rw [List.length_map]; omega) (by rw [List.length_map]; exact hcap) (by rw [e1, join_lib]; show (joinB b ts).length ≤ _; omega)
      rw [List.length_map, e1] at h
      exact h.mono fun e w' ⟨he, hb⟩ => by subst he; exact fin _ hb


-- unicode/utf16.RuneLen
theorem pf_RuneLen (c : Nat) (hc : c < 128) : PF Tryz.prog G 163 [.sc (.int .i32 (c : Int))] (i64 1) := by
  refine PC.intro rfl Tryz.func163 rfl (Nat.le_of_ble_eq_true rfl) rfl ?_
  refine w_seq (w_reg (s_q rfl rfl (q_mv (.inr rfl) (is_sc rfl)) ?_))
  refine s_nil (n_n (w_block (w_seq (w_seq (w_reg (s_q rfl rfl (q_mv (.inl rfl) (is_sc rfl)) ?_))))))
  refine s_q rfl rfl (q_as (bl_yes (show (0 : Int) ≤ (c : Int) by omega)) (q_leq rfl rfl rfl)) ?_
  refine s_q rfl rfl (q_mv (.inl rfl) (is_sc rfl)) ?_
  refine s_q rfl rfl (q_mv (.inl rfl) (is_sc rfl)) ?_
  refine s_q rfl rfl (q_as (bl_yes (show (c : Int) < 55296 by omega)) (q_lss rfl rfl rfl)) ?_
  refine s_q rfl rfl (q_pickT rfl rfl (is_sc rfl)) ?_
  refine s_q rfl rfl (q_mv (.inr rfl) (is_sc rfl)) ?_
  refine s_nil (n_n (w_ifT rfl (w_skip (n_n (w_ifT rfl (w_seq (w_reg (s_q rfl rfl (q_mv (.inr rfl) (is_sc rfl)) ?_))))))))
  refine s_nil (n_n (w_ret (b_r ?_)))
  -- end 0
  refine r_r (ra_tmp (is_sc rfl) ra_nil) (by exact (is_sc rfl)) (by exact rfl) sub_no ?_
  rfl


-- pub-tallysheet/pub/excelize.countUTF16String
theorem pf_count16 (s : List UInt8) (hl : s.length < 1000000000) (hp : ∀ b ∈ s, b.toNat < 128) : PF Tryz.prog G 75 [st s] (i64 s.length) := by
  refine PC.intro rfl Tryz.func75 rfl (Nat.le_of_ble_eq_true rfl) rfl ?_
  refine w_seq (w_reg (s_q rfl rfl (q_mv (.inr rfl) (is_sc rfl)) ?_))
  refine s_nil (n_n (w_seq (w_reg (s_q rfl rfl (q_mv (.inr rfl) (is_sc rfl)) ?_))))
  refine s_nil (n_n (w_seq (w_seq (w_reg (s_q rfl rfl (q_mv (.inl rfl) (is_sc rfl)) ?_)))))
  refine s_s rfl rfl (as_range (id := 0) rfl rfl rfl) ?_
  refine s_nil (n_n (w_block ?_))
  refine w_loop (fun env A => ∃ i : Nat, i ≤ s.length ∧ Binds env [(3, i64 i), (7, .box 0 0)] ∧ A = ⟨[.iter ⟨⟨s⟩⟩ i], fun _ => false, 0, noHeap⟩) (fun env _ => s.length - ctr (env 3)) ?_ ?_
  · exact ⟨0, Nat.zero_le _, ⟨rfl, rfl, trivial⟩, rfl⟩
  · rintro env A ⟨i, hi, hB, rfl⟩
    rw [hB.eq]; clear hB
    refine w_seq (w_reg (s_o rfl rfl (ao_next rfl rfl rfl hp (fun hlt => ?_) (fun hge => ?_))))
    · refine s_q rfl rfl (q_extract rfl rfl rfl) ?_
      refine s_nil (n_n (w_seq (w_ifT rfl (w_skip (n_n (w_block (w_seq (w_reg (s_q rfl rfl (q_extract rfl rfl rfl) ?_)))))))))
      refine s_q rfl rfl (q_mv (.inr rfl) (is_sc rfl)) ?_
      refine s_nil (n_n (w_reg (s_q rfl rfl (q_mv (.inl rfl) (is_sc rfl)) ?_)))
      refine s_q rfl rfl (q_mv (.inl rfl) (is_sc rfl)) ?_
      refine s_q rfl rfl (q_call rfl rfl rfl rfl (pf_RuneLen _ (hp _ (List.getElem_mem hlt)))) ?_
      refine s_q rfl rfl (q_add rfl rfl rfl) ?_
      refine s_q rfl rfl (q_mv (.inr rfl) (is_sc rfl)) ?_
      refine s_nil (b_n (n_n ?_))
      have hw : IntKind.i64.wrap ((i : Int) + 1) = ((i + 1 : Nat) : Int) := wrap_nat (by omega)
      refine ⟨⟨i + 1, hlt, ⟨i64_eq hw, rfl, trivial⟩, rfl⟩, ?_⟩
      show s.length - (IntKind.i64.wrap ((i : Int) + 1)).toNat < s.length - (i : Int).toNat
      rw [hw]; omega
    · refine s_q rfl rfl (q_extract rfl rfl rfl) ?_
      refine s_nil (n_n (w_seq (w_ifF rfl (w_exit (n_e (n_e (b_hit (n_n (w_seq (w_reg (s_q rfl rfl (q_mv (.inl rfl) (is_sc rfl)) ?_)))))))))))
      refine s_q rfl rfl (q_mv (.inr rfl) (is_sc rfl)) ?_
      refine s_nil (n_n (w_ret ?_))
      -- end 0
      refine r_r (ra_tmp (is_sc rfl) ra_nil) (by exact (is_sc rfl)) (by exact rfl) sub_no ?_
      rw [show i = s.length from Nat.le_antisymm hi hge]

end Go.Proofs.YtpjckdhgefbonaaGreatDoor.Zz
