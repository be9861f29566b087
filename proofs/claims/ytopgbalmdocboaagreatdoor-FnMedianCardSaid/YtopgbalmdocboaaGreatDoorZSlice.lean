/-
  The abstract logic: parts of slices; a literal and more behind it; what the library's contracts say.
-/
import Derived.Test.YtopgbalmdocboaaGreatDoorZAbs3
import Derived.Below
namespace Go.Abs
set_option linter.unusedVariables false
set_option linter.unusedSimpArgs false
section
variable {P : Program} {G : Nat → D} {g g' : Gh} {l l' : Lo} {A A' : AH} {wr : Bool} {Prot : Nat → Prop} {w w' : World} {o : Oper} {ρ : Operand → D} {S : AH → Prop}

/-- A part of a slice. -/
theorem q_cutIm {T e : TypeId} {agg : Bool} {sz : Nat} {x : Operand} {lo hi : Option Operand} [hT : UN P T (.slice e)] [hE : TI P e agg sz] {d : D} {cs cs' : List D} {n a b k : Nat} (ho : o.op = .slice T x lo hi none) (hx : ρ x = d) (hd : slc d = some (cs, n))
    (hlo : match lo with | none => a = 0 | some y => ∃ k i, ρ y = .sc (.int k i) ∧ 0 ≤ i ∧ i.toNat = a) (hhi : match hi with | none => b = n | some y => ∃ k i, ρ y = .sc (.int k i) ∧ 0 ≤ i ∧ i.toNat = b) (hab : a ≤ b) (hb : b ≤ n) (hc : (cs.take (b * sz)).drop (a * sz) = cs') (hk : b - a = k) : AQ P G wr o ρ S (.im cs' k) := by
  subst hc; subst hk
  exact AQ.run fun g l _ w ac _ _ _ h => by
    have h0 := h x (by simp [ho, Op.operands])
    rw [hx] at h0
    have key : ∀ (ad : Option Addr) (cap : Nat), ac.eval x = .slice ad n cap → n ≤ cap → (execOp ac.eval o).run P w = .ok (.value (.slice (if cap = a then ad else ad.map (·.add (a * sz))) (b - a) (cap - a))) w := fun ad cap h1 hcap => by
      have hb' : ∀ (y : Nat) (i : Int), 0 ≤ i → i.toNat ≤ y → (0 ≤ i ∧ i ≤ (y : Int)) := fun y i h0 h1 => by omega
      cases lo with
      | none =>
        subst hlo
        cases hi with
        | none =>
          subst hhi
          simp [execOp, ho, h1, Instr.sliceAt, Instr.slice, run_underlying hT.eq, Instr.sliceBounds, hE.size]
        | some y =>
          obtain ⟨k, i, h2, h3, h4⟩ := hhi
          have h5 := h y (by simp [ho, Op.operands])
          rw [h2] at h5
          simp only [rep] at h5
          subst h4
          simp [execOp, ho, h1, h5, Instr.sliceAt, Instr.slice, run_underlying hT.eq, Instr.sliceBounds, run_sliceBound_if, hb' _ _ h3 (Nat.le_trans hb hcap), hE.size]
      | some y =>
        obtain ⟨k, i, h2, h3, h4⟩ := hlo
        have h5 := h y (by simp [ho, Op.operands])
        rw [h2] at h5
        simp only [rep] at h5
        subst h4
        cases hi with
        | none =>
          subst hhi
          simp [execOp, ho, h1, h5, Instr.sliceAt, Instr.slice, run_underlying hT.eq, Instr.sliceBounds, run_sliceBound_if, hb' _ _ h3 hab, hE.size]
        | some z =>
          obtain ⟨k', j, h6, h7, h8⟩ := hhi
          have h9 := h z (by simp [ho, Op.operands])
          rw [h6] at h9
          simp only [rep] at h9
          subst h8
          have e : ¬ (max j 0 < i) := by omega
          simp [e, execOp, ho, h1, h5, h9, Instr.sliceAt, Instr.slice, run_underlying hT.eq, Instr.sliceBounds, run_sliceBound_if, hb' _ _ h3 hab, hb' _ _ h7 (Nat.le_trans hb hcap), hE.size]
    rcases rep_slc hd h0 with ⟨h1, h2, h3⟩ | ⟨bb, oo, cap, h1, h2, h3⟩
    · subst h1; subst h2
      obtain rfl : b = 0 := by omega
      obtain rfl : a = 0 := by omega
      refine ⟨_, key none 0 h3 (Nat.le_refl _), ?_⟩
      simp only [rep]
      exact .inl ⟨by simp, by simp, by simp⟩
    · refine ⟨_, key _ cap h1 h2, ?_⟩
      simp only [rep]
      by_cases hca : cap = a
      · refine .inr ⟨bb, oo, cap - a, by rw [if_pos hca], by omega, ?_⟩
        have hba : b = a := by omega
        subst hba
        rw [List.drop_eq_nil_of_le (by rw [List.length_take]; exact Nat.min_le_left _ _)]
        simp [repS]
      · refine .inr ⟨bb, oo + a * sz, cap - a, by rw [if_neg hca]; simp only [Option.map_some, addr_add], by omega, ?_⟩
        exact repS_drop (repS_take h3 _) _

/-- A contract of the library's shelf, as one of these. -/
theorem pf_shelf {f : FuncId} {ds : List D} {v : D} (H : ∀ (g : Gh) (Prot : Nat → Prop) (w : World) (cargs : List Value), Rel P G g Lo.none (AH.start noHeap) true Prot w → repL g Lo.none ds cargs →
    Calls P f cargs.toArray w fun e w' => ∃ cv, e = .returned cv ∧ Go.RowKit.Below w.heap.size w w' ∧ rep g Lo.none v cv) : PF P G f ds v := fun g Prot w cargs hr ha =>
  (H g Prot w cargs hr ha).mono fun e w' ⟨cv, h1, hb, h2⟩ => ⟨cv, v, noHeap, g, h1, rfl, ⟨Gh.le.refl _, hb.size, fun b hp => hb.block b (hr.prot b hp), fun _ _ _ => rfl, fun _ _ _ h => h, hb.os, hb.output⟩, hr.grow hb.size hb.block, h2⟩
end
end Go.Abs
