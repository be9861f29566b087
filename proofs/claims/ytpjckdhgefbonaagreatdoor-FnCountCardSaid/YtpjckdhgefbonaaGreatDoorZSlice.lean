/-
  The abstract logic: parts of slices; a literal and more behind it; what the library's contracts say.
-/
import Derived.Test.YtpjckdhgefbonaaGreatDoorZAbs3
import Derived.Below
namespace Go.Abs
set_option linter.unusedVariables false
set_option linter.unusedSimpArgs false
section
variable {P : Program} {G : Nat → D} {g g' : Gh} {l l' : Lo} {A A' : AH} {wr : Bool} {Prot : Nat → Prop} {w w' : World} {o : Oper} {ρ : Operand → D} {S : AH → Prop}

/-- A part of a slice. -/
theorem q_cutIm {T e : TypeId} {agg : Bool} {sz : Nat} {x : Operand} {lo hi : Option Operand} [hT : UN P T (.slice e)] [hE : TI P e agg sz] {d : D} {cs cs' : List D} {n a b k : Nat} (ho : o.op = .slice T x lo hi none) (hx : ρ x = d) (hd : slc d = some (cs, n))
    (hlo : match lo with | none => a = 0 | some y => ∃ k i, ρ y = .sc (.int k i) ∧ 0 ≤ i ∧ i.toNat = a) (hhi : match hi with | none => b = n | some y => ∃ k i, ρ y = .sc (.int k i) ∧ 0 ≤ i ∧ i.toNat = b) (hab : a ≤ b) (hb : b ≤ n) (hc : (cs.take (b * sz)).drop (a * sz) = cs') (hk : b - a = k) : AQ P G wr o ρ S (.im cs' k) := by
  subst hc; subst hk
  exact AQ.run fun g l _ w ac _ _ _ h => by
    have h0 := h x (by simp [ho, Op.operands])
    rw [hx] at h0
    have key : ∀ (ad : Option Addr) (cap : Nat), ac.eval x = .slice ad n cap → n ≤ cap → (execOp ac.eval o).run P w = .ok (.value (.slice (if cap = a then ad else ad.map (·.add (a * sz))) (b - a) (cap - a))) w := fun ad cap h1 hcap => by
      have hb' : ∀ (y : Nat) (i : Int), 0 ≤ i → i.toNat ≤ y → (0 ≤ i ∧ i ≤ (y : Int)) := fun y i h0 h1 => by omega
      cases lo with
      | none =>
        subst hlo
        cases hi with
        | none =>
          subst hhi
          simp [execOp, ho, h1, Instr.sliceAt, Instr.slice, run_underlying hT.eq, Instr.sliceBounds, hE.size]
        | some y =>
          obtain ⟨k, i, h2, h3, h4⟩ := hhi
          have h5 := h y (by simp [ho, Op.operands])
          rw [h2] at h5
          simp only [rep] at h5
          subst h4
          simp [execOp, ho, h1, h5, Instr.sliceAt, Instr.slice, run_underlying hT.eq, Instr.sliceBounds, run_sliceBound_if, hb' _ _ h3 (Nat.le_trans hb hcap), hE.size]
      | some y =>
        obtain ⟨k, i, h2, h3, h4⟩ := hlo
        have h5 := h y (by simp [ho, Op.operands])
        rw [h2] at h5
        simp only [rep] at h5
        subst h4
        cases hi with
        | none =>
          subst hhi
          simp [execOp, ho, h1, h5, Instr.sliceAt, Instr.slice, run_underlying hT.eq, Instr.sliceBounds, run_sliceBound_if, hb' _ _ h3 hab, hE.size]
        | some z =>
          obtain ⟨k', j, h6, h7, h8⟩ := hhi
          have h9 := h z (by simp [ho, Op.operands])
          rw [h6] at h9
          simp only [rep] at h9
          subst h8
          have e : ¬ (max j 0 < i) := by omega
          simp [e, execOp, ho, h1, h5, h9, Instr.sliceAt, Instr.slice, run_underlying hT.eq, Instr.sliceBounds, run_sliceBound_if, hb' _ _ h3 hab, hb' _ _ h7 (Nat.le_trans hb hcap), hE.size]
    rcases rep_slc hd h0 with ⟨h1, h2, h3⟩ | ⟨bb, oo, cap, h1, h2, h3⟩
    · subst h1; subst h2
      obtain rfl : b = 0 := by omega
      obtain rfl : a = 0 := by omega
      refine ⟨_, key none 0 h3 (Nat.le_refl _), ?_⟩
      simp only [rep]
      exact .inl ⟨by simp, by simp, by simp⟩
    · refine ⟨_, key _ cap h1 h2, ?_⟩
      simp only [rep]
      by_cases hca : cap = a
      · refine .inr ⟨bb, oo, cap - a, by rw [if_pos hca], by omega, ?_⟩
        have hba : b = a := by omega
        subst hba
        rw [List.drop_eq_nil_of_le (by rw [List.length_take]; exact Nat.min_le_left _ _)]
        simp [repS]
      · refine .inr ⟨bb, oo + a * sz, cap - a, by rw [if_neg hca]; simp only [Option.map_some, addr_add], by omega, ?_⟩
        exact repS_drop (repS_take h3 _) _

/-- More behind a literal. -/
theorem q_appendLit {T e : TypeId} {by_ : Nat} {zs : List Value} {s x : Operand} [hT : UN P T (.slice e)] [hZ : ZV P e by_ zs] {n m k : Nat} {cs ds out : List D} {d : D} (ho : o.op = .call { callee := .builtin .append, args := #[s, x], argTypes := #[T, T] }) (hs : ρ s = .lit cs n) (hx : ρ x = d) (hd : slc d = some (ds, m))
    (hn0 : 0 < n) (hcs : cs.length = n * zs.length) (hds : ds.length = m * zs.length) (hfit : (n + m) * by_ ≤ 140737488355328) (hmax : n + m ≤ maxLen) (hout : cs ++ ds = out) (hk : n + m = k) : AQ P G wr o ρ S (.im out k) := by
  subst hout; subst hk
  intro g l Prot w a A hS hr hops K Q hK
  have hs0 := hops s (by simp [ho, Op.operands, Call.operands])
  have hx0 := hops x (by simp [ho, Op.operands, Call.operands])
  rw [hs] at hs0; rw [hx] at hx0
  simp only [rep] at hs0
  obtain ⟨b, hse, hS0⟩ := hs0
  obtain ⟨it, z, hi, hz, hzc, hsz, hby⟩ := hZ.eq
  have hsmall : n + m ≤ 9223372036854775807 := by simp only [maxLen] at hmax; omega
  obtain ⟨olds, ho1, ho2, ho3⟩ := repS_vals hS0
  have hol : olds.length = n * it.size := by rw [repL_length ho1, hcs, hsz]
  have hoc : ∀ j u, olds[j]? = some u → w.cell? ((⟨b, 0, none⟩ : Addr).add j) = some u := fun j u hj => by
    rw [addr_add]; exact hr.sld _ _ _ (ho2 j u hj)
  have hexec : ∀ cv w', (Builtin.append_ #[T, T] o.type #[a.eval s, a.eval x]).run P w = .ok cv w' → (execOp a.eval o).run P w = .ok (.value cv) w' := fun cv w' h1 => by
    simp only [execOp, ho, resolve, invoke, builtin, Sem.run_bind, Sem.run_pure, Result.andThen_ok, List.map_toArray, List.map_cons, List.map_nil, h1]
  have fin : ∀ cv w' g', (Builtin.append_ #[T, T] o.type #[a.eval s, a.eval x]).run P w = .ok cv w' → Fr Prot g g' w w' → Rel P G g' l A wr Prot w' → rep g' l (.im (cs ++ ds) (n + m)) cv → o.wp P a w K Q := fun cv w' g' h1 h2 h3 h4 => by
    unfold Oper.wp
    rw [hexec cv w' h1]
    exact hK g' w' cv h2 h3 h4
  rcases rep_slc hd hx0 with ⟨rfl, rfl, hxe⟩ | ⟨b2, oo, cap, hxe, hmc, hS⟩
  · refine fin (.slice (some ⟨b, 0, none⟩) n n) w g ?_ (Fr.refl _ _ _) hr (by simp only [rep, List.append_nil]; exact .inr ⟨b, 0, n, rfl, Nat.le_refl _, hS0⟩)
    rw [hse, hxe]
    simp [Builtin.append_, run_underlying hT.eq, sizeOf, typeInfo, hi, Builtin.lenOf, Builtin.firstCells, storeCells]
  · by_cases hm : m = 0
    · subst hm
      have hds0 : ds = [] := List.eq_nil_of_length_eq_zero (by simpa using hds)
      subst hds0
      refine fin (.slice (some ⟨b, 0, none⟩) n n) w g ?_ (Fr.refl _ _ _) hr (by simp only [rep, List.append_nil]; exact .inr ⟨b, 0, n, rfl, Nat.le_refl _, hS0⟩)
      rw [hse, hxe]
      simp [Builtin.append_, run_underlying hT.eq, sizeOf, typeInfo, hi, Builtin.lenOf, Builtin.firstCells, loadCells, loadCellsFrom, storeCells]
    · obtain ⟨news, hn1, hn2, hn3⟩ := repS_vals hS
      have hnl : news.length = m * it.size := by rw [repL_length hn1, hds, hsz]
      have hrun := run_append_grow (P := P) w T o.type e it z hT.eq hi hz ⟨b, 0, none⟩ n n olds hol hoc ⟨b2, oo, none⟩ m cap news hnl (fun j u hj => by rw [addr_add]; exact hr.sld _ _ _ (hn2 j u hj)) (by omega) (by omega) (growslice_fits (by omega) (by rw [hby]; exact hfit))
      have hge := grownCap_ge w (n + m) n e
      have hrd : Rel P G g l A wr Prot w.drew := hr.of_heap rfl
      obtain ⟨k1, k2⟩ := hrd.alloc_sealed (olds ++ news) (Builtin.zeroCells z.cells (grownCap w (n + m) n e - (n + m))).toList e (0, 0)
      have ew : w.drew.alloc (.cells (olds.toArray ++ news.toArray ++ Builtin.zeroCells z.cells (grownCap w (n + m) n e - (n + m))) e) = w.drew.alloc (.cells (olds ++ news ++ (Builtin.zeroCells z.cells (grownCap w (n + m) n e - (n + m))).toList).toArray e (0, 0)) := by
        congr 3; simp <;> (apply Array.ext'; simp)
      rw [hse, hxe] at fin
      refine fin _ _ _ hrun ?_ (by rw [ew]; exact k1) ?_
      · rw [ew]
        have k0 : Fr Prot g g w w.drew := Fr.of_heap rfl ⟨rfl, rfl⟩
        exact k0.trans k2
      · simp only [rep]
        refine .inr ⟨_, 0, _, rfl, hge, ?_⟩
        exact repS_sealed (repL_append (repL_mono k2.le _ (Lo.le.refl _) ho1) (repL_mono k2.le _ (Lo.le.refl _) hn1)) (fun u hu => (List.mem_append.1 hu).elim (ho3 u) (hn3 u))

/-- A contract of the library's shelf, as one of these. -/
theorem pf_shelf {f : FuncId} {ds : List D} {v : D} (H : ∀ (g : Gh) (Prot : Nat → Prop) (w : World) (cargs : List Value), Rel P G g Lo.none (AH.start noHeap) true Prot w → repL g Lo.none ds cargs →
    Calls P f cargs.toArray w fun e w' => ∃ cv, e = .returned cv ∧ Go.RowKit.Below w.heap.size w w' ∧ rep g Lo.none v cv) : PF P G f ds v := fun g Prot w cargs hr ha =>
  (H g Prot w cargs hr ha).mono fun e w' ⟨cv, h1, hb, h2⟩ => ⟨cv, v, noHeap, g, h1, rfl, ⟨Gh.le.refl _, hb.size, fun b hp => hb.block b (hr.prot b hp), fun _ _ _ => rfl, fun _ _ _ h => h, hb.os, hb.output⟩, hr.grow hb.size hb.block, h2⟩
end
end Go.Abs
