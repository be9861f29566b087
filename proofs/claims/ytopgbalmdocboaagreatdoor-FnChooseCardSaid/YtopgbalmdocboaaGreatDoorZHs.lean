/-
  The abstract logic: slices whose cells lie among the shared objects, so that a callee may write them: made, indexed, cut, written behind, grown, read as text.
-/
import Derived.Test.YtopgbalmdocboaaGreatDoorZSlice
import Derived.Test.YtopgbalmdocboaaGreatDoorZBytes
import Derived.Laws.MakeOwn
namespace Go.Abs
set_option linter.unusedVariables false
set_option linter.unusedSimpArgs false
section
variable {P : Program} {G : Nat → D} {g g' : Gh} {l l' : Lo} {A A' : AH} {wr : Bool} {Prot : Nat → Prop} {w w' : World} {o : Oper} {ρ : Operand → D} {S : AH → Prop}

/-- The place of an element. -/
theorem q_indexHs {T e : TypeId} {agg : Bool} {sz : Nat} {x ix : Operand} [hT : UN P T (.slice e)] [hE : TI P e agg sz] {id off n cap : Nat} {k : IntKind} {i : Int} (ho : o.op = .indexAddr T x ix) (hx : ρ x = .hs id off n cap) (hi : ρ ix = .sc (.int k i)) (h0 : 0 ≤ i) (h1 : i < n) : AQ P G wr o ρ S (.hp id (off + i.toNat * sz)) :=
  AQ.run fun g l _ w a _ _ _ h => by
    have hx0 := h x (by simp [ho, Op.operands])
    have hi0 := h ix (by simp [ho, Op.operands])
    rw [hx] at hx0; rw [hi] at hi0
    have hi1 : a.eval ix = .int k i := by simpa [rep] using hi0
    simp only [rep] at hx0
    obtain ⟨b, hκ, h2⟩ := hx0
    refine ⟨.pointer (some ⟨b, off + i.toNat * sz, none⟩), ?_, by simp only [rep]; exact ⟨b, hκ, rfl⟩⟩
    simp only [execOp, ho, h2, hi1, Instr.indexAt, asIntOf, Sem.run_bind, Sem.run_pure, Result.andThen_ok, run_underlying hT.eq]
    simp [h0, h1, addr_add, hE.size]
theorem q_lenHs {T e : TypeId} {x : Operand} [hT : UN P T (.slice e)] {id off n cap : Nat} (ho : o.op = .call { callee := .builtin .len, args := #[x], argTypes := #[T] }) (hx : ρ x = .hs id off n cap) : AQ P G wr o ρ S (i64 n) :=
  AQ.run fun g l _ w a _ _ _ h => by
    have hx0 := h x (by simp [ho, Op.operands, Call.operands])
    rw [hx] at hx0
    simp only [rep] at hx0
    obtain ⟨b, _, h2⟩ := hx0
    exact ⟨.int .i64 n, by simp [execOp, ho, resolve, invoke, builtin, h2, Builtin.len_, run_underlying hT.eq, goInt], by simp [rep]⟩

/-- A part of such a slice, of which something is left. -/
theorem q_cutHs {T e : TypeId} {agg : Bool} {sz : Nat} {x : Operand} {lo hi : Option Operand} [hT : UN P T (.slice e)] [hE : TI P e agg sz] {id off n cap a b m c o' : Nat} (ho : o.op = .slice T x lo hi none) (hx : ρ x = .hs id off n cap)
    (hlo : match lo with | none => a = 0 | some y => ∃ k i, ρ y = .sc (.int k i) ∧ 0 ≤ i ∧ i.toNat = a) (hhi : match hi with | none => b = n | some y => ∃ k i, ρ y = .sc (.int k i) ∧ 0 ≤ i ∧ i.toNat = b) (hab : a ≤ b) (hb : b ≤ cap) (hac : a < cap ∨ a = 0) (ho' : off + a * sz = o') (hm : b - a = m) (hc : cap - a = c) : AQ P G wr o ρ S (.hs id o' m c) := by
  subst ho'; subst hm; subst hc
  exact AQ.run fun g l _ w ac _ _ _ h => by
    have h0 := h x (by simp [ho, Op.operands])
    rw [hx] at h0
    simp only [rep] at h0
    obtain ⟨bb, hκ, h1⟩ := h0
    have hb' : ∀ (y : Nat) (i : Int), 0 ≤ i → i.toNat ≤ y → (0 ≤ i ∧ i ≤ (y : Int)) := fun y i h0 h1 => by omega
    have fin : ∀ {v : Value}, v = .slice (if cap = a then some ⟨bb, off, none⟩ else some ((⟨bb, off, none⟩ : Addr).add (a * sz))) (b - a) (cap - a) → rep g l (.hs id (off + a * sz) (b - a) (cap - a)) v := fun {v} hv => by
      subst hv
      simp only [rep]
      refine ⟨bb, hκ, ?_⟩
      by_cases hca : cap = a
      · obtain rfl : a = 0 := by omega
        rw [if_pos hca]; simp
      · rw [if_neg hca, addr_add]
    refine ⟨_, ?_, fin rfl⟩
    cases lo with
    | none =>
      subst hlo
      cases hi with
      | none =>
        subst hhi
        simp [execOp, ho, h1, Instr.sliceAt, Instr.slice, run_underlying hT.eq, Instr.sliceBounds, hE.size]
      | some y =>
        obtain ⟨k, i, h2, h3, h4⟩ := hhi
        have h5 := h y (by simp [ho, Op.operands])
        rw [h2] at h5
        simp only [rep] at h5
        subst h4
        simp [execOp, ho, h1, h5, Instr.sliceAt, Instr.slice, run_underlying hT.eq, Instr.sliceBounds, run_sliceBound_if, hb' _ _ h3 hb, hE.size]
    | some y =>
      obtain ⟨k, i, h2, h3, h4⟩ := hlo
      have h5 := h y (by simp [ho, Op.operands])
      rw [h2] at h5
      simp only [rep] at h5
      subst h4
      cases hi with
      | none =>
        subst hhi
        simp [execOp, ho, h1, h5, Instr.sliceAt, Instr.slice, run_underlying hT.eq, Instr.sliceBounds, run_sliceBound_if, hb' _ _ h3 hab, hE.size]
      | some z =>
        obtain ⟨k', j, h6, h7, h8⟩ := hhi
        have h9 := h z (by simp [ho, Op.operands])
        rw [h6] at h9
        simp only [rep] at h9
        subst h8
        have e : ¬ (max j 0 < i) := by omega
        simp [e, execOp, ho, h1, h5, h9, Instr.sliceAt, Instr.slice, run_underlying hT.eq, Instr.sliceBounds, run_sliceBound_if, hb' _ _ h3 hab, hb' _ _ h7 hb, hE.size]

/-- An array among the shared objects, as a slice. -/
theorem q_arrHs {T e : TypeId} {n id off : Nat} {x : Operand} [hT : UN P T (.array n e)] {agg : Bool} {sz : Nat} [hE : TI P e agg sz] (ho : o.op = .slice T x none none none) (hx : ρ x = .hp id off) : AQ P G wr o ρ S (.hs id off n n) :=
  AQ.run fun g l _ w ac _ _ _ h => by
    have h0 := h x (by simp [ho, Op.operands])
    rw [hx] at h0
    simp only [rep] at h0
    obtain ⟨bb, hκ, h1⟩ := h0
    have hsure : Instr.sureAddr (.pointer (some ⟨bb, off, none⟩)) = (pure ⟨bb, off, none⟩ : Sem Addr) := rfl
    refine ⟨.slice (some ⟨bb, off, none⟩) n n, ?_, by simp only [rep]; exact ⟨bb, hκ, rfl⟩⟩
    simp [execOp, ho, h1, Instr.sliceAt, run_underlying hT.eq, Instr.sliceBounds, hE.size, hsure]
    by_cases hc : n = 0 <;> simp [hc, addr_add]

/-- An element's place in an array: of a variable of the package that is never written, or among the shared objects. -/
theorem q_indexArr {T e : TypeId} {agg : Bool} {sz n : Nat} {x ix : Operand} [hT : UN P T (.array n e)] [hE : TI P e agg sz] {d d' : D} {k : IntKind} {i : Int} (ho : o.op = .indexAddr T x ix) (hx : ρ x = d) (hi : ρ ix = .sc (.int k i)) (h0 : 0 ≤ i) (h1 : i < n) (hd : shiftD (i.toNat * sz) d = some d') : AQ P G wr o ρ S d' :=
  AQ.run fun g l _ w a _ _ _ h => by
    have hx0 := h x (by simp [ho, Op.operands])
    have hi0 := h ix (by simp [ho, Op.operands])
    rw [hx] at hx0; rw [hi] at hi0
    have hi1 : a.eval ix = .int k i := by simpa [rep] using hi0
    obtain ⟨ad, h2, h3⟩ := rep_shift hd hx0
    have hsure : Instr.sureAddr (.pointer (some ad)) = (pure ad : Sem Addr) := rfl
    refine ⟨_, ?_, h3⟩
    simp only [execOp, ho, h2, hi1, Instr.indexAt, asIntOf, Sem.run_bind, Sem.run_pure, Result.andThen_ok, run_underlying hT.eq, hsure]
    simp [h0, h1, hE.size]

/-- A new row of zeros. -/
theorem madeL (z : Array Value) (n : Nat) : (madeCells z n).toList = (List.range n).map fun i => z[i % z.size]! := by simp [madeCells]
theorem ao_makeH {T e : TypeId} {by_ : Nat} {zs : List Value} {x y : Operand} {n c : Int} {k k' : IntKind} [hT : UN P T (.slice e)] [hZ : ZV P e by_ zs] {Kv : D → AH → Prop} (ho : o.op = .makeSlice T x y) (hx : ρ x = .sc (.int k n)) (hy : ρ y = .sc (.int k' c)) (h0 : 0 ≤ n) (hnc : n ≤ c) (hby : (by_ : Int) * c ≤ 281474976710656) (hc : c ≤ 9223372036854775807)
    (hK : ∀ id, A.h id = none → Kv (.hs id 0 n.toNat c.toNat) (A.hset id (((List.range (c.toNat * zs.length)).map fun i => zs.toArray[i % zs.length]!).map .sc))) : AOp P G wr o ρ A Kv := by
  intro g l Prot w a hr hops K Q hk
  have hx0 := hops x (by simp [ho, Op.operands])
  have hy0 := hops y (by simp [ho, Op.operands])
  rw [hx] at hx0; rw [hy] at hy0
  simp only [rep] at hx0 hy0
  obtain ⟨it, z, hi, hz, hzc, hsz, hbb⟩ := hZ.eq
  obtain ⟨id, h3, h4⟩ := fresh_share hr
  have hrun := run_make (P := P) w T e it z hT.eq hi hz k k' n c h0 hnc (by rw [hbb]; exact hby) hc
  unfold Oper.wp
  have hex : (execOp a.eval o).run P w = .ok (.value (.slice (some ⟨w.heap.size, 0, none⟩) n.toNat c.toNat)) (w.alloc (.cells ((List.range (c.toNat * zs.length)).map fun i => zs.toArray[i % zs.length]!).toArray e (0, 0))) := by
    have e1 : madeCells z.cells (c.toNat * it.size) = ((List.range (c.toNat * zs.length)).map fun i => zs.toArray[i % zs.length]!).toArray := by
      apply Array.ext'
      rw [madeL, hzc, hsz]
      simp
    rw [e1] at hrun
    simp only [execOp, ho, hx0, hy0, Sem.run_bind, hrun, Result.andThen_ok, Sem.run_pure]
  rw [hex]
  have hs := hr.alloc_shared h3 ((List.range (c.toNat * zs.length)).map fun i => zs.toArray[i % zs.length]!) e _ (repL_sc _)
  exact hk _ _ (g.share id w.heap.size) l _ _ (hK id h4) hs.2 (Lo.le.refl _) hs.1 (by simp only [rep]; exact ⟨w.heap.size, by simp [Gh.share], rfl⟩)

/-- Bytes among the shared objects, as a text. -/
theorem q_csbHs {T U e : TypeId} [hT : UN P T (.slice e)] [hE : UN P e (.int .u8)] [hU : UN P U .string] {x : Operand} {id off n cap : Nat} {cs : List D} {s : List UInt8} (ho : o.op = .convert T U x) (hx : ρ x = .hs id off n cap) (hA : A.h id = some cs) (hs : (cs.drop off).take n = bc s) (hn : n = s.length) : AQ P G wr o ρ (ExtA A) (st s) :=
  AQ.run fun g lo Prot w a A' hS hr hops => by
    have hx0 := hops x (by simp [ho, Op.operands])
    rw [hx] at hx0
    subst hn
    simp only [rep] at hx0
    obtain ⟨b, hκ, h2⟩ := hx0
    have hA' : A'.h id = some cs := by rw [hS.h]; exact hA
    obtain ⟨b', vs, e', hκ', _, hb, hrl⟩ := hr.sh id _ hA'
    rw [hκ] at hκ'; cases hκ'
    have := run_convert_bytes_back (P := P) w T U e ⟨b, off, none⟩ cap s hT.eq hE.eq hU.eq fun j hj => by
      have hg : cs[off + j]? = some (.sc (.int .u8 (s[j].toNat : Int))) := by
        have h3 := bc_get hj
        rw [← hs, List.getElem?_take_of_lt hj, List.getElem?_drop] at h3
        exact h3
      obtain ⟨v, h4, h5⟩ := repL_get hrl _ _ hg
      simp only [rep] at h5
      rw [addr_add, ← h5]
      simp only [World.cell?, hb]
      simpa using h4
    refine ⟨str s, ?_, by simp [rep]⟩
    simp only [execOp, ho, h2, Sem.run_bind, this, Result.andThen_ok, Sem.run_pure]

/-- A row: nothing yet, or cells among the shared objects with room behind them. -/
def IsRow (h : Nat → Option (List D)) (sz : Nat) (d : D) (n : Nat) (xs : List D) : Prop :=
  (n = 0 ∧ xs = [] ∧ d = .sc (.slice none 0 0)) ∨ ∃ k cap sp, d = .hs k 0 n cap ∧ h k = some (xs ++ sp) ∧ xs.length = n * sz ∧ (xs ++ sp).length = cap * sz ∧ n ≤ cap ∧ cap ≤ maxLen ∧ 0 < cap

/-- Room for more: as the library has it, whatever the block's own element type. -/
theorem run_append_roomX (w : World) (t ty e e' : TypeId) (i : TypeInfo) (ht : P.underlying t = some (.slice e)) (hi : P.info? e = some i) (g sLen sCap : Nat) (cur : Array Value) (hg : w.heap[g]? = some (.cells cur e' (0, 0)))
    (a : Addr) (m c : Nat) (news : List Value) (hl : news.length = m * i.size) (hnews : ∀ j u, news[j]? = some u → w.cell? (a.add j) = some u) (h1 : ∀ u ∈ news, u.oneCell' = true)
    (hroom : sLen + m ≤ sCap) (hfit : sLen * i.size + news.length ≤ cur.size) :
    (Builtin.append_ #[t, t] ty #[.slice (some ⟨g, 0, none⟩) sLen sCap, .slice (some a) m c]).run P w =
      .ok (.slice (some ⟨g, 0, none⟩) (sLen + m) sCap) (w.setRow g (cur.toList.take (sLen * i.size) ++ news ++ cur.toList.drop (sLen * i.size + news.length)).toArray) := by
  have hf := run_firstCells_some (P := P) w i.size m a m c news hl hnews
  have hst := run_storeCells_at P g (sLen * i.size) e' news 0 cur w hg (by simpa using hfit) h1
  simp only [Nat.add_zero] at hst
  simp [Builtin.append_, run_underlying ht, sizeOf, typeInfo, hi, Builtin.lenOf, hroom, hf, Addr.add_lit, hst]

end
end Go.Abs
