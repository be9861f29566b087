/-
  The abstract logic: slices whose cells lie among the shared objects, so that a callee may write them: made, indexed, cut, written behind, grown, read as text.
-/
import Derived.Test.YtpjckdhgefbonaaGreatDoorZSlice
import Derived.Test.YtpjckdhgefbonaaGreatDoorZBytes
import Derived.Laws.MakeOwn
namespace Go.Abs
set_option linter.unusedVariables false
set_option linter.unusedSimpArgs false
section
variable {P : Program} {G : Nat → D} {g g' : Gh} {l l' : Lo} {A A' : AH} {wr : Bool} {Prot : Nat → Prop} {w w' : World} {o : Oper} {ρ : Operand → D} {S : AH → Prop}

/-- The place of an element. -/
theorem q_indexHs {T e : TypeId} {agg : Bool} {sz : Nat} {x ix : Operand} [hT : UN P T (.slice e)] [hE : TI P e agg sz] {id off n cap : Nat} {k : IntKind} {i : Int} (ho : o.op = .indexAddr T x ix) (hx : ρ x = .hs id off n cap) (hi : ρ ix = .sc (.int k i)) (h0 : 0 ≤ i) (h1 : i < n) : AQ P G wr o ρ S (.hp id (off + i.toNat * sz)) :=
  AQ.run fun g l _ w a _ _ _ h => by
    have hx0 := h x (by simp [ho, Op.operands])
    have hi0 := h ix (by simp [ho, Op.operands])
    rw [hx] at hx0; rw [hi] at hi0
    have hi1 : a.eval ix = .int k i := by simpa [rep] using hi0
    simp only [rep] at hx0
    obtain ⟨b, hκ, h2⟩ := hx0
    refine ⟨.pointer (some ⟨b, off + i.toNat * sz, none⟩), ?_, by simp only [rep]; exact ⟨b, hκ, rfl⟩⟩
    simp only [execOp, ho, h2, hi1, Instr.indexAt, asIntOf, Sem.run_bind, Sem.run_pure, Result.andThen_ok, run_underlying hT.eq]
    simp [h0, h1, addr_add, hE.size]
theorem q_lenHs {T e : TypeId} {x : Operand} [hT : UN P T (.slice e)] {id off n cap : Nat} (ho : o.op = .call { callee := .builtin .len, args := #[x], argTypes := #[T] }) (hx : ρ x = .hs id off n cap) : AQ P G wr o ρ S (i64 n) :=
  AQ.run fun g l _ w a _ _ _ h => by
    have hx0 := h x (by simp [ho, Op.operands, Call.operands])
    rw [hx] at hx0
    simp only [rep] at hx0
    obtain ⟨b, _, h2⟩ := hx0
    exact ⟨.int .i64 n, by simp [execOp, ho, resolve, invoke, builtin, h2, Builtin.len_, run_underlying hT.eq, goInt], by simp [rep]⟩

/-- A part of such a slice, of which something is left. -/
theorem q_cutHs {T e : TypeId} {agg : Bool} {sz : Nat} {x : Operand} {lo hi : Option Operand} [hT : UN P T (.slice e)] [hE : TI P e agg sz] {id off n cap a b m c o' : Nat} (ho : o.op = .slice T x lo hi none) (hx : ρ x = .hs id off n cap)
    (hlo : match lo with | none => a = 0 | some y => ∃ k i, ρ y = .sc (.int k i) ∧ 0 ≤ i ∧ i.toNat = a) (hhi : match hi with | none => b = n | some y => ∃ k i, ρ y = .sc (.int k i) ∧ 0 ≤ i ∧ i.toNat = b) (hab : a ≤ b) (hb : b ≤ cap) (hac : a < cap ∨ a = 0) (ho' : off + a * sz = o') (hm : b - a = m) (hc : cap - a = c) : AQ P G wr o ρ S (.hs id o' m c) := by
  subst ho'; subst hm; subst hc
  exact AQ.run fun g l _ w ac _ _ _ h => by
    have h0 := h x (by simp [ho, Op.operands])
    rw [hx] at h0
    simp only [rep] at h0
    obtain ⟨bb, hκ, h1⟩ := h0
    have hb' : ∀ (y : Nat) (i : Int), 0 ≤ i → i.toNat ≤ y → (0 ≤ i ∧ i ≤ (y : Int)) := fun y i h0 h1 => by omega
    have fin : ∀ {v : Value}, v = .slice (if cap = a then some ⟨bb, off, none⟩ else some ((⟨bb, off, none⟩ : Addr).add (a * sz))) (b - a) (cap - a) → rep g l (.hs id (off + a * sz) (b - a) (cap - a)) v := fun {v} hv => by
      subst hv
      simp only [rep]
      refine ⟨bb, hκ, ?_⟩
      by_cases hca : cap = a
      · obtain rfl : a = 0 := by omega
        rw [if_pos hca]; simp
      · rw [if_neg hca, addr_add]
    refine ⟨_, ?_, fin rfl⟩
    cases lo with
    | none =>
      subst hlo
      cases hi with
      | none =>
        subst hhi
        simp [execOp, ho, h1, Instr.sliceAt, Instr.slice, run_underlying hT.eq, Instr.sliceBounds, hE.size]
      | some y =>
        obtain ⟨k, i, h2, h3, h4⟩ := hhi
        have h5 := h y (by simp [ho, Op.operands])
        rw [h2] at h5
        simp only [rep] at h5
        subst h4
        simp [execOp, ho, h1, h5, Instr.sliceAt, Instr.slice, run_underlying hT.eq, Instr.sliceBounds, run_sliceBound_if, hb' _ _ h3 hb, hE.size]
    | some y =>
      obtain ⟨k, i, h2, h3, h4⟩ := hlo
      have h5 := h y (by simp [ho, Op.operands])
      rw [h2] at h5
      simp only [rep] at h5
      subst h4
      cases hi with
      | none =>
        subst hhi
        simp [execOp, ho, h1, h5, Instr.sliceAt, Instr.slice, run_underlying hT.eq, Instr.sliceBounds, run_sliceBound_if, hb' _ _ h3 hab, hE.size]
      | some z =>
        obtain ⟨k', j, h6, h7, h8⟩ := hhi
        have h9 := h z (by simp [ho, Op.operands])
        rw [h6] at h9
        simp only [rep] at h9
        subst h8
        have e : ¬ (max j 0 < i) := by omega
        simp [e, execOp, ho, h1, h5, h9, Instr.sliceAt, Instr.slice, run_underlying hT.eq, Instr.sliceBounds, run_sliceBound_if, hb' _ _ h3 hab, hb' _ _ h7 hb, hE.size]

/-- An array among the shared objects, as a slice. -/
theorem q_arrHs {T e : TypeId} {n id off : Nat} {x : Operand} [hT : UN P T (.array n e)] {agg : Bool} {sz : Nat} [hE : TI P e agg sz] (ho : o.op = .slice T x none none none) (hx : ρ x = .hp id off) : AQ P G wr o ρ S (.hs id off n n) :=
  AQ.run fun g l _ w ac _ _ _ h => by
    have h0 := h x (by simp [ho, Op.operands])
    rw [hx] at h0
    simp only [rep] at h0
    obtain ⟨bb, hκ, h1⟩ := h0
    have hsure : Instr.sureAddr (.pointer (some ⟨bb, off, none⟩)) = (pure ⟨bb, off, none⟩ : Sem Addr) := rfl
    refine ⟨.slice (some ⟨bb, off, none⟩) n n, ?_, by simp only [rep]; exact ⟨bb, hκ, rfl⟩⟩
    simp [execOp, ho, h1, Instr.sliceAt, run_underlying hT.eq, Instr.sliceBounds, hE.size, hsure]
    by_cases hc : n = 0 <;> simp [hc, addr_add]

/-- An element's place in an array: of a variable of the package that is never written, or among the shared objects. -/
theorem q_indexArr {T e : TypeId} {agg : Bool} {sz n : Nat} {x ix : Operand} [hT : UN P T (.array n e)] [hE : TI P e agg sz] {d d' : D} {k : IntKind} {i : Int} (ho : o.op = .indexAddr T x ix) (hx : ρ x = d) (hi : ρ ix = .sc (.int k i)) (h0 : 0 ≤ i) (h1 : i < n) (hd : shiftD (i.toNat * sz) d = some d') : AQ P G wr o ρ S d' :=
  AQ.run fun g l _ w a _ _ _ h => by
    have hx0 := h x (by simp [ho, Op.operands])
    have hi0 := h ix (by simp [ho, Op.operands])
    rw [hx] at hx0; rw [hi] at hi0
    have hi1 : a.eval ix = .int k i := by simpa [rep] using hi0
    obtain ⟨ad, h2, h3⟩ := rep_shift hd hx0
    have hsure : Instr.sureAddr (.pointer (some ad)) = (pure ad : Sem Addr) := rfl
    refine ⟨_, ?_, h3⟩
    simp only [execOp, ho, h2, hi1, Instr.indexAt, asIntOf, Sem.run_bind, Sem.run_pure, Result.andThen_ok, run_underlying hT.eq, hsure]
    simp [h0, h1, hE.size]

/-- A new row of zeros. -/
theorem madeL (z : Array Value) (n : Nat) : (madeCells z n).toList = (List.range n).map fun i => z[i % z.size]! := by simp [madeCells]
theorem ao_makeH {T e : TypeId} {by_ : Nat} {zs : List Value} {x y : Operand} {n c : Int} {k k' : IntKind} [hT : UN P T (.slice e)] [hZ : ZV P e by_ zs] {Kv : D → AH → Prop} (ho : o.op = .makeSlice T x y) (hx : ρ x = .sc (.int k n)) (hy : ρ y = .sc (.int k' c)) (h0 : 0 ≤ n) (hnc : n ≤ c) (hby : (by_ : Int) * c ≤ 281474976710656) (hc : c ≤ 9223372036854775807)
    (hK : ∀ id, A.h id = none → Kv (.hs id 0 n.toNat c.toNat) (A.hset id (((List.range (c.toNat * zs.length)).map fun i => zs.toArray[i % zs.length]!).map .sc))) : AOp P G wr o ρ A Kv := by
  intro g l Prot w a hr hops K Q hk
  have hx0 := hops x (by simp [ho, Op.operands])
  have hy0 := hops y (by simp [ho, Op.operands])
  rw [hx] at hx0; rw [hy] at hy0
  simp only [rep] at hx0 hy0
  obtain ⟨it, z, hi, hz, hzc, hsz, hbb⟩ := hZ.eq
  obtain ⟨id, h3, h4⟩ := fresh_share hr
  have hrun := run_make (P := P) w T e it z hT.eq hi hz k k' n c h0 hnc (by rw [hbb]; exact hby) hc
  unfold Oper.wp
  have hex : (execOp a.eval o).run P w = .ok (.value (.slice (some ⟨w.heap.size, 0, none⟩) n.toNat c.toNat)) (w.alloc (.cells ((List.range (c.toNat * zs.length)).map fun i => zs.toArray[i % zs.length]!).toArray e (0, 0))) := by
    have e1 : madeCells z.cells (c.toNat * it.size) = ((List.range (c.toNat * zs.length)).map fun i => zs.toArray[i % zs.length]!).toArray := by
      apply Array.ext'
      rw [madeL, hzc, hsz]
      simp
    rw [e1] at hrun
    simp only [execOp, ho, hx0, hy0, Sem.run_bind, hrun, Result.andThen_ok, Sem.run_pure]
  rw [hex]
  have hs := hr.alloc_shared h3 ((List.range (c.toNat * zs.length)).map fun i => zs.toArray[i % zs.length]!) e _ (repL_sc _)
  exact hk _ _ (g.share id w.heap.size) l _ _ (hK id h4) hs.2 (Lo.le.refl _) hs.1 (by simp only [rep]; exact ⟨w.heap.size, by simp [Gh.share], rfl⟩)

/-- Bytes among the shared objects, as a text. -/
theorem q_csbHs {T U e : TypeId} [hT : UN P T (.slice e)] [hE : UN P e (.int .u8)] [hU : UN P U .string] {x : Operand} {id off n cap : Nat} {cs : List D} {s : List UInt8} (ho : o.op = .convert T U x) (hx : ρ x = .hs id off n cap) (hA : A.h id = some cs) (hs : (cs.drop off).take n = bc s) (hn : n = s.length) : AQ P G wr o ρ (ExtA A) (st s) :=
  AQ.run fun g lo Prot w a A' hS hr hops => by
    have hx0 := hops x (by simp [ho, Op.operands])
    rw [hx] at hx0
    subst hn
    simp only [rep] at hx0
    obtain ⟨b, hκ, h2⟩ := hx0
    have hA' : A'.h id = some cs := by rw [hS.h]; exact hA
    obtain ⟨b', vs, e', hκ', _, hb, hrl⟩ := hr.sh id _ hA'
    rw [hκ] at hκ'; cases hκ'
    have := run_convert_bytes_back (P := P) w T U e ⟨b, off, none⟩ cap s hT.eq hE.eq hU.eq fun j hj => by
      have hg : cs[off + j]? = some (.sc (.int .u8 (s[j].toNat : Int))) := by
        have h3 := bc_get hj
        rw [← hs, List.getElem?_take_of_lt hj, List.getElem?_drop] at h3
        exact h3
      obtain ⟨v, h4, h5⟩ := repL_get hrl _ _ hg
      simp only [rep] at h5
      rw [addr_add, ← h5]
      simp only [World.cell?, hb]
      simpa using h4
    refine ⟨str s, ?_, by simp [rep]⟩
    simp only [execOp, ho, h2, Sem.run_bind, this, Result.andThen_ok, Sem.run_pure]

/-- A row: nothing yet, or cells among the shared objects with room behind them. -/
def IsRow (h : Nat → Option (List D)) (sz : Nat) (d : D) (n : Nat) (xs : List D) : Prop :=
  (n = 0 ∧ xs = [] ∧ d = .sc (.slice none 0 0)) ∨ ∃ k cap sp, d = .hs k 0 n cap ∧ h k = some (xs ++ sp) ∧ xs.length = n * sz ∧ (xs ++ sp).length = cap * sz ∧ n ≤ cap ∧ cap ≤ maxLen ∧ 0 < cap

/-- Room for more: as the library has it, whatever the block's own element type. -/
theorem run_append_roomX (w : World) (t ty e e' : TypeId) (i : TypeInfo) (ht : P.underlying t = some (.slice e)) (hi : P.info? e = some i) (g sLen sCap : Nat) (cur : Array Value) (hg : w.heap[g]? = some (.cells cur e' (0, 0)))
    (a : Addr) (m c : Nat) (news : List Value) (hl : news.length = m * i.size) (hnews : ∀ j u, news[j]? = some u → w.cell? (a.add j) = some u) (h1 : ∀ u ∈ news, u.oneCell' = true)
    (hroom : sLen + m ≤ sCap) (hfit : sLen * i.size + news.length ≤ cur.size) :
    (Builtin.append_ #[t, t] ty #[.slice (some ⟨g, 0, none⟩) sLen sCap, .slice (some a) m c]).run P w =
      .ok (.slice (some ⟨g, 0, none⟩) (sLen + m) sCap) (w.setRow g (cur.toList.take (sLen * i.size) ++ news ++ cur.toList.drop (sLen * i.size + news.length)).toArray) := by
  have hf := run_firstCells_some (P := P) w i.size m a m c news hl hnews
  have hst := run_storeCells_at P g (sLen * i.size) e' news 0 cur w hg (by simpa using hfit) h1
  simp only [Nat.add_zero] at hst
  simp [Builtin.append_, run_underlying ht, sizeOf, typeInfo, hi, Builtin.lenOf, hroom, hf, Addr.add_lit, hst]

/-- More behind a row that lies among the shared objects. -/
theorem ao_appendRow {T e : TypeId} {by_ : Nat} {zs : List Value} {s x : Operand} [hT : UN P T (.slice e)] [hZ : ZV P e by_ zs] {n m : Nat} {d dx : D} {xs ys : List D} {Kv : D → AH → Prop} (ho : o.op = .call { callee := .builtin .append, args := #[s, x], argTypes := #[T, T] }) (hs : ρ s = d) (hrow : IsRow A.h zs.length d n xs) (hx : ρ x = dx) (hd : slc dx = some (ys, m)) (hm : 0 < m)
    (hl : ys.length = m * zs.length) (hfit : (n + m) * by_ ≤ 140737488355328) (hmax : n + m ≤ maxLen)
    (hK : ∀ k' cap' sp, (A.h k' = none ∨ ∃ c, d = .hs k' 0 n c) → n + m ≤ cap' → cap' ≤ maxLen → (xs ++ ys ++ sp).length = cap' * zs.length → Kv (.hs k' 0 (n + m) cap') (A.hset k' (xs ++ ys ++ sp))) : AOp P G true o ρ A Kv := by
  intro g l Prot w a hr hops K Q hk
  have hs0 := hops s (by simp [ho, Op.operands, Call.operands])
  have hx0 := hops x (by simp [ho, Op.operands, Call.operands])
  rw [hs] at hs0; rw [hx] at hx0
  obtain ⟨it, z, hi, hz, hzc, hsz, hby⟩ := hZ.eq
  have hzs : z.cells.size = zs.length := by simp [hzc]
  have hzl : ∀ k, (Builtin.zeroCells z.cells k).toList.length = k * zs.length := fun k => by simp [size_zeroCells, hzs]
  have hsmall : n + m ≤ 9223372036854775807 := by simp only [maxLen] at hmax; omega
  have hexec : ∀ cv w', (Builtin.append_ #[T, T] o.type #[a.eval s, a.eval x]).run P w = .ok cv w' → (execOp a.eval o).run P w = .ok (.value cv) w' := fun cv w' h1 => by
    simp only [execOp, ho, resolve, invoke, builtin, Sem.run_bind, Sem.run_pure, Result.andThen_ok, List.map_toArray, List.map_cons, List.map_nil, h1]
  have hrd : Rel P G g l A true Prot w.drew := hr.of_heap rfl
  have k0 : Fr Prot g g w w.drew := Fr.of_heap rfl ⟨rfl, rfl⟩
  rcases rep_slc hd hx0 with ⟨rfl, _, _⟩ | ⟨b2, oo, cap2, hxe, hmc, hS⟩
  · omega
  obtain ⟨news, hn1, hn2, hn3⟩ := repS_vals hS
  have hnl : news.length = m * it.size := by rw [repL_length hn1, hl, hsz]
  have hload : ∀ j u, news[j]? = some u → w.cell? ((⟨b2, oo, none⟩ : Addr).add j) = some u := fun j u hj => by rw [addr_add]; exact hr.sld _ _ _ (hn2 j u hj)
  obtain ⟨id, h3, h4⟩ := fresh_share hr
  rw [hxe] at hexec
  rcases hrow with ⟨rfl, rfl, rfl⟩ | ⟨k, cap, sp, rfl, hA, hxl, htl, hnc, hcm, hc0⟩
  · simp only [rep] at hs0
    rw [hs0] at hexec
    have hrun := run_append_nil (P := P) w T o.type e it z hT.eq hi hz ⟨b2, oo, none⟩ m cap2 news hnl hload hm (by omega) (by rw [hby]; simp only [Nat.zero_add] at hfit; omega)
    have hge := grownCap_ge w m 0 e
    have hcm := grownCap_le_maxLen w m 0 e (by omega)
    generalize grownCap w m 0 e = cap' at *
    have hsh := hrd.alloc_shared h3 (news ++ (Builtin.zeroCells z.cells (cap' - m)).toList) e (ys ++ (Builtin.zeroCells z.cells (cap' - m)).toList.map .sc) (repL_append (repL_mono (Gh.le_share h3) _ (Lo.le.refl _) hn1) (repL_sc _))
    have ew : (news ++ (Builtin.zeroCells z.cells (cap' - m)).toList).toArray = news.toArray ++ Builtin.zeroCells z.cells (cap' - m) := by apply Array.ext'; simp
    rw [ew] at hsh
    unfold Oper.wp
    rw [hexec _ _ hrun]
    refine hk _ _ (g.share id w.drew.heap.size) l _ _ (hK id cap' ((Builtin.zeroCells z.cells (cap' - m)).toList.map .sc) (.inl h4) (by omega) hcm (by
      rw [List.nil_append, List.length_append, List.length_map, hzl, hl, ← Nat.add_mul, Nat.add_sub_cancel' hge])) (k0.trans hsh.2) (Lo.le.refl _) (by simpa using hsh.1) (by simp only [rep, Nat.zero_add]; exact ⟨w.drew.heap.size, by simp [Gh.share], rfl⟩)
  · simp only [rep] at hs0
    obtain ⟨b, hκ, hse⟩ := hs0
    rw [hse] at hexec
    obtain ⟨b', vs, e', hκ', hnp, hb, hrl⟩ := hr.sh k _ hA
    rw [hκ] at hκ'; cases hκ'
    have hvl := repL_length hrl
    rw [htl] at hvl
    by_cases hroom : n + m ≤ cap
    · have hcap : n * zs.length + m * zs.length ≤ cap * zs.length := by rw [← Nat.add_mul]; exact Nat.mul_le_mul_right _ hroom
      have hrun := run_append_roomX (P := P) w T o.type e e' it hT.eq hi b n cap vs.toArray hb ⟨b2, oo, none⟩ m cap2 news hnl hload hn3 hroom (by rw [hnl, hsz, List.size_toArray, hvl]; exact hcap)
      have hyn : news.length = ys.length := repL_length hn1
      have hsp := hr.set_shared hA hκ (w' := w.setRow b (vs.take (n * it.size) ++ news ++ vs.drop (n * it.size + news.length)).toArray) (setRow_size _ _ _) (fun b' hb' => setRow_other w b b' _ hb') (setRow_heap w b _ _ e' (0, 0) hb) (repL_splice hrl hn1 (n * it.size))
      have es : splice (xs ++ sp) (n * it.size) ys = xs ++ ys ++ sp.drop ys.length := by
        unfold splice
        rw [hsz, ← hxl, List.take_left, List.drop_append]
        simp
      rw [es] at hsp
      unfold Oper.wp
      rw [hexec _ _ hrun]
      refine hk _ _ g l _ _ (hK k cap (sp.drop ys.length) (.inr ⟨cap, rfl⟩) hroom hcm (by
        rw [List.length_append] at htl ⊢
        rw [List.length_append, List.length_drop, hl, hxl]
        rw [hxl] at htl
        omega)) ⟨Gh.le.refl _, by rw [setRow_size]; exact Nat.le_refl _, fun b' hb' => setRow_other w b b' _ (fun e => hsp.2 (e ▸ hb')), fun _ _ _ => rfl, fun _ _ _ h => h, rfl, rfl⟩ (Lo.le.refl _) hsp.1 (by simp only [rep]; exact ⟨b, hκ, rfl⟩)
    · have hcapn : n * zs.length ≤ cap * zs.length := Nat.mul_le_mul_right _ hnc
      have hol : (vs.take (n * zs.length)).length = n * it.size := by rw [List.length_take, hvl, hsz]; omega
      have hor : repL g Lo.none xs (vs.take (n * zs.length)) := by
        have := repL_take hrl (n * zs.length)
        rw [← hxl, List.take_left, hxl] at this
        exact this
      have hoc : ∀ j u, (vs.take (n * zs.length))[j]? = some u → w.cell? ((⟨b, 0, none⟩ : Addr).add j) = some u := fun j u hj => by
        rw [addr_add, Nat.zero_add]
        simp only [World.cell?, hb, List.getElem?_toArray]
        rw [List.getElem?_take] at hj
        split at hj
        · exact hj
        · cases hj
      have hrun := run_append_grow (P := P) w T o.type e it z hT.eq hi hz ⟨b, 0, none⟩ n cap _ hol hoc ⟨b2, oo, none⟩ m cap2 news hnl hload (by omega) (by omega) (growslice_fits (by omega) (by rw [hby]; exact hfit))
      have hge := grownCap_ge w (n + m) cap e
      have hcm' := grownCap_le_maxLen w (n + m) cap e hmax
      generalize grownCap w (n + m) cap e = cap' at *
      have hsh := hrd.alloc_shared h3 (vs.take (n * zs.length) ++ news ++ (Builtin.zeroCells z.cells (cap' - (n + m))).toList) e (xs ++ ys ++ (Builtin.zeroCells z.cells (cap' - (n + m))).toList.map .sc) (repL_append (repL_append (repL_mono (Gh.le_share h3) _ (Lo.le.refl _) hor) (repL_mono (Gh.le_share h3) _ (Lo.le.refl _) hn1)) (repL_sc _))
      have ew : (vs.take (n * zs.length) ++ news ++ (Builtin.zeroCells z.cells (cap' - (n + m))).toList).toArray = (vs.take (n * zs.length)).toArray ++ news.toArray ++ Builtin.zeroCells z.cells (cap' - (n + m)) := by apply Array.ext'; simp
      rw [ew] at hsh
      unfold Oper.wp
      rw [hexec _ _ hrun]
      exact hk _ _ (g.share id w.drew.heap.size) l _ _ (hK id cap' ((Builtin.zeroCells z.cells (cap' - (n + m))).toList.map .sc) (.inl h4) hge hcm' (by
        rw [List.length_append, List.length_append, List.length_map, hzl, hl, hxl, ← Nat.add_mul, ← Nat.add_mul, Nat.add_sub_cancel' hge])) (k0.trans hsh.2) (Lo.le.refl _) hsh.1 (by simp only [rep]; exact ⟨w.drew.heap.size, by simp [Gh.share], rfl⟩)
end
end Go.Abs
