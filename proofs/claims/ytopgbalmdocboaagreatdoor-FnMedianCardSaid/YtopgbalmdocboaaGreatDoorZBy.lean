/- Walks of the functions, printed by program, and the logic behind them: each theorem says what one function or one step answers. -/
import Derived.Test.YtopgbalmdocboaaGreatDoorZLib
import Derived.Test.YtopgbalmdocboaaGreatDoorZSlice
import Derived.Laws.MakeOwn
namespace Go.Abs
set_option linter.unusedVariables false
set_option linter.unusedSimpArgs false
section
variable {P : Program} {G : Nat → D} {g g' : Gh} {l l' : Lo} {A A' : AH} {wr : Bool} {Prot : Nat → Prop} {w w' : World} {o : Oper} {ρ : Operand → D} {S : AH → Prop}

theorem repL_bytes : ∀ s : List UInt8, repL g l (bc s) (s.map fun b => Value.int .u8 (b.toNat : Int))
  | [] => by simp [bc, repL]
  | b :: s => by
    have := repL_bytes s
    simp only [bc, List.map_cons, repL] at this ⊢
    exact ⟨_, _, rfl, by simp [rep], this⟩
theorem bc_len (s : List UInt8) : (bc s).length = s.length := by simp [bc]
theorem bc_get {s : List UInt8} {i : Nat} (h : i < s.length) : (bc s)[i]? = some (.sc (.int .u8 (s[i].toNat : Int))) := by simp [bc, h]

theorem bytesRow_eq (s : List UInt8) (cap : Nat) : bytesRow ⟨⟨s⟩⟩ cap = ((s.map fun (b : UInt8) => Value.int IntKind.u8 (b.toNat : Int)) ++ List.replicate (cap - s.length) (Value.int IntKind.u8 0)).toArray := by
  unfold bytesRow
  apply Array.ext'
  rw [Array.toList_append, Array.toList_map, Array.toList_replicate]
  rfl
/-- '[]byte(s)'. -/
theorem as_bytes {T U e : TypeId} [hT : UN P T .string] [hU : UN P U (.slice e)] [hE : UN P e (.int .u8)] {x : Operand} {s : List UInt8} {id : Nat} (ho : o.op = .convert T U x) (hx : ρ x = st s) (hid : A.o.length = id) :
    AS P G wr o ρ A (.ms id 0 s.length) (A.push (.cells (bc s))) := by
  subst hid
  intro g l Prot w a hr hops K Q hk
  have hx0 := hops x (by simp [ho, Op.operands])
  rw [hx] at hx0
  simp only [rep] at hx0
  have hrun := run_bytes_of_string (P := P) w T U e ⟨⟨s⟩⟩ hT.eq hU.eq hE.eq
  have hsz : (⟨⟨s⟩⟩ : ByteArray).size = s.length := rfl
  rw [hsz] at hrun
  have hge := grownCap_ge w s.length 0 e
  generalize grownCap w s.length 0 e = cap at *
  obtain ⟨n, hn⟩ : ∃ n, (bytesRow ⟨⟨s⟩⟩ cap).size = n := ⟨_, rfl⟩
  have hnl : s.length ≤ n := by rw [← hn, bytesRow_eq]; simp
  rw [hn, bytesRow_eq] at hrun
  generalize hsp : List.replicate (cap - s.length) (Value.int .u8 0) = sp at *
  have hex : (execOp a.eval o).run P w = .ok (.value (.slice (some ⟨w.heap.size, 0, none⟩) s.length cap)) (w.drew.alloc (.cells ((s.map fun (b : UInt8) => Value.int IntKind.u8 (b.toNat : Int)) ++ sp).toArray e (n, n + 1))) := by
    simp only [execOp, ho, hx0, Sem.run_bind, hrun, Result.andThen_ok, Sem.run_pure]
  have hrd : Rel P G g l A wr Prot w.drew := hr.of_heap rfl
  have hh : Holds g (l.push A.o.length w.drew.heap.size) (w.drew.alloc (.cells ((s.map fun (b : UInt8) => Value.int IntKind.u8 (b.toNat : Int)) ++ sp).toArray e (n, n + 1))) (.cells (bc s)) w.drew.heap.size := by
    simp only [Holds]
    refine ⟨_, sp, e, (n, n + 1), heap_alloc_at _ _, repL_bytes s, fun o' ho' => ?_⟩
    rw [bc_len] at ho'
    simp only
    omega
  obtain ⟨h1, h2⟩ := hrd.alloc_local _ (.cells (bc s)) hh
  unfold Oper.wp
  rw [hex]
  refine hk g _ _ _ ?_ h2 h1 ?_
  · have k0 : Fr Prot g g w w.drew := Fr.of_heap rfl ⟨rfl, rfl⟩
    exact k0.trans (Fr.alloc hrd _)
  · simp only [rep]
    exact ⟨w.drew.heap.size, cap, by simp [Lo.push], rfl, hge⟩

/-- 'string(b)' of bytes of this call's own. -/
theorem q_csbMs {T U e : TypeId} [hT : UN P T (.slice e)] [hE : UN P e (.int .u8)] [hU : UN P U .string] {x : Operand} {id n : Nat} {s : List UInt8} (ho : o.op = .convert T U x) (hx : ρ x = .ms id 0 n) (hA : A.o[id]? = some (.cells (bc s))) (hn : n = s.length) : AQ P G wr o ρ (ExtA A) (st s) :=
  AQ.run fun g lo Prot w a A' hS hr hops => by
    have hx0 := hops x (by simp [ho, Op.operands])
    rw [hx] at hx0
    subst hn
    simp only [rep] at hx0
    obtain ⟨b, cap, hι, h2, _⟩ := hx0
    obtain ⟨b', hι', _, _, hh⟩ := hr.loc id _ (hS.o _ _ hA)
    rw [hι] at hι'; cases hι'
    simp only [Holds] at hh
    obtain ⟨vs, sp, e', f, hb, hrl, _⟩ := hh
    have := run_convert_bytes_back (P := P) w T U e ⟨b, 0, none⟩ cap s hT.eq hE.eq hU.eq fun j hj => by
      obtain ⟨v, h4, h5⟩ := repL_get hrl j _ (bc_get hj)
      simp only [rep] at h5
      rw [addr_add, ← h5]
      simp only [World.cell?, hb, Nat.zero_add]
      have := (List.getElem?_eq_some_iff.1 h4).1
      simp [List.getElem?_append_left this, h4]
    refine ⟨str s, ?_, by simp [rep]⟩
    simp only [execOp, ho, h2, Sem.run_bind, this, Result.andThen_ok, Sem.run_pure]

theorem load_bc {A : AH} {id i : Nat} {s : List UInt8} (hA : A.o[id]? = some (.cells (bc s))) (h : i < s.length) : loadD A false 1 (.box id (0 + (i : Int).toNat * 1)) = some (.sc (.int .u8 (s[i].toNat : Int))) := by
  have e : 0 + (i : Int).toNat * 1 = i := by simp
  rw [e]
  simp [loadD, cellsAt, hA, takeAt, bc_get h]
theorem splice_bc {s : List UInt8} {i : Nat} (b : UInt8) (h : i < s.length) : splice (bc s) (0 + (i : Int).toNat * 1) (partsD (.sc (.int .u8 (b.toNat : Int)))) = bc (s.set i b) := by
  have e : 0 + (i : Int).toNat * 1 = i := by simp
  rw [e]
  have hl : i < (bc s).length := by rw [bc_len]; exact h
  simp only [splice, partsD, List.length_cons, List.length_nil, Nat.zero_add]
  have : bc (s.set i b) = (bc s).set i (.sc (.int .u8 (b.toNat : Int))) := by simp [bc, List.map_set]
  rw [this, List.set_eq_take_append_cons_drop, if_pos hl]
  simp
end
/-- A small letter for a great one. -/
def lowB (b : UInt8) : UInt8 := if 65 ≤ b.toNat ∧ b.toNat ≤ 90 then UInt8.ofNat (b.toNat + 32) else b
def lowS (s : List UInt8) : List UInt8 := s.map lowB
theorem lowB_add {b : UInt8} (h1 : 65 ≤ b.toNat) (h2 : b.toNat ≤ 90) : IntKind.u8.wrap ((b.toNat : Int) + 32) = ((lowB b).toNat : Int) := by
  unfold lowB
  rw [if_pos ⟨h1, h2⟩, UInt8.toNat_ofNat']
  simp [IntKind.wrap, IntKind.signed, IntKind.bits]
theorem lowB_same {b : UInt8} (h : ¬ (65 ≤ b.toNat ∧ b.toNat ≤ 90)) : lowB b = b := if_neg h
/-- A byte of a text. -/
theorem byte_at {s : List UInt8} {i : Nat} (h : i < s.length) : s.getD (i : Int).toNat 0 = s[i] := by simp [h]
theorem low_step {s : List UInt8} {i : Nat} (h : i < s.length) : (lowS (s.take i) ++ s.drop i).set i (lowB s[i]) = lowS (s.take (i + 1)) ++ s.drop (i + 1) := by
  have hl : (lowS (s.take i)).length = i := by simp [lowS]; omega
  rw [List.set_append_right _ _ (by omega), hl, Nat.sub_self, List.drop_eq_getElem_cons h, List.set_cons_zero, List.take_succ_eq_append_getElem h]
  unfold lowS
  rw [List.map_append, List.append_assoc]; rfl
theorem low_at {s : List UInt8} {i : Nat} (h : i < s.length) (h' : i < (lowS (s.take i) ++ s.drop i).length) : (lowS (s.take i) ++ s.drop i)[i] = s[i] := by
  have hl : (lowS (s.take i)).length = i := by simp [lowS]; omega
  rw [List.getElem_append_right (by omega)]
  simp [hl]
theorem low_len {s : List UInt8} {i : Nat} (h : i ≤ s.length) : (lowS (s.take i) ++ s.drop i).length = s.length := by simp [lowS]; omega
end Go.Abs
namespace Go.Abs
set_option linter.unusedVariables false
set_option linter.unusedSimpArgs false
section
variable {P : Program} {G : Nat → D} {g g' : Gh} {l l' : Lo} {A A' : AH} {wr : Bool} {Prot : Nat → Prop} {w w' : World} {o : Oper} {ρ : Operand → D} {S : AH → Prop}

/-- The place of an element. -/
theorem q_indexHs {T e : TypeId} {agg : Bool} {sz : Nat} {x ix : Operand} [hT : UN P T (.slice e)] [hE : TI P e agg sz] {id off n cap : Nat} {k : IntKind} {i : Int} (ho : o.op = .indexAddr T x ix) (hx : ρ x = .hs id off n cap) (hi : ρ ix = .sc (.int k i)) (h0 : 0 ≤ i) (h1 : i < n) : AQ P G wr o ρ S (.hp id (off + i.toNat * sz)) :=
  AQ.run fun g l _ w a _ _ _ h => by
    have hx0 := h x (by simp [ho, Op.operands])
    have hi0 := h ix (by simp [ho, Op.operands])
    rw [hx] at hx0; rw [hi] at hi0
    have hi1 : a.eval ix = .int k i := by simpa [rep] using hi0
    simp only [rep] at hx0
    obtain ⟨b, hκ, h2⟩ := hx0
    refine ⟨.pointer (some ⟨b, off + i.toNat * sz, none⟩), ?_, by simp only [rep]; exact ⟨b, hκ, rfl⟩⟩
    simp only [execOp, ho, h2, hi1, Instr.indexAt, asIntOf, Sem.run_bind, Sem.run_pure, Result.andThen_ok, run_underlying hT.eq]
    simp [h0, h1, addr_add, hE.size]
theorem q_lenHs {T e : TypeId} {x : Operand} [hT : UN P T (.slice e)] {id off n cap : Nat} (ho : o.op = .call { callee := .builtin .len, args := #[x], argTypes := #[T] }) (hx : ρ x = .hs id off n cap) : AQ P G wr o ρ S (i64 n) :=
  AQ.run fun g l _ w a _ _ _ h => by
    have hx0 := h x (by simp [ho, Op.operands, Call.operands])
    rw [hx] at hx0
    simp only [rep] at hx0
    obtain ⟨b, _, h2⟩ := hx0
    exact ⟨.int .i64 n, by simp [execOp, ho, resolve, invoke, builtin, h2, Builtin.len_, run_underlying hT.eq, goInt], by simp [rep]⟩

/-- A row: nothing yet, or cells among the shared objects with room behind them. -/
def IsRow (h : Nat → Option (List D)) (sz : Nat) (d : D) (n : Nat) (xs : List D) : Prop :=
  (n = 0 ∧ xs = [] ∧ d = .sc (.slice none 0 0)) ∨ ∃ k cap sp, d = .hs k 0 n cap ∧ h k = some (xs ++ sp) ∧ xs.length = n * sz ∧ (xs ++ sp).length = cap * sz ∧ n ≤ cap ∧ cap ≤ maxLen ∧ 0 < cap

/-- Room for more: as the library has it, whatever the block's own element type. -/
theorem run_append_roomX (w : World) (t ty e e' : TypeId) (i : TypeInfo) (ht : P.underlying t = some (.slice e)) (hi : P.info? e = some i) (g sLen sCap : Nat) (cur : Array Value) (hg : w.heap[g]? = some (.cells cur e' (0, 0)))
    (a : Addr) (m c : Nat) (news : List Value) (hl : news.length = m * i.size) (hnews : ∀ j u, news[j]? = some u → w.cell? (a.add j) = some u) (h1 : ∀ u ∈ news, u.oneCell' = true)
    (hroom : sLen + m ≤ sCap) (hfit : sLen * i.size + news.length ≤ cur.size) :
    (Builtin.append_ #[t, t] ty #[.slice (some ⟨g, 0, none⟩) sLen sCap, .slice (some a) m c]).run P w =
      .ok (.slice (some ⟨g, 0, none⟩) (sLen + m) sCap) (w.setRow g (cur.toList.take (sLen * i.size) ++ news ++ cur.toList.drop (sLen * i.size + news.length)).toArray) := by
  have hf := run_firstCells_some (P := P) w i.size m a m c news hl hnews
  have hst := run_storeCells_at P g (sLen * i.size) e' news 0 cur w hg (by simpa using hfit) h1
  simp only [Nat.add_zero] at hst
  simp [Builtin.append_, run_underlying ht, sizeOf, typeInfo, hi, Builtin.lenOf, hroom, hf, Addr.add_lit, hst]

/-- More behind a row that lies among the shared objects. -/
theorem ao_appendRow {T e : TypeId} {by_ : Nat} {zs : List Value} {s x : Operand} [hT : UN P T (.slice e)] [hZ : ZV P e by_ zs] {n m : Nat} {d dx : D} {xs ys : List D} {Kv : D → AH → Prop} (ho : o.op = .call { callee := .builtin .append, args := #[s, x], argTypes := #[T, T] }) (hs : ρ s = d) (hrow : IsRow A.h zs.length d n xs) (hx : ρ x = dx) (hd : slc dx = some (ys, m)) (hm : 0 < m)
    (hl : ys.length = m * zs.length) (hfit : (n + m) * by_ ≤ 140737488355328) (hmax : n + m ≤ maxLen)
    (hK : ∀ k' cap' sp, (A.h k' = none ∨ ∃ c, d = .hs k' 0 n c) → n + m ≤ cap' → cap' ≤ maxLen → (xs ++ ys ++ sp).length = cap' * zs.length → Kv (.hs k' 0 (n + m) cap') (A.hset k' (xs ++ ys ++ sp))) : AOp P G true o ρ A Kv := by
  intro g l Prot w a hr hops K Q hk
  have hs0 := hops s (by simp [ho, Op.operands, Call.operands])
  have hx0 := hops x (by simp [ho, Op.operands, Call.operands])
  rw [hs] at hs0; rw [hx] at hx0
  obtain ⟨it, z, hi, hz, hzc, hsz, hby⟩ := hZ.eq
  have hzs : z.cells.size = zs.length := by simp [hzc]
  have hzl : ∀ k, (Builtin.zeroCells z.cells k).toList.length = k * zs.length := fun k => by simp [size_zeroCells, hzs]
  have hsmall : n + m ≤ 9223372036854775807 := by simp only [maxLen] at hmax; omega
  have hexec : ∀ cv w', (Builtin.append_ #[T, T] o.type #[a.eval s, a.eval x]).run P w = .ok cv w' → (execOp a.eval o).run P w = .ok (.value cv) w' := fun cv w' h1 => by
    simp only [execOp, ho, resolve, invoke, builtin, Sem.run_bind, Sem.run_pure, Result.andThen_ok, List.map_toArray, List.map_cons, List.map_nil, h1]
  have hrd : Rel P G g l A true Prot w.drew := hr.of_heap rfl
  have k0 : Fr Prot g g w w.drew := Fr.of_heap rfl ⟨rfl, rfl⟩
  rcases rep_slc hd hx0 with ⟨rfl, _, _⟩ | ⟨b2, oo, cap2, hxe, hmc, hS⟩
  · omega
  obtain ⟨news, hn1, hn2, hn3⟩ := repS_vals hS
  have hnl : news.length = m * it.size := by rw [repL_length hn1, hl, hsz]
  have hload : ∀ j u, news[j]? = some u → w.cell? ((⟨b2, oo, none⟩ : Addr).add j) = some u := fun j u hj => by rw [addr_add]; exact hr.sld _ _ _ (hn2 j u hj)
  obtain ⟨id, h3, h4⟩ := fresh_share hr
  rw [hxe] at hexec
  rcases hrow with ⟨rfl, rfl, rfl⟩ | ⟨k, cap, sp, rfl, hA, hxl, htl, hnc, hcm, hc0⟩
  · simp only [rep] at hs0
    rw [hs0] at hexec
    have hrun := run_append_nil (P := P) w T o.type e it z hT.eq hi hz ⟨b2, oo, none⟩ m cap2 news hnl hload hm (by omega) (by rw [hby]; simp only [Nat.zero_add] at hfit; omega)
    have hge := grownCap_ge w m 0 e
    have hcm := grownCap_le_maxLen w m 0 e (by omega)
    generalize grownCap w m 0 e = cap' at *
    have hsh := hrd.alloc_shared h3 (news ++ (Builtin.zeroCells z.cells (cap' - m)).toList) e (ys ++ (Builtin.zeroCells z.cells (cap' - m)).toList.map .sc) (repL_append (repL_mono (Gh.le_share h3) _ (Lo.le.refl _) hn1) (repL_sc _))
    have ew : (news ++ (Builtin.zeroCells z.cells (cap' - m)).toList).toArray = news.toArray ++ Builtin.zeroCells z.cells (cap' - m) := by apply Array.ext'; simp
    rw [ew] at hsh
    unfold Oper.wp
    rw [hexec _ _ hrun]
    refine hk _ _ (g.share id w.drew.heap.size) l _ _ (hK id cap' ((Builtin.zeroCells z.cells (cap' - m)).toList.map .sc) (.inl h4) (by omega) hcm (by
      rw [List.nil_append, List.length_append, List.length_map, hzl, hl, ← Nat.add_mul, Nat.add_sub_cancel' hge])) (k0.trans hsh.2) (Lo.le.refl _) (by simpa using hsh.1) (by simp only [rep, Nat.zero_add]; exact ⟨w.drew.heap.size, by simp [Gh.share], rfl⟩)
  · simp only [rep] at hs0
    obtain ⟨b, hκ, hse⟩ := hs0
    rw [hse] at hexec
    obtain ⟨b', vs, e', hκ', hnp, hb, hrl⟩ := hr.sh k _ hA
    rw [hκ] at hκ'; cases hκ'
    have hvl := repL_length hrl
    rw [htl] at hvl
    by_cases hroom : n + m ≤ cap
    · have hcap : n * zs.length + m * zs.length ≤ cap * zs.length := by rw [← Nat.add_mul]; exact Nat.mul_le_mul_right _ hroom
      have hrun := run_append_roomX (P := P) w T o.type e e' it hT.eq hi b n cap vs.toArray hb ⟨b2, oo, none⟩ m cap2 news hnl hload hn3 hroom (by rw [hnl, hsz, List.size_toArray, hvl]; exact hcap)
      have hyn : news.length = ys.length := repL_length hn1
      have hsp := hr.set_shared hA hκ (w' := w.setRow b (vs.take (n * it.size) ++ news ++ vs.drop (n * it.size + news.length)).toArray) (setRow_size _ _ _) (fun b' hb' => setRow_other w b b' _ hb') (setRow_heap w b _ _ e' (0, 0) hb) (repL_splice hrl hn1 (n * it.size))
      have es : splice (xs ++ sp) (n * it.size) ys = xs ++ ys ++ sp.drop ys.length := by
        unfold splice
        rw [hsz, ← hxl, List.take_left, List.drop_append]
        simp
      rw [es] at hsp
      unfold Oper.wp
      rw [hexec _ _ hrun]
      refine hk _ _ g l _ _ (hK k cap (sp.drop ys.length) (.inr ⟨cap, rfl⟩) hroom hcm (by
        rw [List.length_append] at htl ⊢
        rw [List.length_append, List.length_drop, hl, hxl]
        rw [hxl] at htl
        omega)) ⟨Gh.le.refl _, by rw [setRow_size]; exact Nat.le_refl _, fun b' hb' => setRow_other w b b' _ (fun e => hsp.2 (e ▸ hb')), fun _ _ _ => rfl, fun _ _ _ h => h, rfl, rfl⟩ (Lo.le.refl _) hsp.1 (by simp only [rep]; exact ⟨b, hκ, rfl⟩)
    · have hcapn : n * zs.length ≤ cap * zs.length := Nat.mul_le_mul_right _ hnc
      have hol : (vs.take (n * zs.length)).length = n * it.size := by rw [List.length_take, hvl, hsz]; omega
      have hor : repL g Lo.none xs (vs.take (n * zs.length)) := by
        have := repL_take hrl (n * zs.length)
        rw [← hxl, List.take_left, hxl] at this
        exact this
      have hoc : ∀ j u, (vs.take (n * zs.length))[j]? = some u → w.cell? ((⟨b, 0, none⟩ : Addr).add j) = some u := fun j u hj => by
        rw [addr_add, Nat.zero_add]
        simp only [World.cell?, hb, List.getElem?_toArray]
        rw [List.getElem?_take] at hj
        split at hj
        · exact hj
        · cases hj
      have hrun := run_append_grow (P := P) w T o.type e it z hT.eq hi hz ⟨b, 0, none⟩ n cap _ hol hoc ⟨b2, oo, none⟩ m cap2 news hnl hload (by omega) (by omega) (growslice_fits (by omega) (by rw [hby]; exact hfit))
      have hge := grownCap_ge w (n + m) cap e
      have hcm' := grownCap_le_maxLen w (n + m) cap e hmax
      generalize grownCap w (n + m) cap e = cap' at *
      have hsh := hrd.alloc_shared h3 (vs.take (n * zs.length) ++ news ++ (Builtin.zeroCells z.cells (cap' - (n + m))).toList) e (xs ++ ys ++ (Builtin.zeroCells z.cells (cap' - (n + m))).toList.map .sc) (repL_append (repL_append (repL_mono (Gh.le_share h3) _ (Lo.le.refl _) hor) (repL_mono (Gh.le_share h3) _ (Lo.le.refl _) hn1)) (repL_sc _))
      have ew : (vs.take (n * zs.length) ++ news ++ (Builtin.zeroCells z.cells (cap' - (n + m))).toList).toArray = (vs.take (n * zs.length)).toArray ++ news.toArray ++ Builtin.zeroCells z.cells (cap' - (n + m)) := by apply Array.ext'; simp
      rw [ew] at hsh
      unfold Oper.wp
      rw [hexec _ _ hrun]
      exact hk _ _ (g.share id w.drew.heap.size) l _ _ (hK id cap' ((Builtin.zeroCells z.cells (cap' - (n + m))).toList.map .sc) (.inl h4) hge hcm' (by
        rw [List.length_append, List.length_append, List.length_map, hzl, hl, hxl, ← Nat.add_mul, ← Nat.add_mul, Nat.add_sub_cancel' hge])) (k0.trans hsh.2) (Lo.le.refl _) hsh.1 (by simp only [rep]; exact ⟨w.drew.heap.size, by simp [Gh.share], rfl⟩)
end
end Go.Abs
