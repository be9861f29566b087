/-
  The abstract logic, part G: operations that read or change the state.
-/
import Derived.Test.YtjobmjfdlkjaoaaGreatDoorZAbsF
namespace Go.Abs
set_option linter.unusedVariables false
set_option linter.unusedSimpArgs false

/-- A type's zero cells. -/
class ZV (P : Program) (T : TypeId) (bytes : outParam Nat) (zs : outParam (List Value)) : Prop where
  eq : ∃ i z, P.info? T = some i ∧ i.zero = some z ∧ z.cells = zs.toArray ∧ i.size = zs.length ∧ i.bytes = bytes
  one : zs.all (·.oneCell') = true

def splice (cs : List D) (off : Nat) (vs : List D) : List D := cs.take off ++ vs ++ cs.drop (off + vs.length)
def partsD : D → List D
  | .agg cs => cs
  | d => [d]

theorem length_splice {cs vs : List D} {off : Nat} (h : off + vs.length ≤ cs.length) : (splice cs off vs).length = cs.length := by
  simp [splice]; omega

section
variable {P : Program} {G : Nat → D} {g g' : Gh} {l l' : Lo} {A A' : AH} {wr : Bool} {Prot : Nat → Prop} {w w' : World} {N : Nat} {o : Oper} {ρ : Operand → D}

theorem rep_parts {d : D} {x : Value} (h : rep g l d x) (ho : oneL (partsD d) = true) : repL g l (partsD d) x.cells.toList ∧ ∀ v ∈ x.cells.toList, v.oneCell' = true := by
  have one : ∀ {d : D} {x : Value}, rep g l d x → oneD d = true → repL g l [d] x.cells.toList ∧ ∀ v ∈ x.cells.toList, v.oneCell' = true := fun {d x} h ho => by
    have h1 := one_of h ho
    have hc : x.cells = #[x] := by cases x <;> simp [Value.oneCell', Value.cells] at h1 ⊢
    rw [hc]
    exact ⟨by simp only [repL]; exact ⟨x, [], rfl, h, rfl⟩, by simpa using h1⟩
  have all : ∀ {cs : List D} {vs : List Value}, repL g l cs vs → oneL cs = true → ∀ v ∈ vs, v.oneCell' = true := by
    intro cs
    induction cs with
    | nil => intro vs h _ v hv; simp only [repL] at h; subst h; cases hv
    | cons c cs ih =>
      intro vs h ho v hv
      simp only [repL] at h
      obtain ⟨x, r, rfl, h1, h2⟩ := h
      simp only [oneL, List.all_cons, Bool.and_eq_true] at ho
      rcases List.mem_cons.1 hv with rfl | hv
      · exact one_of h1 ho.1
      · exact ih h2 ho.2 v hv
  cases d with
  | agg cs =>
    simp only [rep] at h
    obtain ⟨vs, rfl, h2⟩ := h
    simp only [partsD, Value.cells] at ho ⊢
    exact ⟨h2, all h2 ho⟩
  | _ => exact one h (by simpa [oneL, partsD] using ho)

theorem repL_take : ∀ {cs : List D} {vs : List Value} (_ : repL g l cs vs) (n : Nat), repL g l (cs.take n) (vs.take n)
  | [], _, h, n => by simp only [repL] at h; subst h; simp [repL]
  | c :: cs, _, h, 0 => by simp [repL]
  | c :: cs, _, h, n + 1 => by
    simp only [repL] at h
    obtain ⟨x, r, rfl, h1, h2⟩ := h
    simp only [List.take_succ_cons, repL]
    exact ⟨x, _, rfl, h1, repL_take h2 n⟩
theorem repL_drop : ∀ {cs : List D} {vs : List Value} (_ : repL g l cs vs) (n : Nat), repL g l (cs.drop n) (vs.drop n)
  | [], _, h, n => by simp only [repL] at h; subst h; simp [repL]
  | c :: cs, _, h, 0 => by simpa using h
  | c :: cs, _, h, n + 1 => by
    simp only [repL] at h
    obtain ⟨x, r, rfl, h1, h2⟩ := h
    simpa using repL_drop h2 n
theorem repL_splice {cs vs : List D} {xs ys : List Value} (h : repL g l cs xs) (h' : repL g l vs ys) (off : Nat) : repL g l (splice cs off vs) (xs.take off ++ ys ++ xs.drop (off + ys.length)) := by
  unfold splice
  rw [repL_length h']
  exact repL_append (repL_append (repL_take h off) h') (repL_drop h _)

theorem repL_sc : ∀ zs : List Value, repL g l (zs.map D.sc) zs
  | [] => by simp [repL]
  | z :: zs => by simp only [List.map_cons, repL]; exact ⟨z, zs, rfl, by simp [rep], repL_sc zs⟩

/-- Cells are written, none of them frozen. -/
theorem run_storeCells_into (b o : Nat) (t : TypeId) (fr : Nat × Nat) : ∀ (vs : List Value) (i : Nat) (cur : Array Value) (w : World), w.heap[b]? = some (.cells cur t fr) →
    (∀ j, o + i ≤ j → j < o + i + vs.length → ¬ (fr.1 ≤ j ∧ j < fr.2)) → o + i + vs.length ≤ cur.size → (∀ v ∈ vs, v.oneCell' = true) →
    (storeCells ⟨b, o, none⟩ vs i).run P w = .ok () (w.setRow b (cur.toList.take (o + i) ++ vs ++ cur.toList.drop (o + i + vs.length)).toArray)
  | [], i, cur, w, hg, _, _, _ => by
    simp only [storeCells, List.append_nil, List.length_nil, Nat.add_zero, List.take_append_drop, Array.toArray_toList]
    rw [setRow_self w b cur t fr hg]
    rfl
  | v :: rest, i, cur, w, hg, hfz, hl, h1 => by
    have hi : o + i < cur.size := by simp at hl; omega
    have hadd : (⟨b, o, none⟩ : Addr).add i = ⟨b, o + i, none⟩ := addr_add _ _ _
    have hcell : w.cell? ⟨b, o + i, none⟩ = some cur[o + i] := by simp [World.cell?, hg, hi]
    have hfro : w.frozen? ⟨b, o + i, none⟩ = false := by
      have := hfz (o + i) (Nat.le_refl _) (by simp)
      obtain ⟨lo, hi'⟩ := fr
      simp only [World.frozen?, hg, Bool.and_eq_false_iff, decide_eq_false_iff_not]
      simp only at this
      omega
    have hst : (store ((⟨b, o, none⟩ : Addr).add i) v).run P w = .ok () (w.setRow b (cur.setIfInBounds (o + i) v)) := by
      rw [hadd, run_store P w _ v _ (h1 v (by simp)), hcell]
      simp [hfro, setCell_eq_setRow w b (o + i) cur t fr v hg]
    have ih := run_storeCells_into b o t fr rest (i + 1) (cur.setIfInBounds (o + i) v) (w.setRow b (cur.setIfInBounds (o + i) v)) (setRow_heap w b cur _ t _ hg)
      (fun j h2 h3 => hfz j (by omega) (by simp; omega)) (by simp at hl ⊢; omega) (fun x hx => h1 x (by simp [hx]))
    simp only [storeCells, Sem.run_bind, hst, Result.andThen_ok, ih, setRow_setRow]
    congr 3
    have e := list_seg_step cur.toList (o + i) v rest (by simp at hl ⊢; omega)
    simpa [Array.toList_setIfInBounds, Nat.add_assoc] using e

theorem setRow_size (w : World) (b : Nat) (cs : Array Value) : (w.setRow b cs).heap.size = w.heap.size := by simp [World.setRow]

theorem sure_at (b o : Nat) : Instr.sureAddr (.pointer (some ⟨b, o, none⟩)) = (pure ⟨b, o, none⟩ : Sem Addr) := rfl

/-- A store to a local object. -/
theorem as_store {T : TypeId} {agg : Bool} {sz : Nat} [hT : TI P T agg sz] {x y : Operand} {id off : Nat} {d : D} {cs : List D} (ho : o.op = .store T x y) (hx : ρ x = .box id off) (hy : ρ y = d) (hA : A.o[id]? = some (.cells cs)) (hl : (partsD d).length = sz) (h1 : oneL (partsD d) = true) (hfit : off + sz ≤ cs.length) :
    AS P G wr o ρ A (.sc undef) (A.set id (.cells (splice cs off (partsD d)))) := by
  intro g l Prot w a hr hops K Q hk
  have hx0 := hops x (by simp [ho, Op.operands])
  have hy0 := hops y (by simp [ho, Op.operands])
  rw [hx] at hx0; rw [hy] at hy0
  simp only [rep] at hx0
  obtain ⟨b, hι, hxe⟩ := hx0
  obtain ⟨b', hι', hnp, hlt, hh⟩ := hr.loc id _ hA
  rw [hι] at hι'; cases hι'
  simp only [Holds] at hh
  obtain ⟨vs, sp, e, f, hb, hrl, hfro⟩ := hh
  obtain ⟨hp, hone⟩ := rep_parts hy0 h1
  have hlen := repL_length hp
  have hlen' := repL_length hrl
  have hcl : (a.eval y).cells.toList.length = sz := by omega
  have hst := run_storeCells_into (P := P) b off e f (a.eval y).cells.toList 0 (vs ++ sp).toArray w hb
    (fun j h2 h3 => hfro j (by omega)) (by simp at hcl ⊢; omega) hone
  have hcs : (a.eval y).cells.size = sz := by simpa using hcl
  unfold Oper.wp
  have hrun : (execOp a.eval o).run P w = .ok .skip (w.setRow b (((vs ++ sp).take off ++ (a.eval y).cells.toList ++ (vs ++ sp).drop (off + (a.eval y).cells.toList.length)).toArray)) := by
    simp only [execOp, ho, hxe, Instr.storeAt, sure_at, storeVar, Sem.run_bind, Sem.run_pure, Result.andThen_ok, hT.size, hcs, ne_eq, not_true_eq_false, if_false]
    simp only [Nat.add_zero] at hst
    rw [hst]
    rfl
  rw [hrun]
  have hsplit : (vs ++ sp).take off ++ (a.eval y).cells.toList ++ (vs ++ sp).drop (off + (a.eval y).cells.toList.length) = (vs.take off ++ (a.eval y).cells.toList ++ vs.drop (off + (a.eval y).cells.toList.length)) ++ sp := by
    rw [hcl, List.take_append_of_le_length (by omega), List.drop_append_of_le_length (by omega)]
    simp
  rw [hsplit]
  refine hk g l _ undef ⟨Gh.le.refl _, by rw [setRow_size]; exact Nat.le_refl _, fun b' hb' => setRow_other w b b' _ (fun e => hnp (e ▸ hb')), fun _ _ _ => rfl, fun _ _ _ h => h, rfl, rfl⟩ (Lo.le.refl _) ?_ (by simp [rep])
  refine hr.set_local (List.getElem?_eq_some_iff.1 hA).1 hι (setRow_size _ _ _) (fun b' hb' => setRow_other w b b' _ hb') ?_
  simp only [Holds]
  refine ⟨_, sp, e, f, setRow_heap w b _ _ e f hb, ?_, fun o' ho' => hfro o' (by rw [length_splice (by omega)] at ho'; exact ho')⟩
  exact repL_splice hrl hp off

/-- A store to a shared object. -/
theorem as_storeH {T : TypeId} {agg : Bool} {sz : Nat} [hT : TI P T agg sz] {x y : Operand} {k off : Nat} {d : D} {cs : List D} (ho : o.op = .store T x y) (hx : ρ x = .hp k off) (hy : ρ y = d) (hA : A.h k = some cs) (hl : (partsD d).length = sz) (h1 : oneL (partsD d) = true) (hext : ext d = true) (hfit : off + sz ≤ cs.length) :
    AS P G true o ρ A (.sc undef) (A.hset k (splice cs off (partsD d))) := by
  intro g l Prot w a hr hops K Q hk
  have hx0 := hops x (by simp [ho, Op.operands])
  have hy0 := hops y (by simp [ho, Op.operands])
  rw [hx] at hx0; rw [hy] at hy0
  simp only [rep] at hx0
  obtain ⟨b, hκ, hxe⟩ := hx0
  obtain ⟨b', vs, e, hκ', hnp, hb, hrl⟩ := hr.sh k _ hA
  rw [hκ] at hκ'; cases hκ'
  obtain ⟨hp, hone⟩ := rep_parts (rep_ext d hext hy0) h1
  have hlen := repL_length hp
  have hlen' := repL_length hrl
  have hcl : (a.eval y).cells.toList.length = sz := by omega
  have hst := run_storeCells_into (P := P) b off e (0, 0) (a.eval y).cells.toList 0 vs.toArray w hb
    (fun j h2 h3 => by simp) (by simp at hcl ⊢; omega) hone
  have hcs : (a.eval y).cells.size = sz := by simpa using hcl
  unfold Oper.wp
  have hrun : (execOp a.eval o).run P w = .ok .skip (w.setRow b ((vs.take off ++ (a.eval y).cells.toList ++ vs.drop (off + (a.eval y).cells.toList.length)).toArray)) := by
    simp only [execOp, ho, hxe, Instr.storeAt, sure_at, storeVar, Sem.run_bind, Sem.run_pure, Result.andThen_ok, hT.size, hcs, ne_eq, not_true_eq_false, if_false]
    simp only [Nat.add_zero] at hst
    rw [hst]
    rfl
  rw [hrun]
  have hset := hr.set_shared hA hκ (w' := w.setRow b ((vs.take off ++ (a.eval y).cells.toList ++ vs.drop (off + (a.eval y).cells.toList.length)).toArray)) (setRow_size _ _ _) (fun b' hb' => setRow_other w b b' _ hb') (setRow_heap w b _ _ e (0, 0) hb) (repL_splice hrl hp off)
  exact hk g l _ undef ⟨Gh.le.refl _, by rw [setRow_size]; exact Nat.le_refl _, fun b' hb' => setRow_other w b b' _ (fun e => hset.2 (e ▸ hb')), fun _ _ _ => rfl, fun _ _ _ h => h, rfl, rfl⟩ (Lo.le.refl _) hset.1 (by simp [rep])

/-- Loads. -/
theorem loadD_ext {agg : Bool} {sz : Nat} {d v : D} (h : loadD A agg sz d = some v) (he : ExtA A A') : loadD A' agg sz d = some v := by
  unfold loadD at h ⊢
  cases hc : cellsAt A d with
  | none => rw [hc] at h; cases h
  | some p =>
    have : cellsAt A' d = some p := by
      cases d <;> simp only [cellsAt] at hc ⊢ <;> first | (cases hc; done) | skip
      · rename_i id off
        cases ho : A.o[id]? with
        | none => rw [ho] at hc; cases hc
        | some ob => rw [he.o id ob ho]; rw [ho] at hc; exact hc
      · rw [he.h]; exact hc
      · exact hc
    rw [this]; rw [hc] at h; exact h

theorem q_load {T : TypeId} {agg : Bool} {sz : Nat} [hT : TI P T agg sz] {x : Operand} {d v : D} (ho : o.op = .load T x) (hx : ρ x = d) (h : loadD A agg sz d = some v) : AQ P G wr o ρ (ExtA A) v :=
  AQ.run fun g l _ w a A' he hr hops => by
    have hx0 := hops x (by simp [ho, Op.operands])
    rw [hx] at hx0
    obtain ⟨ad, cv, h1, h2, h3⟩ := run_load_agg (T := T) hr (loadD_ext h he) hx0
    refine ⟨cv, ?_, h3⟩
    have hsure : Instr.sureAddr (.pointer (some ad)) = (pure ad : Sem Addr) := rfl
    simp only [execOp, ho, h1, Instr.loadAt, hsure, Sem.run_bind, Sem.run_pure, Result.andThen_ok, h2]

theorem q_loadPin {S : AH → Prop} {T : TypeId} {agg : Bool} {sz : Nat} [hT : TI P T agg sz] {x : Operand} {cs : List D} {off : Nat} {v : D} (ho : o.op = .load T x) (hx : ρ x = .pin cs off) (h : takeAt agg sz cs off = some v) : AQ P G wr o ρ S v :=
  AQ.run fun g l _ w a A' he hr hops => by
    have hx0 := hops x (by simp [ho, Op.operands])
    rw [hx] at hx0
    obtain ⟨ad, cv, h1, h2, h3⟩ := run_load_agg (T := T) hr (show loadD A' agg sz (.pin cs off) = some v by simpa [loadD, cellsAt] using h) hx0
    refine ⟨cv, ?_, h3⟩
    have hsure : Instr.sureAddr (.pointer (some ad)) = (pure ad : Sem Addr) := rfl
    simp only [execOp, ho, h1, Instr.loadAt, hsure, Sem.run_bind, Sem.run_pure, Result.andThen_ok, h2]

/-- What stands for zero cells: the cells themselves, or growing rows yet to be. -/
def ZAs : List D → List Value → Prop
  | [], zs => zs = []
  | .sc v :: ds, zs => ∃ r, zs = v :: r ∧ ZAs ds r
  | .gs _ _ cs m :: ds, zs => ∃ r, zs = .slice none 0 0 :: r ∧ cs = [] ∧ m = 0 ∧ ZAs ds r
  | _ :: _, _ => False

theorem ZAs.rep : ∀ {ds : List D} {zs : List Value}, ZAs ds zs → repL g l ds zs
  | [], _, h => by simpa [repL, ZAs] using h
  | .sc v :: ds, _, h => by simp only [ZAs] at h; obtain ⟨r, rfl, h⟩ := h; simp only [repL]; exact ⟨v, r, rfl, by simp [Abs.rep], h.rep⟩
  | .gs _ _ _ _ :: ds, _, h => by simp only [ZAs] at h; obtain ⟨r, rfl, rfl, rfl, h⟩ := h; simp only [repL]; exact ⟨_, r, rfl, by simp [Abs.rep], h.rep⟩
  | .box _ _ :: _, _, h | .hp _ _ :: _, _, h | .pin _ _ :: _, _, h | .im _ _ :: _, _, h | .lit _ _ :: _, _, h | .ms _ _ _ :: _, _, h | .agg _ :: _, _, h | .tup _ :: _, _, h | .ifc _ _ :: _, _, h | .fn _ _ _ :: _, _, h | .mp _ :: _, _, h => by simp [ZAs] at h

theorem ZAs.sc : ∀ zs : List Value, ZAs (zs.map D.sc) zs
  | [] => rfl
  | z :: zs => by simp only [List.map_cons, ZAs]; exact ⟨zs, rfl, ZAs.sc zs⟩

/-- New tags. -/
def AH.tags (A : AH) (k : Nat) : AH := { A with live := fun i => A.live i || (Nat.ble A.ln i && Nat.blt i (A.ln + k)), ln := A.ln + k }

theorem Rel.tags (h : Rel P G g l A wr Prot w) (k : Nat) : Rel P G g l (A.tags k) wr Prot w := by
  have key : ∀ {t r}, (A.tags k).live t = true → l.τ t = some r → A.live t = true := fun {t r} ht hr => by
    simp only [AH.tags, Bool.or_eq_true, Bool.and_eq_true] at ht
    rcases ht with ht | ⟨ht, _⟩
    · exact ht
    · rw [(h.tagN t (Nat.le_of_ble_eq_true ht)).1] at hr; cases hr
  refine ⟨h.glob, h.prot, h.sld, h.loc, h.locN, h.locInj, h.locFree, fun t r ht hr => h.tag t r (key ht hr) hr, fun t ht => ?_, fun t t' r r' ht ht' hr hr' => h.tagInj t t' r r' (key ht hr) (key ht' hr') hr hr', h.sh, h.shN, h.shInj, h.shLt⟩
  simp only [AH.tags] at ht
  have h1 := h.tagN t (by omega)
  refine ⟨h1.1, ?_⟩
  simp only [AH.tags, h1.2, Bool.false_or, Bool.and_eq_false_iff]
  right
  cases hb : Nat.blt t (A.ln + k) with
  | false => rfl
  | true => simp [Nat.blt_eq] at hb; omega

theorem zv_run {T : TypeId} {by_ : Nat} {zs : List Value} (hZ : ZV P T by_ zs) : ∃ z, z.cells = zs.toArray ∧ ∀ w, (zeroValue T).run P w = .ok z w := by
  obtain ⟨i, z, h1, h2, h3, _⟩ := hZ.eq
  exact ⟨z, h3, fun w => by simp [zeroValue, typeInfo, h1, h2]⟩

/-- A new variable. -/
theorem as_alloc {T : TypeId} {by_ : Nat} {zs : List Value} [hZ : ZV P T by_ zs] {k : Nat} {ds : List D} (ho : o.op = .alloc T) (hd : ZAs ds zs) :
    AS P G wr o ρ A (.box A.o.length 0) ((A.tags k).push (.cells ds)) := by
  intro g l Prot w a hr hops K Q hk
  obtain ⟨z, h1, h2⟩ := zv_run hZ
  unfold Oper.wp
  have hrun : (execOp a.eval o).run P w = .ok (.value (.pointer (some ⟨w.heap.size, 0, none⟩))) (w.alloc (.cells zs.toArray T)) := by
    simp [execOp, ho, Instr.alloc, h2, newVar, newRow, h1]
  rw [hrun]
  have hl := (hr.tags k).alloc_local (.cells zs.toArray T) (.cells ds) (by
    simp only [Holds]
    exact ⟨zs, [], T, (0, 0), by simpa using heap_alloc_at w _, hd.rep, fun _ _ => by simp⟩)
  exact hk g _ _ _ (Fr.alloc hr _) hl.2 hl.1 (by simp only [rep]; exact ⟨w.heap.size, by simp [Lo.push, AH.tags], rfl⟩)

theorem as_box {T : TypeId} {x : Operand} {d : D} (ho : o.op = .box T x) (hx : ρ x = d) (h1 : oneL (partsD d) = true) :
    AS P G wr o ρ A (.box A.o.length 0) (A.push (.cells (partsD d))) := by
  intro g l Prot w a hr hops K Q hk
  have hx0 := hops x (by simp [ho, Op.operands])
  rw [hx] at hx0
  obtain ⟨hp, _⟩ := rep_parts hx0 h1
  unfold Oper.wp
  have hrun : (execOp a.eval o).run P w = .ok (.value (.pointer (some ⟨w.heap.size, 0, none⟩))) (w.alloc (.cells (a.eval x).cells T)) := by
    simp [execOp, ho, Instr.box, newVar, newRow]
  rw [hrun]
  have hle : l.le (l.push A.o.length w.heap.size) := Lo.le_push (hr.locN _ (Nat.le_refl _))
  have hl := hr.alloc_local (.cells (a.eval x).cells T) (.cells (partsD d)) (by
    simp only [Holds]
    exact ⟨(a.eval x).cells.toList, [], T, (0, 0), by simpa using heap_alloc_at w _, repL_mono (Gh.le.refl _) _ hle hp, fun _ _ => by simp⟩)
  exact hk g _ _ _ (Fr.alloc hr _) hl.2 hl.1 (by simp only [rep]; exact ⟨w.heap.size, by simp [Lo.push], rfl⟩)

/-- The same among the shared objects: its number is any that is free. -/
theorem fresh_share (hr : Rel P G g l A wr Prot w) : ∃ k, g.κ k = none ∧ A.h k = none := by
  obtain ⟨n, hn⟩ := hr.shN
  refine ⟨n, hn n (Nat.le_refl _), ?_⟩
  cases h : A.h n with
  | none => rfl
  | some cs => obtain ⟨b, _, _, h1, _⟩ := hr.sh n cs h; rw [hn n (Nat.le_refl _)] at h1; cases h1

theorem ao_allocH {T : TypeId} {by_ : Nat} {zs : List Value} [hZ : ZV P T by_ zs] {Kv : D → AH → Prop} (ho : o.op = .alloc T) (hK : ∀ k, A.h k = none → Kv (.hp k 0) (A.hset k (zs.map .sc))) : AOp P G wr o ρ A Kv := by
  intro g l Prot w a hr hops K Q hk
  obtain ⟨z, h1, h2⟩ := zv_run hZ
  obtain ⟨k, h3, h4⟩ := fresh_share hr
  unfold Oper.wp
  have hrun : (execOp a.eval o).run P w = .ok (.value (.pointer (some ⟨w.heap.size, 0, none⟩))) (w.alloc (.cells zs.toArray T)) := by
    simp [execOp, ho, Instr.alloc, h2, newVar, newRow, h1]
  rw [hrun]
  have hs := hr.alloc_shared h3 zs T (zs.map .sc) (repL_sc zs)
  exact hk _ _ (g.share k w.heap.size) l _ _ (hK k h4) hs.2 (Lo.le.refl _) hs.1 (by simp only [rep]; exact ⟨w.heap.size, by simp [Gh.share], rfl⟩)

theorem ao_boxH {T : TypeId} {x : Operand} {d : D} {Kv : D → AH → Prop} (ho : o.op = .box T x) (hx : ρ x = d) (h1 : oneL (partsD d) = true) (he : ext d = true) (hK : ∀ k, A.h k = none → Kv (.hp k 0) (A.hset k (partsD d))) : AOp P G wr o ρ A Kv := by
  intro g l Prot w a hr hops K Q hk
  have hx0 := hops x (by simp [ho, Op.operands])
  rw [hx] at hx0
  obtain ⟨hp, _⟩ := rep_parts (rep_ext d he hx0) h1
  obtain ⟨k, h3, h4⟩ := fresh_share hr
  unfold Oper.wp
  have hrun : (execOp a.eval o).run P w = .ok (.value (.pointer (some ⟨w.heap.size, 0, none⟩))) (w.alloc (.cells (a.eval x).cells T)) := by
    simp [execOp, ho, Instr.box, newVar, newRow]
  rw [hrun]
  have hs := hr.alloc_shared h3 (a.eval x).cells.toList T (partsD d) (repL_mono (Gh.le_share h3) _ (Lo.le.refl _) hp)
  simp only [Array.toArray_toList] at hs
  exact hk _ _ (g.share k w.heap.size) l _ _ (hK k h4) hs.2 (Lo.le.refl _) hs.1 (by simp only [rep]; exact ⟨w.heap.size, by simp [Gh.share], rfl⟩)

/-- The same, sealed: never written again. -/
theorem q_boxPin {S : AH → Prop} {T : TypeId} {x : Operand} {d : D} (ho : o.op = .box T x) (hx : ρ x = d) (h1 : oneL (partsD d) = true) (he : ext d = true) : AQ P G wr o ρ S (.pin (partsD d) 0) := by
  intro g l Prot w a A hS hr hops K Q hk
  have hx0 := hops x (by simp [ho, Op.operands])
  rw [hx] at hx0
  obtain ⟨hp, hone⟩ := rep_parts (rep_ext d he hx0) h1
  unfold Oper.wp
  have hrun : (execOp a.eval o).run P w = .ok (.value (.pointer (some ⟨w.heap.size, 0, none⟩))) (w.alloc (.cells (a.eval x).cells T)) := by
    simp [execOp, ho, Instr.box, newVar, newRow]
  rw [hrun]
  obtain ⟨h2, h3⟩ := hr.alloc_sealed (a.eval x).cells.toList [] T (0, 0)
  simp only [List.append_nil, Array.toArray_toList] at h2 h3
  exact hk _ _ _ h3 h2 (by simp only [rep]; exact ⟨_, 0, rfl, repS_sealed (repL_mono h3.le _ (Lo.le.refl _) hp) hone⟩)

/-- A nil slice, taken as a row that will grow. -/
theorem as_nil {x : Operand} {e : TypeId} (ho : o.op = .assign x ∨ o.op = .move x) (hx : ρ x = .sc (.slice none 0 0)) : AS P G wr o ρ A (.gs A.ln e [] 0) (A.tags 1) := by
  intro g l Prot w a hr hops K Q hk
  have hx0 := hops x (by rcases ho with ho | ho <;> simp [ho, Op.operands])
  rw [hx] at hx0
  simp only [rep] at hx0
  unfold Oper.wp
  have hrun : (execOp a.eval o).run P w = .ok (.value (.slice none 0 0)) w := by rcases ho with ho | ho <;> simp [execOp, ho, hx0]
  rw [hrun]
  exact hk g l w _ (Fr.refl _ _ _) (Lo.le.refl _) (hr.tags 1) (by simp [rep])

end
end Go.Abs
