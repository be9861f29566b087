/-
  Linked lists among the shared objects.
-/
import Derived.Test.YtjobmjfdlkjaoaaGreatDoorZAbsL
import Derived.LaidEqlPtr
import Derived.Laws.Pointers
namespace Go.Abs
set_option linter.unusedVariables false
set_option linter.unusedSimpArgs false

def Heap.get (h : Heap) (k off : Nat) : Option D := (h k).bind fun cs => cs[off]?
def Heap.len (h : Heap) (k : Nat) : Option Nat := (h k).map List.length
def Heap.put (h : Heap) (k off : Nat) (d : D) : Heap := fun i => if i = k then (h k).map fun cs => splice cs off [d] else h i

theorem len_put (h : Heap) (k off : Nat) (d : D) (hk : ∀ n, h.len k = some n → off < n) (i : Nat) : (h.put k off d).len i = h.len i := by
  unfold Heap.len Heap.put
  by_cases e : i = k
  · subst e
    simp only [if_true]
    cases hc : h i with
    | none => rfl
    | some cs =>
      simp only [Option.map_some]
      have := hk cs.length (by simp [Heap.len, hc])
      rw [length_splice (by simp; omega)]
  · simp [e]
theorem get_put_same (h : Heap) (k off : Nat) (d : D) {n : Nat} (hk : h.len k = some n) (ho : off < n) : (h.put k off d).get k off = some d := by
  unfold Heap.len at hk
  cases hc : h k with
  | none => rw [hc] at hk; cases hk
  | some cs =>
    rw [hc] at hk; simp at hk
    have hm : (cs.take off).length = off := by simp; omega
    simp only [Heap.get, Heap.put, if_true, hc, Option.map_some, Option.bind_some, splice]
    rw [List.append_assoc, List.getElem?_append_right (by omega), hm, Nat.sub_self]
    rfl
theorem get_put_off (h : Heap) (k off : Nat) (d : D) {n : Nat} (hk : h.len k = some n) (ho : off < n) {i o : Nat} (hne : ¬ (i = k ∧ o = off)) : (h.put k off d).get i o = h.get i o := by
  unfold Heap.get Heap.put
  by_cases e : i = k
  · subst e
    have hne' : o ≠ off := fun e => hne ⟨rfl, e⟩
    simp only [if_true]
    cases hc : h i with
    | none => rfl
    | some cs =>
      have hl : cs.length = n := by simpa [Heap.len, hc] using hk
      simp only [Option.map_some, Option.bind_some, splice, List.length_cons, List.length_nil]
      rcases Nat.lt_or_ge o off with h1 | h1
      · rw [List.append_assoc, List.getElem?_append_left (by simp; omega), List.getElem?_take, if_pos h1]
      · rw [List.getElem?_append_right (by simp; omega), List.getElem?_drop]
        congr 1
        simp; omega
  · simp [e]

section
variable {P : Program} {G : Nat → D} {A A' : AH} {wr : Bool} {o : Oper} {ρ : Operand → D} {S : AH → Prop}

theorem q_loadH {T : TypeId} [hT : TI P T false 1] {x : Operand} {k off : Nat} {d : D} (ho : o.op = .load T x) (hx : ρ x = .hp k off) (hg : Heap.get A.h k off = some d) : AQ P G wr o ρ (ExtA A) d :=
  q_load ho hx (by
    unfold Heap.get at hg
    cases hc : A.h k with
    | none => rw [hc] at hg; cases hg
    | some cs => rw [hc] at hg; simp only [loadD, cellsAt, hc, takeAt, cond_false]; exact hg)

theorem as_storeP {T : TypeId} [hT : TI P T false 1] {x y : Operand} {k off n : Nat} {d : D} (ho : o.op = .store T x y) (hx : ρ x = .hp k off) (hy : ρ y = d) (hl : Heap.len A.h k = some n) (hlt : off < n) (hp : partsD d = [d]) (h1 : oneD d = true) (he : ext d = true) :
    AS P G true o ρ A (.sc undef) { A with h := Heap.put A.h k off d } := by
  unfold Heap.len at hl
  cases hc : A.h k with
  | none => rw [hc] at hl; cases hl
  | some cs =>
    rw [hc] at hl; simp at hl
    have := as_storeH (P := P) (G := G) (T := T) (agg := false) (sz := 1) ho hx hy hc (by rw [hp]; rfl) (by rw [hp]; simp [oneL, h1]) he (by omega)
    rw [hp] at this
    have e : A.hset k (splice cs off [d]) = { A with h := Heap.put A.h k off d } := by
      simp only [AH.hset]
      congr 1
      funext i
      by_cases e : i = k
      · subst e; simp [Heap.put, hc]
      · simp [Heap.put, e]
    rw [← e]; exact this

def isPtr : D → Bool
  | .box .. | .hp .. | .pin .. => true
  | _ => false
theorem ptr_some {g : Gh} {l : Lo} {d : D} {v : Value} (hs : isPtr d = true) (h : rep g l d v) : ∃ ad, v = .pointer (some ad) := by
  cases d <;> simp [isPtr] at hs <;> simp only [rep] at h
  · obtain ⟨b, _, h⟩ := h; exact ⟨_, h⟩
  · obtain ⟨b, _, h⟩ := h; exact ⟨_, h⟩
  · obtain ⟨b, _, h, _⟩ := h; exact ⟨_, h⟩
theorem guard_ptr {op : BinOp} {T : TypeId} {x y : Operand} {a b : Option Addr} (w : World) : (eqGuard op T x y (.pointer a) (.pointer b)).run P w = .ok () w := by
  unfold eqGuard; cases op <;> rfl

/-- A pointer held against nil. -/
theorem q_ptrNilE {T U te : TypeId} {x y : Operand} {d : D} [hT : UN P T (.pointer te)] (ho : o.op = .binOp .eql T x y U) (hx : ρ x = d) (hs : isPtr d = true) (hy : ρ y = .sc (.pointer none)) : AQ P G wr o ρ S (.sc (.bool false)) :=
  AQ.run fun g l _ w a A _ hr hops => by
    have hx0 := hops x (by simp [ho, Op.operands])
    have hy0 := hops y (by simp [ho, Op.operands])
    rw [hx] at hx0; rw [hy] at hy0
    have hy1 : a.eval y = .pointer none := by simpa [rep] using hy0
    obtain ⟨ad, hx1⟩ := ptr_some hs hx0
    have hp : P.underlying T = some (.pointer (P.pointee T)) := by simp [Program.pointee, hT.eq]
    refine ⟨.bool false, ?_, by simp only [rep]⟩
    simp only [execOp, ho, hx1, hy1, Sem.run_bind, run_eql_pointer_nil w T _ hp, guard_ptr, Result.andThen_ok, Sem.run_pure]
    rfl
theorem q_ptrNilN {T U te : TypeId} {x y : Operand} {d : D} [hT : UN P T (.pointer te)] (ho : o.op = .binOp .neq T x y U) (hx : ρ x = d) (hs : isPtr d = true) (hy : ρ y = .sc (.pointer none)) : AQ P G wr o ρ S (.sc (.bool true)) :=
  AQ.run fun g l _ w a A _ hr hops => by
    have hx0 := hops x (by simp [ho, Op.operands])
    have hy0 := hops y (by simp [ho, Op.operands])
    rw [hx] at hx0; rw [hy] at hy0
    have hy1 : a.eval y = .pointer none := by simpa [rep] using hy0
    obtain ⟨ad, hx1⟩ := ptr_some hs hx0
    have hp : P.underlying T = some (.pointer (P.pointee T)) := by simp [Program.pointee, hT.eq]
    refine ⟨.bool true, ?_, by simp only [rep]⟩
    simp only [execOp, ho, hx1, hy1, Sem.run_bind, run_neq_pointer_nil w T _ hp, guard_ptr, Result.andThen_ok, Sem.run_pure]
    rfl
theorem q_nilNil {op : BinOp} {T U te : TypeId} {x y : Operand} [hT : UN P T (.pointer te)] (hop : op = .eql ∨ op = .neq) (ho : o.op = .binOp op T x y U) (hx : ρ x = .sc (.pointer none)) (hy : ρ y = .sc (.pointer none)) : AQ P G wr o ρ S (.sc (.bool (decide (op = .eql)))) :=
  q_bin ho hx hy guard_ptr fun w => by
    have hp : P.underlying T = some (.pointer (P.pointee T)) := by simp [Program.pointee, hT.eq]
    rcases hop with rfl | rfl
    · rw [run_eql_pointer_nil w T _ hp]; rfl
    · rw [run_neq_pointer_nil w T _ hp]; rfl

/-- Pointers to shared objects compared. -/
theorem ptr_cmp {T te : TypeId} {k k' f f' : Nat} {ji : TypeInfo} {g : Gh} {l : Lo} {Prot : Nat → Prop} {w : World} {A' : AH} (hT : P.underlying T = some (.pointer te)) (hi : P.info? te = some ji) (hsz : ji.size ≠ 0) (hr : Rel P G g l A' wr Prot w) {u v : Value}
    (hx : rep g l (.hp k f) u) (hy : rep g l (.hp k' f') v) (h1 : (A'.h k).isSome = true) (h2 : (A'.h k').isSome = true) :
    (∃ a, u = .pointer (some a)) ∧ (∃ a, v = .pointer (some a)) ∧ (binOp .eql T u v).run P w = .ok (.bool (decide (k = k' ∧ f = f'))) w ∧ (binOp .neq T u v).run P w = .ok (.bool (!decide (k = k' ∧ f = f'))) w := by
  simp only [rep] at hx hy
  obtain ⟨b, hb, rfl⟩ := hx
  obtain ⟨b', hb', rfl⟩ := hy
  obtain ⟨cs, hc⟩ := Option.isSome_iff_exists.1 h1
  obtain ⟨cs', hc'⟩ := Option.isSome_iff_exists.1 h2
  obtain ⟨c, vs, t, hk, _, hh, _⟩ := hr.sh k _ hc
  obtain ⟨c', vs', t', hk', _, hh', _⟩ := hr.sh k' _ hc'
  rw [hb] at hk; cases hk
  rw [hb'] at hk'; cases hk'
  have hrun : (binOp .eql T (.pointer (some ⟨b, f, none⟩)) (.pointer (some ⟨b', f', none⟩))).run P w = .ok (.bool (decide (k = k' ∧ f = f'))) w := by
    by_cases e : k = k' ∧ f = f'
    · obtain ⟨rfl, rfl⟩ := e
      rw [hb] at hb'; cases hb'
      rw [run_eql_ptr_same w _ hT hi]
      simp
    · rw [run_eql_ptr_other w hT hi hsz (fun ea => e ?_) hh hh']
      · simp [e]
      · cases ea; exact ⟨hr.shInj _ _ _ hb hb', rfl⟩
  refine ⟨⟨_, rfl⟩, ⟨_, rfl⟩, hrun, ?_⟩
  simp only [binOp, Sem.run_bind] at hrun ⊢
  cases hq : (Op.equal T (.pointer (some ⟨b, f, none⟩)) (.pointer (some ⟨b', f', none⟩))).run P w with
  | ok r w' =>
    rw [hq] at hrun
    simp at hrun ⊢
    exact ⟨by rw [hrun.1], hrun.2⟩
  | halt h w' => rw [hq] at hrun; simp at hrun
theorem q_ptrE {T U te : TypeId} {x y : Operand} {k k' f f' : Nat} {ji : TypeInfo} [hT : UN P T (.pointer te)] (ho : o.op = .binOp .eql T x y U) (hx : ρ x = .hp k f) (hy : ρ y = .hp k' f') (hi : P.info? te = some ji) (hsz : ji.size ≠ 0)
    (h1 : (A.h k).isSome = true) (h2 : (A.h k').isSome = true) : AQ P G wr o ρ (ExtA A) (.sc (.bool (decide (k = k' ∧ f = f')))) :=
  AQ.run fun g l _ w a A' he hr hops => by
    have hx0 := hops x (by simp [ho, Op.operands])
    have hy0 := hops y (by simp [ho, Op.operands])
    rw [hx] at hx0; rw [hy] at hy0
    obtain ⟨⟨_, e1⟩, ⟨_, e2⟩, h3, _⟩ := ptr_cmp hT.eq hi hsz hr hx0 hy0 (by rw [he.h]; exact h1) (by rw [he.h]; exact h2)
    refine ⟨.bool (decide (k = k' ∧ f = f')), ?_, by simp only [rep]⟩
    rw [e1, e2] at h3
    simp only [execOp, ho, e1, e2, Sem.run_bind, h3, guard_ptr, Result.andThen_ok, Sem.run_pure]
theorem q_ptrN {T U te : TypeId} {x y : Operand} {k k' f f' : Nat} {ji : TypeInfo} [hT : UN P T (.pointer te)] (ho : o.op = .binOp .neq T x y U) (hx : ρ x = .hp k f) (hy : ρ y = .hp k' f') (hi : P.info? te = some ji) (hsz : ji.size ≠ 0)
    (h1 : (A.h k).isSome = true) (h2 : (A.h k').isSome = true) : AQ P G wr o ρ (ExtA A) (.sc (.bool (!decide (k = k' ∧ f = f')))) :=
  AQ.run fun g l _ w a A' he hr hops => by
    have hx0 := hops x (by simp [ho, Op.operands])
    have hy0 := hops y (by simp [ho, Op.operands])
    rw [hx] at hx0; rw [hy] at hy0
    obtain ⟨⟨_, e1⟩, ⟨_, e2⟩, _, h3⟩ := ptr_cmp hT.eq hi hsz hr hx0 hy0 (by rw [he.h]; exact h1) (by rw [he.h]; exact h2)
    refine ⟨.bool (!decide (k = k' ∧ f = f')), ?_, by simp only [rep]⟩
    rw [e1, e2] at h3
    simp only [execOp, ho, e1, e2, Sem.run_bind, h3, guard_ptr, Result.andThen_ok, Sem.run_pure]
end
end Go.Abs
