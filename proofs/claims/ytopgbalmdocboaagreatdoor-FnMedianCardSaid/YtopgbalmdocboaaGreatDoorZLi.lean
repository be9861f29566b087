/- Walks of the functions, printed by program, and the logic behind them: each theorem says what one function or one step answers. -/
import Derived.Test.YtopgbalmdocboaaGreatDoorZAbs3
import Derived.LaidEqlPtr
import Derived.Laws.Pointers
namespace Go.Abs
set_option linter.unusedVariables false
set_option linter.unusedSimpArgs false

def Heap.get (h : Heap) (k off : Nat) : Option D := (h k).bind fun cs => cs[off]?
def Heap.len (h : Heap) (k : Nat) : Option Nat := (h k).map List.length
def Heap.put (h : Heap) (k off : Nat) (d : D) : Heap := fun i => if i = k then (h k).map fun cs => splice cs off [d] else h i

theorem len_put (h : Heap) (k off : Nat) (d : D) (hk : ∀ n, h.len k = some n → off < n) (i : Nat) : (h.put k off d).len i = h.len i := by
  unfold Heap.len Heap.put
  by_cases e : i = k
  · subst e
    simp only [if_true]
    cases hc : h i with
    | none => rfl
    | some cs =>
      simp only [Option.map_some]
      have := hk cs.length (by simp [Heap.len, hc])
      rw [length_splice (by simp; omega)]
  · simp [e]
theorem get_put_same (h : Heap) (k off : Nat) (d : D) {n : Nat} (hk : h.len k = some n) (ho : off < n) : (h.put k off d).get k off = some d := by
  unfold Heap.len at hk
  cases hc : h k with
  | none => rw [hc] at hk; cases hk
  | some cs =>
    rw [hc] at hk; simp at hk
    have hm : (cs.take off).length = off := by simp; omega
    simp only [Heap.get, Heap.put, if_true, hc, Option.map_some, Option.bind_some, splice]
    rw [List.append_assoc, List.getElem?_append_right (by omega), hm, Nat.sub_self]
    rfl
theorem get_put_off (h : Heap) (k off : Nat) (d : D) {n : Nat} (hk : h.len k = some n) (ho : off < n) {i o : Nat} (hne : ¬ (i = k ∧ o = off)) : (h.put k off d).get i o = h.get i o := by
  unfold Heap.get Heap.put
  by_cases e : i = k
  · subst e
    have hne' : o ≠ off := fun e => hne ⟨rfl, e⟩
    simp only [if_true]
    cases hc : h i with
    | none => rfl
    | some cs =>
      have hl : cs.length = n := by simpa [Heap.len, hc] using hk
      simp only [Option.map_some, Option.bind_some, splice, List.length_cons, List.length_nil]
      rcases Nat.lt_or_ge o off with h1 | h1
      · rw [List.append_assoc, List.getElem?_append_left (by simp; omega), List.getElem?_take, if_pos h1]
      · rw [List.getElem?_append_right (by simp; omega), List.getElem?_drop]
        congr 1
        simp; omega
  · simp [e]

section
variable {P : Program} {G : Nat → D} {A A' : AH} {wr : Bool} {o : Oper} {ρ : Operand → D} {S : AH → Prop}

theorem q_loadH {T : TypeId} [hT : TI P T false 1] {x : Operand} {k off : Nat} {d : D} (ho : o.op = .load T x) (hx : ρ x = .hp k off) (hg : Heap.get A.h k off = some d) : AQ P G wr o ρ (ExtA A) d :=
  q_load ho hx (by
    unfold Heap.get at hg
    cases hc : A.h k with
    | none => rw [hc] at hg; cases hg
    | some cs => rw [hc] at hg; simp only [loadD, cellsAt, hc, takeAt, cond_false]; exact hg)

theorem as_storeP {T : TypeId} [hT : TI P T false 1] {x y : Operand} {k off n : Nat} {d : D} (ho : o.op = .store T x y) (hx : ρ x = .hp k off) (hy : ρ y = d) (hl : Heap.len A.h k = some n) (hlt : off < n) (hp : partsD d = [d]) (h1 : oneD d = true) (he : ext d = true) :
    AS P G true o ρ A (.sc undef) { A with h := Heap.put A.h k off d } := by
  unfold Heap.len at hl
  cases hc : A.h k with
  | none => rw [hc] at hl; cases hl
  | some cs =>
    rw [hc] at hl; simp at hl
    have := as_storeH (P := P) (G := G) (T := T) (agg := false) (sz := 1) ho hx hy hc (by rw [hp]; rfl) (by rw [hp]; simp [oneL, h1]) he (by omega)
    rw [hp] at this
    have e : A.hset k (splice cs off [d]) = { A with h := Heap.put A.h k off d } := by
      simp only [AH.hset]
      congr 1
      funext i
      by_cases e : i = k
      · subst e; simp [Heap.put, hc]
      · simp [Heap.put, e]
    rw [← e]; exact this

def isPtr : D → Bool
  | .box .. | .hp .. | .pin .. => true
  | _ => false
theorem ptr_some {g : Gh} {l : Lo} {d : D} {v : Value} (hs : isPtr d = true) (h : rep g l d v) : ∃ ad, v = .pointer (some ad) := by
  cases d <;> simp [isPtr] at hs <;> simp only [rep] at h
  · obtain ⟨b, _, h⟩ := h; exact ⟨_, h⟩
  · obtain ⟨b, _, h⟩ := h; exact ⟨_, h⟩
  · obtain ⟨b, _, h, _⟩ := h; exact ⟨_, h⟩
theorem guard_ptr {op : BinOp} {T : TypeId} {x y : Operand} {a b : Option Addr} (w : World) : (eqGuard op T x y (.pointer a) (.pointer b)).run P w = .ok () w := by
  unfold eqGuard; cases op <;> rfl

/-- A pointer held against nil. -/
theorem q_ptrNilE {T U te : TypeId} {x y : Operand} {d : D} [hT : UN P T (.pointer te)] (ho : o.op = .binOp .eql T x y U) (hx : ρ x = d) (hs : isPtr d = true) (hy : ρ y = .sc (.pointer none)) : AQ P G wr o ρ S (.sc (.bool false)) :=
  AQ.run fun g l _ w a A _ hr hops => by
    have hx0 := hops x (by simp [ho, Op.operands])
    have hy0 := hops y (by simp [ho, Op.operands])
    rw [hx] at hx0; rw [hy] at hy0
    have hy1 : a.eval y = .pointer none := by simpa [rep] using hy0
    obtain ⟨ad, hx1⟩ := ptr_some hs hx0
    have hp : P.underlying T = some (.pointer (P.pointee T)) := by simp [Program.pointee, hT.eq]
    refine ⟨.bool false, ?_, by simp only [rep]⟩
    simp only [execOp, ho, hx1, hy1, Sem.run_bind, run_eql_pointer_nil w T _ hp, guard_ptr, Result.andThen_ok, Sem.run_pure]
    rfl
theorem q_ptrNilN {T U te : TypeId} {x y : Operand} {d : D} [hT : UN P T (.pointer te)] (ho : o.op = .binOp .neq T x y U) (hx : ρ x = d) (hs : isPtr d = true) (hy : ρ y = .sc (.pointer none)) : AQ P G wr o ρ S (.sc (.bool true)) :=
  AQ.run fun g l _ w a A _ hr hops => by
    have hx0 := hops x (by simp [ho, Op.operands])
    have hy0 := hops y (by simp [ho, Op.operands])
    rw [hx] at hx0; rw [hy] at hy0
    have hy1 : a.eval y = .pointer none := by simpa [rep] using hy0
    obtain ⟨ad, hx1⟩ := ptr_some hs hx0
    have hp : P.underlying T = some (.pointer (P.pointee T)) := by simp [Program.pointee, hT.eq]
    refine ⟨.bool true, ?_, by simp only [rep]⟩
    simp only [execOp, ho, hx1, hy1, Sem.run_bind, run_neq_pointer_nil w T _ hp, guard_ptr, Result.andThen_ok, Sem.run_pure]
    rfl
theorem q_nilNil {op : BinOp} {T U te : TypeId} {x y : Operand} [hT : UN P T (.pointer te)] (hop : op = .eql ∨ op = .neq) (ho : o.op = .binOp op T x y U) (hx : ρ x = .sc (.pointer none)) (hy : ρ y = .sc (.pointer none)) : AQ P G wr o ρ S (.sc (.bool (decide (op = .eql)))) :=
  q_bin ho hx hy guard_ptr fun w => by
    have hp : P.underlying T = some (.pointer (P.pointee T)) := by simp [Program.pointee, hT.eq]
    rcases hop with rfl | rfl
    · rw [run_eql_pointer_nil w T _ hp]; rfl
    · rw [run_neq_pointer_nil w T _ hp]; rfl

/-- Pointers to shared objects compared. -/
theorem ptr_cmp {T te : TypeId} {k k' f f' : Nat} {ji : TypeInfo} {g : Gh} {l : Lo} {Prot : Nat → Prop} {w : World} {A' : AH} (hT : P.underlying T = some (.pointer te)) (hi : P.info? te = some ji) (hsz : ji.size ≠ 0) (hr : Rel P G g l A' wr Prot w) {u v : Value}
    (hx : rep g l (.hp k f) u) (hy : rep g l (.hp k' f') v) (h1 : (A'.h k).isSome = true) (h2 : (A'.h k').isSome = true) :
    (∃ a, u = .pointer (some a)) ∧ (∃ a, v = .pointer (some a)) ∧ (binOp .eql T u v).run P w = .ok (.bool (decide (k = k' ∧ f = f'))) w ∧ (binOp .neq T u v).run P w = .ok (.bool (!decide (k = k' ∧ f = f'))) w := by
  simp only [rep] at hx hy
  obtain ⟨b, hb, rfl⟩ := hx
  obtain ⟨b', hb', rfl⟩ := hy
  obtain ⟨cs, hc⟩ := Option.isSome_iff_exists.1 h1
  obtain ⟨cs', hc'⟩ := Option.isSome_iff_exists.1 h2
  obtain ⟨c, vs, t, hk, _, hh, _⟩ := hr.sh k _ hc
  obtain ⟨c', vs', t', hk', _, hh', _⟩ := hr.sh k' _ hc'
  rw [hb] at hk; cases hk
  rw [hb'] at hk'; cases hk'
  have hrun : (binOp .eql T (.pointer (some ⟨b, f, none⟩)) (.pointer (some ⟨b', f', none⟩))).run P w = .ok (.bool (decide (k = k' ∧ f = f'))) w := by
    by_cases e : k = k' ∧ f = f'
    · obtain ⟨rfl, rfl⟩ := e
      rw [hb] at hb'; cases hb'
      rw [run_eql_ptr_same w _ hT hi]
      simp
    · rw [run_eql_ptr_other w hT hi hsz (fun ea => e ?_) hh hh']
      · simp [e]
      · cases ea; exact ⟨hr.shInj _ _ _ hb hb', rfl⟩
  refine ⟨⟨_, rfl⟩, ⟨_, rfl⟩, hrun, ?_⟩
  simp only [binOp, Sem.run_bind] at hrun ⊢
  cases hq : (Op.equal T (.pointer (some ⟨b, f, none⟩)) (.pointer (some ⟨b', f', none⟩))).run P w with
  | ok r w' =>
    rw [hq] at hrun
    simp at hrun ⊢
    exact ⟨by rw [hrun.1], hrun.2⟩
  | halt h w' => rw [hq] at hrun; simp at hrun
theorem q_ptrN {T U te : TypeId} {x y : Operand} {k k' f f' : Nat} {ji : TypeInfo} [hT : UN P T (.pointer te)] (ho : o.op = .binOp .neq T x y U) (hx : ρ x = .hp k f) (hy : ρ y = .hp k' f') (hi : P.info? te = some ji) (hsz : ji.size ≠ 0)
    (h1 : (A.h k).isSome = true) (h2 : (A.h k').isSome = true) : AQ P G wr o ρ (ExtA A) (.sc (.bool (!decide (k = k' ∧ f = f')))) :=
  AQ.run fun g l _ w a A' he hr hops => by
    have hx0 := hops x (by simp [ho, Op.operands])
    have hy0 := hops y (by simp [ho, Op.operands])
    rw [hx] at hx0; rw [hy] at hy0
    obtain ⟨⟨_, e1⟩, ⟨_, e2⟩, _, h3⟩ := ptr_cmp hT.eq hi hsz hr hx0 hy0 (by rw [he.h]; exact h1) (by rw [he.h]; exact h2)
    refine ⟨.bool (!decide (k = k' ∧ f = f')), ?_, by simp only [rep]⟩
    rw [e1, e2] at h3
    simp only [execOp, ho, e1, e2, Sem.run_bind, h3, guard_ptr, Result.andThen_ok, Sem.run_pure]
end
end Go.Abs
namespace Go.Abs
set_option linter.unusedVariables false
set_option linter.unusedSimpArgs false

/-- The blocks of a list in their round: the list's own, its elements', the list's own. -/
def ring (k : Nat) (ks : List Nat) (i : Nat) : Nat := if i = 0 then k else ks.getD (i - 1) k

structure IsList (h : Heap) (k : Nat) (es : List (Nat × D)) : Prop where
  klen : Heap.len h k = some 5
  elen : ∀ p ∈ es, Heap.len h p.1 = some 4
  next : ∀ i, i ≤ es.length → Heap.get h (ring k (es.map (·.1)) i) 0 = some (.hp (ring k (es.map (·.1)) (i + 1)) 0)
  prev : ∀ i, i ≤ es.length → Heap.get h (ring k (es.map (·.1)) (i + 1)) 1 = some (.hp (ring k (es.map (·.1)) i) 0)
  list : ∀ p ∈ es, Heap.get h p.1 2 = some (.hp k 0)
  val : ∀ p ∈ es, Heap.get h p.1 3 = some p.2
  n : Heap.get h k 4 = some (i64 es.length)
  nodup : (k :: es.map (·.1)).Nodup

theorem ring_zero (k : Nat) (ks : List Nat) : ring k ks 0 = k := rfl
theorem ring_at {k : Nat} {ks : List Nat} {i : Nat} (h : i < ks.length) : ring k ks (i + 1) = ks[i] := by simp [ring, h]
theorem ring_end (k : Nat) (ks : List Nat) {n : Nat} (h : ks.length = n) : ring k ks (n + 1) = k := by subst h; simp [ring]
theorem ring_snoc {k : Nat} {ks : List Nat} {e i : Nat} (h : i ≤ ks.length) : ring k (ks ++ [e]) i = ring k ks i := by
  cases i with
  | zero => rfl
  | succ i => rw [ring_at (by simp; omega), ring_at (by omega), List.getElem_append_left]
theorem ring_last (k : Nat) (ks : List Nat) (e : Nat) {n : Nat} (h : ks.length = n) : ring k (ks ++ [e]) (n + 1) = e := by
  subst h
  rw [ring_at (by simp)]; simp
theorem ring_mem {k : Nat} {ks : List Nat} {i : Nat} (h : i ≤ ks.length) : ring k ks i ∈ k :: ks := by
  cases i with
  | zero => simp [ring]
  | succ i => rw [ring_at (by omega)]; simp
theorem ring_inj {k : Nat} {ks : List Nat} (hn : (k :: ks).Nodup) {i j : Nat} (hi : i ≤ ks.length) (hj : j ≤ ks.length) (h : ring k ks i = ring k ks j) : i = j := by
  have at_ : ∀ {i}, i ≤ ks.length → (k :: ks)[i]? = some (ring k ks i) := fun {i} hi => by
    cases i with
    | zero => rfl
    | succ i => rw [ring_at (by omega)]; simp
  have h1 : i < (k :: ks).length := by simp; omega
  exact (List.getElem?_inj h1 hn).1 (by rw [at_ hi, at_ hj, h])

theorem IsList.len {h : Heap} {k : Nat} {es : List (Nat × D)} (H : IsList h k es) {i : Nat} (hi : i ≤ es.length) : ∃ n, Heap.len h (ring k (es.map (·.1)) i) = some n ∧ 4 ≤ n := by
  have := ring_mem (k := k) (ks := es.map (·.1)) (i := i) (by simpa using hi)
  rcases List.mem_cons.1 this with e | e
  · rw [e]; exact ⟨5, H.klen, by omega⟩
  · obtain ⟨p, hp, e⟩ := List.mem_map.1 e
    rw [← e]; exact ⟨4, H.elen p hp, Nat.le_refl _⟩

/-- What insert writes behind the last element. -/
def insBack (h : Heap) (k a e n : Nat) : Heap :=
  Heap.put (Heap.put (Heap.put (Heap.put (Heap.put (Heap.put h e 1 (.hp a 0)) e 0 (.hp k 0)) a 0 (.hp e 0)) k 1 (.hp e 0)) e 2 (.hp k 0)) k 4 (i64 (n + 1 : Nat))

theorem insBack_isList {h : Heap} {k : Nat} {es : List (Nat × D)} (H : IsList h k es) {e : Nat} {v : D} (he : Heap.len h e = some 4) (hv : Heap.get h e 3 = some v) (hne : e ∉ k :: es.map (·.1)) :
    IsList (insBack h k (ring k (es.map (·.1)) es.length) e es.length) k (es ++ [(e, v)]) := by
  have hks : (es.map (·.1)).length = es.length := by simp
  obtain ⟨na, hna, hna4⟩ := H.len (Nat.le_refl es.length)
  generalize hks' : es.map (·.1) = ks at *
  generalize ha : ring k ks es.length = a at *
  have hek : e ≠ k := fun h => hne (by simp [h])
  have hamem : a ∈ k :: ks := by rw [← ha]; exact ring_mem (by omega)
  have hea : e ≠ a := fun h => hne (h ▸ hamem)
  -- lengths stay
  have L : ∀ i, Heap.len (insBack h k a e es.length) i = Heap.len h i := by
    intro i
    have l1 : ∀ i, Heap.len (Heap.put h e 1 (.hp a 0)) i = Heap.len h i := fun i => len_put _ _ _ _ (fun n hn => by rw [he] at hn; cases hn; omega) i
    have l2 : ∀ i, Heap.len (Heap.put (Heap.put h e 1 (.hp a 0)) e 0 (.hp k 0)) i = Heap.len h i := fun i => (len_put _ _ _ _ (fun n hn => by rw [l1, he] at hn; cases hn; omega) i).trans (l1 i)
    have l3 : ∀ i, Heap.len (Heap.put (Heap.put (Heap.put h e 1 (.hp a 0)) e 0 (.hp k 0)) a 0 (.hp e 0)) i = Heap.len h i := fun i => (len_put _ _ _ _ (fun n hn => by rw [l2, hna] at hn; cases hn; omega) i).trans (l2 i)
    have l4 : ∀ i, Heap.len (Heap.put (Heap.put (Heap.put (Heap.put h e 1 (.hp a 0)) e 0 (.hp k 0)) a 0 (.hp e 0)) k 1 (.hp e 0)) i = Heap.len h i := fun i => (len_put _ _ _ _ (fun n hn => by rw [l3, H.klen] at hn; cases hn; omega) i).trans (l3 i)
    have l5 : ∀ i, Heap.len (Heap.put (Heap.put (Heap.put (Heap.put (Heap.put h e 1 (.hp a 0)) e 0 (.hp k 0)) a 0 (.hp e 0)) k 1 (.hp e 0)) e 2 (.hp k 0)) i = Heap.len h i := fun i => (len_put _ _ _ _ (fun n hn => by rw [l4, he] at hn; cases hn; omega) i).trans (l4 i)
    exact (len_put _ _ _ _ (fun n hn => by rw [l5, H.klen] at hn; cases hn; omega) i).trans (l5 i)
  have put : ∀ (h' : Heap) (b off n : Nat) (d : D), Heap.len h' b = some n → off < n → ∀ i o, Heap.get (Heap.put h' b off d) i o = if i = b ∧ o = off then some d else Heap.get h' i o := fun h' b off n d hl ho i o => by
    by_cases c : i = b ∧ o = off
    · rw [if_pos c]; obtain ⟨rfl, rfl⟩ := c; exact get_put_same h' _ _ d hl ho
    · rw [if_neg c]; exact get_put_off h' b off d hl ho c
  have lp : ∀ (h' : Heap) (b off n : Nat) (d : D), Heap.len h' b = some n → off < n → ∀ i, Heap.len (Heap.put h' b off d) i = Heap.len h' i := fun h' b off n d hl ho i => len_put h' b off d (fun m hm => by rw [hl] at hm; cases hm; exact ho) i
  have GG : ∀ i o, Heap.get (insBack h k a e es.length) i o = if i = k ∧ o = 4 then some (i64 (es.length + 1 : Nat)) else if i = e ∧ o = 2 then some (.hp k 0) else if i = k ∧ o = 1 then some (.hp e 0) else
      if i = a ∧ o = 0 then some (.hp e 0) else if i = e ∧ o = 0 then some (.hp k 0) else if i = e ∧ o = 1 then some (.hp a 0) else Heap.get h i o := by
    intro i o
    unfold insBack
    have e1 := lp h e 1 4 (.hp a 0) he (by omega)
    have e2 := lp (Heap.put h e 1 (.hp a 0)) e 0 4 (.hp k 0) (by rw [e1]; exact he) (by omega)
    have e3 := lp _ a 0 na (.hp e 0) (show Heap.len (Heap.put (Heap.put h e 1 (.hp a 0)) e 0 (.hp k 0)) a = some na by rw [e2, e1]; exact hna) (by omega)
    have e4 := lp _ k 1 5 (.hp e 0) (show Heap.len (Heap.put (Heap.put (Heap.put h e 1 (.hp a 0)) e 0 (.hp k 0)) a 0 (.hp e 0)) k = some 5 by rw [e3, e2, e1]; exact H.klen) (by omega)
    have e5 := lp _ e 2 4 (.hp k 0) (show Heap.len (Heap.put (Heap.put (Heap.put (Heap.put h e 1 (.hp a 0)) e 0 (.hp k 0)) a 0 (.hp e 0)) k 1 (.hp e 0)) e = some 4 by rw [e4, e3, e2, e1]; exact he) (by omega)
    rw [put _ k 4 5 _ (by rw [e5, e4, e3, e2, e1]; exact H.klen) (by omega), put _ e 2 4 _ (by rw [e4, e3, e2, e1]; exact he) (by omega), put _ k 1 5 _ (by rw [e3, e2, e1]; exact H.klen) (by omega),
      put _ a 0 na _ (by rw [e2, e1]; exact hna) (by omega), put _ e 0 4 _ (by rw [e1]; exact he) (by omega), put _ e 1 4 _ he (by omega)]
  have hmap : (es ++ [(e, v)]).map (·.1) = ks ++ [e] := by rw [List.map_append, hks']; rfl
  have hlen : (es ++ [(e, v)]).length = es.length + 1 := by simp
  have rne : ∀ i, i ≤ ks.length → ring k ks i ≠ e := fun i hi h => hne (h ▸ ring_mem hi)
  have hnd : (k :: ks).Nodup := hks' ▸ H.nodup
  have Hnext : ∀ i, i ≤ es.length → Heap.get h (ring k ks i) 0 = some (.hp (ring k ks (i + 1)) 0) := hks' ▸ H.next
  have Hprev : ∀ i, i ≤ es.length → Heap.get h (ring k ks (i + 1)) 1 = some (.hp (ring k ks i) 0) := hks' ▸ H.prev
  refine ⟨by rw [L]; exact H.klen, fun p hp => ?_, fun i hi => ?_, fun i hi => ?_, fun p hp => ?_, fun p hp => ?_, ?_, ?_⟩
  · rw [L]
    rcases List.mem_append.1 hp with hp | hp
    · exact H.elen p hp
    · simp at hp; subst hp; exact he
  · rw [hmap]
    rw [hlen] at hi
    rcases Nat.lt_or_ge i es.length with h1 | h1
    · rw [ring_snoc (by omega), ring_snoc (by omega), GG]
      have n1 : ¬ ring k ks i = a := fun h => by
        have := ring_inj hnd (by omega) (by omega) (h.trans ha.symm); omega
      have n2 := rne i (by omega)
      simp only [show ¬ (0 = 4) by omega, show ¬ (0 = 2) by omega, show ¬ (0 = 1) by omega, and_false, if_false, n1, n2, false_and]
      exact Hnext i (by omega)
    · rcases Nat.eq_or_lt_of_le h1 with h2 | h2
      · subst h2
        rw [ring_snoc (by omega), ring_last k ks e hks, GG, ha]
        simp
      · have : i = es.length + 1 := by omega
        subst this
        rw [ring_last k ks e hks, ring_end k (ks ++ [e]) (n := es.length + 1) (by simp [hks]), GG]
        simp [hea, hek]
  · rw [hmap]
    rw [hlen] at hi
    rcases Nat.lt_or_ge i es.length with h1 | h1
    · rw [ring_snoc (by omega), ring_snoc (by omega), GG]
      have n1 : ¬ ring k ks (i + 1) = k := fun h => by
        have := ring_inj hnd (j := 0) (by omega) (by omega) (h.trans (ring_zero k ks).symm); omega
      have n2 := rne (i + 1) (by omega)
      simp only [show ¬ (1 = 4) by omega, show ¬ (1 = 2) by omega, show ¬ (1 = 0) by omega, and_false, if_false, n1, n2, false_and]
      exact Hprev i (by omega)
    · rcases Nat.eq_or_lt_of_le h1 with h2 | h2
      · subst h2
        rw [ring_last k ks e hks, ring_snoc (i := es.length) (by omega), GG, ha]
        simp [hek, hea]
      · have : i = es.length + 1 := by omega
        subst this
        rw [ring_last k ks e hks, ring_end k (ks ++ [e]) (n := es.length + 1) (by simp [hks]), GG]
        simp [Ne.symm hek]
  · rw [GG]
    rcases List.mem_append.1 hp with hp | hp
    · have m1 : p.1 ∈ ks := by rw [← hks']; exact List.mem_map.2 ⟨p, hp, rfl⟩
      have n1 : p.1 ≠ e := fun h => hne (by rw [← h]; simp [m1])
      simp [n1]; exact H.list p hp
    · simp at hp; subst hp; simp [hek]
  · rw [GG]
    rcases List.mem_append.1 hp with hp | hp
    · have m1 : p.1 ∈ ks := by rw [← hks']; exact List.mem_map.2 ⟨p, hp, rfl⟩
      simp; exact H.val p hp
    · simp at hp; subst hp; simp; exact hv
  · rw [GG, hlen]; simp
  · rw [hmap]
    rw [← List.cons_append, List.nodup_append]
    exact ⟨hnd, by simp, fun x hx y hy => by simp at hy; subst hy; exact fun h => hne (h ▸ hx)⟩

theorem len_put' {h : Heap} {b off n : Nat} {d : D} (hl : Heap.len h b = some n) (ho : off < n) (i : Nat) : Heap.len (Heap.put h b off d) i = Heap.len h i :=
  len_put h b off d (fun m hm => by rw [hl] at hm; cases hm; exact ho) i
theorem get_put {h : Heap} {b off n : Nat} {d : D} (hl : Heap.len h b = some n) (ho : off < n) (i o : Nat) : Heap.get (Heap.put h b off d) i o = if i = b ∧ o = off then some d else Heap.get h i o := by
  by_cases c : i = b ∧ o = off
  · rw [if_pos c]; obtain ⟨rfl, rfl⟩ := c; exact get_put_same h _ _ d hl ho
  · rw [if_neg c]; exact get_put_off h b off d hl ho c
theorem initList {h : Heap} {k : Nat} (hk : Heap.len h k = some 5) : IsList (Heap.put (Heap.put (Heap.put h k 0 (.hp k 0)) k 1 (.hp k 0)) k 4 (i64 0)) k [] := by
  have l1 := fun d => len_put' (d := d) hk (show 0 < 5 by omega)
  have l2 := fun d => len_put' (h := Heap.put h k 0 (.hp k 0)) (d := d) ((l1 _ k).trans hk) (show 1 < 5 by omega)
  have l3 := fun d => len_put' (h := Heap.put (Heap.put h k 0 (.hp k 0)) k 1 (.hp k 0)) (d := d) ((l2 _ k).trans ((l1 _ k).trans hk)) (show 4 < 5 by omega)
  have GG : ∀ i o, Heap.get (Heap.put (Heap.put (Heap.put h k 0 (.hp k 0)) k 1 (.hp k 0)) k 4 (i64 0)) i o = if i = k ∧ o = 4 then some (i64 0) else if i = k ∧ o = 1 then some (.hp k 0) else if i = k ∧ o = 0 then some (.hp k 0) else Heap.get h i o := fun i o => by
    rw [get_put ((l2 _ k).trans ((l1 _ k).trans hk)) (by omega), get_put ((l1 _ k).trans hk) (by omega), get_put hk (by omega)]
  refine ⟨by rw [l3, l2, l1]; exact hk, fun p hp => (by cases hp), fun i hi => ?_, fun i hi => ?_, fun p hp => (by cases hp), fun p hp => (by cases hp), ?_, by simp⟩
  · have : i = 0 := by simpa using hi
    subst this
    rw [GG]; simp [ring]
  · have : i = 0 := by simpa using hi
    subst this
    rw [GG]; simp [ring]
  · rw [GG]; simp

theorem IsList.fresh {h : Heap} {k : Nat} {es : List (Nat × D)} (H : IsList h k es) {e : Nat} (he : h e = none) : e ∉ k :: es.map (·.1) := fun hm => by
  rcases List.mem_cons.1 hm with rfl | hm
  · have := H.klen; simp [Heap.len, he] at this
  · obtain ⟨p, hp, rfl⟩ := List.mem_map.1 hm
    have := H.elen p hp; simp [Heap.len, he] at this
/-- A block more. -/
def Heap.add (h : Heap) (e : Nat) (cs : List D) : Heap := fun i => if i = e then some cs else h i
theorem IsList.add {h : Heap} {k : Nat} {es : List (Nat × D)} (H : IsList h k es) {e : Nat} (cs : List D) (he : h e = none) : IsList (Heap.add h e cs) k es := by
  have hf := H.fresh he
  have hg : ∀ i, i ∈ k :: es.map (·.1) → ∀ o, Heap.get (Heap.add h e cs) i o = Heap.get h i o := fun i hi o => by
    have : i ≠ e := fun x => hf (x ▸ hi)
    simp [Heap.get, Heap.add, this]
  have hl : ∀ i, i ∈ k :: es.map (·.1) → Heap.len (Heap.add h e cs) i = Heap.len h i := fun i hi => by
    have : i ≠ e := fun x => hf (x ▸ hi)
    simp [Heap.len, Heap.add, this]
  have hr : ∀ i, i ≤ es.length + 1 → ring k (es.map (·.1)) i ∈ k :: es.map (·.1) := fun i hi => by
    rcases Nat.lt_or_ge i (es.length + 1) with h1 | h1
    · exact ring_mem (by simpa using Nat.lt_succ_iff.1 h1)
    · have : i = es.length + 1 := by omega
      subst this
      rw [ring_end k (es.map (·.1)) (n := es.length) (by simp)]; simp
  have hm : ∀ p ∈ es, p.1 ∈ k :: es.map (·.1) := fun p hp => List.mem_cons_of_mem _ (List.mem_map.2 ⟨p, hp, rfl⟩)
  exact ⟨by rw [hl k (by simp)]; exact H.klen, fun p hp => by rw [hl _ (hm p hp)]; exact H.elen p hp, fun i hi => by rw [hg _ (hr i (by omega))]; exact H.next i hi, fun i hi => by rw [hg _ (hr (i + 1) (by omega))]; exact H.prev i hi,
    fun p hp => by rw [hg _ (hm p hp)]; exact H.list p hp, fun p hp => by rw [hg _ (hm p hp)]; exact H.val p hp, by rw [hg k (by simp)]; exact H.n, H.nodup⟩
theorem IsList.back {h : Heap} {k : Nat} {es : List (Nat × D)} (H : IsList h k es) : ring k (es.map (·.1)) (es.length + 1) = k := ring_end k _ (by simp)
end Go.Abs
