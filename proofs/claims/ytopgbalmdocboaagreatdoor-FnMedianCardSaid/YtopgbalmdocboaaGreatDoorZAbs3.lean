/- Walks of the functions, printed by program, and the logic behind them: each theorem says what one function or one step answers. -/
import Derived.Test.YtopgbalmdocboaaGreatDoorZAbs2
import Derived.Laws.IdiomStrings
namespace Go.Abs
set_option linter.unusedVariables false
set_option linter.unusedSimpArgs false
section
variable {P : Program} {G : Nat → D} {g g' : Gh} {l l' : Lo} {A A' : AH} {wr : Bool} {Prot : Nat → Prop} {w w' : World} {N : Nat} {o : Oper} {ρ : Operand → D} {S : AH → Prop}

theorem heap_drew_alloc (w : World) (o : Obj) : (w.drew.alloc o).heap = (w.alloc o).heap := rfl

theorem cell_row {cur : Array Value} {b : Nat} {t : TypeId} {fr : Nat × Nat} (h : w.heap[b]? = some (.cells cur t fr)) (j : Nat) : w.cell? ⟨b, j, none⟩ = cur[j]? := by
  simp [World.cell?, h]

theorem sealing_none {b : Nat} {f : Nat → Option Value} {o' : Nat} {b' : Nat} (h : b' ≠ b) : (g.sealing b f).σ b' o' = g.σ b' o' := by simp [Gh.sealing, h]
theorem sealing_at {b : Nat} {f : Nat → Option Value} {o' : Nat} : (g.sealing b f).σ b o' = f o' := by simp [Gh.sealing]

/-- What append does with values in hand. -/
theorem append_core {T ty e : TypeId} {by_ : Nat} {zs : List Value} [hT : UN P T (.slice e)] [hZ : ZV P e by_ zs] {t n m : Nat} {cs ds : List D} (hr : Rel P G g l A wr Prot w) (hlive : A.live t = true) (_h0 : 0 < zs.length)
    (hcs : cs.length = n * zs.length) (hds : ds.length = m * zs.length) (hfit : (n + m) * by_ ≤ 140737488355328) (hmax : n + m ≤ maxLen) {v x : Value} (hv : rep g l (.gs t e cs n) v)
    (hx : (m = 0 ∧ ds = [] ∧ x = .slice none 0 0) ∨ ∃ b oo cap, x = .slice (some ⟨b, oo, none⟩) m cap ∧ m ≤ cap ∧ repS g ds b oo) :
    ∃ cv w' g' l', (Builtin.append_ #[T, T] ty #[v, x]).run P w = .ok cv w' ∧ Fr Prot g g' w w' ∧ l.le l' ∧ Rel P G g' l' (A.app t) wr Prot w' ∧ rep g' l' (.gs A.ln e (cs ++ ds) (n + m)) cv := by
  obtain ⟨it, z, hi, hz, hzc, hsz, hby⟩ := hZ.eq
  have hsmall : n + m ≤ 9223372036854775807 := by simp only [maxLen] at hmax; omega
  have hco : P.cellsOf e = zs.length := by simp [Program.cellsOf, hi, hsz]
  have hzs : z.cells.size = zs.length := by simp [hzc]
  have hzl : ∀ k, (Builtin.zeroCells z.cells k).toList.length = k * zs.length := fun k => by simp [size_zeroCells, hzs]
  simp only [rep] at hv
  rcases hv with ⟨rfl, rfl, rfl⟩ | ⟨r, hτ, rfl, rfl, rfl, hnc, hS⟩
  · -- nil
    rcases hx with ⟨rfl, rfl, rfl⟩ | ⟨b, oo, cap, rfl, hmc, hS⟩
    · refine ⟨.slice none 0 0, w, g, l, ?_, Fr.refl _ _ _, Lo.le.refl _, (hr.kill t).add_none, by simp [rep]⟩
      simp [Builtin.append_, run_underlying hT.eq, sizeOf, typeInfo, hi, Builtin.lenOf, Builtin.firstCells]
    · obtain ⟨news, hn1, hn2, hn3⟩ := repS_vals hS
      have hnl : news.length = m * it.size := by rw [repL_length hn1, hds, hsz]
      by_cases hm : m = 0
      · subst hm
        have : ds = [] := List.eq_nil_of_length_eq_zero (by simpa using hds)
        subst this
        have : news = [] := List.eq_nil_of_length_eq_zero (by simpa using hnl)
        subst this
        refine ⟨.slice none 0 0, w, g, l, ?_, Fr.refl _ _ _, Lo.le.refl _, (hr.kill t).add_none, by simp [rep]⟩
        simp [Builtin.append_, run_underlying hT.eq, sizeOf, typeInfo, hi, Builtin.lenOf, Builtin.firstCells, loadCells, loadCellsFrom]
      · have hrun := run_append_nil (P := P) w T ty e it z hT.eq hi hz ⟨b, oo, none⟩ m cap news hnl (fun j u hj => by rw [addr_add]; exact hr.sld _ _ _ (hn2 j u hj)) (by omega) (by omega) (by rw [hby]; simp only [Nat.zero_add] at hfit; omega)
        have hge := grownCap_ge w m 0 e
        have hcm := grownCap_le_maxLen w m 0 e (by omega)
        obtain ⟨k1, k2, k3⟩ := (hr.kill t).new_row (w' := w.drew.alloc (.cells (news.toArray ++ Builtin.zeroCells z.cells (grownCap w m 0 e - m)) e)) (vs := news) (sp := (Builtin.zeroCells z.cells (grownCap w m 0 e - m)).toList) (e := e) (n := m) (cap := grownCap w m 0 e)
          (by rw [heap_drew_alloc]; congr 3; simp <;> (apply Array.ext'; simp)) ⟨rfl, rfl⟩ (by rw [hnl, hco, hsz]) hge hcm (by
            rw [List.length_append, hnl, hco, hsz, hzl, ← Nat.add_mul, Nat.add_sub_cancel' hge])
        refine ⟨_, _, _, _, hrun, k2, k3, k1, ?_⟩
        simp only [rep]
        refine .inr ⟨⟨w.heap.size, grownCap w m 0 e, m, e⟩, by simp [Lo.row, AH.kill], by simp, rfl, by simp, by simp only; omega, ?_⟩
        simp only [List.nil_append]
        exact repS_sealed (repL_mono k2.le _ (Lo.le.refl _) hn1) hn3
  · -- a row
    obtain ⟨cur, h2, h3, h4, h5, h6, h7, h8, h9⟩ := hr.tag t r hlive hτ
    have hcell := fun j => cell_row h3 j
    obtain ⟨olds, ho1, ho2, ho3⟩ := repS_vals hS
    have hol : olds.length = r.len * it.size := by rw [repL_length ho1, hcs, hsz]
    obtain ⟨news, hn1, hn2, hn3, hload⟩ : ∃ news : List Value, repL g Lo.none ds news ∧ (∀ u ∈ news, u.oneCell' = true) ∧ news.length = m * it.size ∧
        ((∃ b oo cap, x = .slice (some ⟨b, oo, none⟩) m cap ∧ ∀ j u, news[j]? = some u → w.cell? ((⟨b, oo, none⟩ : Addr).add j) = some u) ∨ (m = 0 ∧ x = .slice none 0 0)) := by
      rcases hx with ⟨rfl, rfl, rfl⟩ | ⟨b, oo, cap, rfl, hmc, hS'⟩
      · exact ⟨[], by simp [repL], fun u h => (by cases h), by simp, .inr ⟨rfl, rfl⟩⟩
      · obtain ⟨news, k1, k2, k3⟩ := repS_vals hS'
        exact ⟨news, k1, k3, by rw [repL_length k1, hds, hsz], .inl ⟨b, oo, cap, rfl, fun j u hj => by rw [addr_add]; exact hr.sld _ _ _ (k2 j u hj)⟩⟩
    have hco' : P.cellsOf r.e = it.size := by rw [hco, hsz]
    have hnone : ∀ j, r.len * it.size ≤ j → g.σ r.b j = none := fun j hj => h7 j (by rw [hco']; exact hj)
    by_cases hroom : r.len + m ≤ r.cap
    · -- room
      have hfitc : r.len * it.size + news.length ≤ cur.size := by rw [hn3, h6, hco', ← Nat.add_mul]; exact Nat.mul_le_mul_right _ hroom
      let new : Array Value := (cur.toList.take (r.len * it.size) ++ news ++ cur.toList.drop (r.len * it.size + news.length)).toArray
      have hrun : (Builtin.append_ #[T, T] ty #[.slice (some ⟨r.b, 0, none⟩) r.len r.cap, x]).run P w = .ok (.slice (some ⟨r.b, 0, none⟩) (r.len + m) r.cap) (w.setRow r.b new) := by
        rcases hload with ⟨b, oo, cap, rfl, hl⟩ | ⟨rfl, rfl⟩
        · exact run_append_room (P := P) w T ty r.e it hT.eq hi r.b r.len r.cap cur h3 ⟨b, oo, none⟩ m cap news hn3 hl hn2 hroom hfitc
        · have : news = [] := List.eq_nil_of_length_eq_zero (by simpa using hn3)
          subst this
          have hself : w.setRow r.b new = w := by
            have : new = cur := by apply Array.ext'; simp [new]
            rw [this]
            exact setRow_self w r.b cur r.e (0, 0) h3
          rw [hself]
          simp [Builtin.append_, run_underlying hT.eq, sizeOf, typeInfo, hi, Builtin.lenOf, Builtin.firstCells, hnc, storeCells]
      have hnew : ∀ j, new[j]? = if j < r.len * it.size then cur[j]? else if j < r.len * it.size + news.length then news[j - r.len * it.size]? else cur[j]? := fun j => by
        have hmin : min (r.len * it.size) cur.size = r.len * it.size := by omega
        simp only [new, List.getElem?_toArray, List.append_assoc, List.getElem?_append, List.length_take, Array.length_toList, hmin, List.getElem?_take, List.getElem?_drop, Array.getElem?_toList]
        by_cases c1 : j < r.len * it.size
        · simp [c1]
        · simp only [c1, if_false]
          by_cases c2 : j < r.len * it.size + news.length
          · rw [if_pos (by omega), if_pos c2]
          · rw [if_neg (by omega), if_neg c2]
            congr 1; omega
      have hheap := setRow_heap w r.b cur new r.e (0, 0) h3
      have hsize : new.size = cur.size := by simp [new]; omega
      have k1 : Rel P G g l (A.kill t) wr Prot (w.setRow r.b new) := hr.kill_set hlive hτ (setRow_size _ _ _) (fun b' hb' => setRow_other w r.b b' _ hb') (fun o v hv => by
        rw [cell_row hheap, hnew]
        have hlt : o < r.len * it.size := Nat.lt_of_not_ge fun h => by rw [hnone o h] at hv; cases hv
        rw [if_pos hlt, ← hcell]
        exact hr.sld _ _ _ hv)
      let f : Nat → Option Value := fun j => if j < r.len * it.size then g.σ r.b j else if j < r.len * it.size + news.length then news[j - r.len * it.size]? else none
      have hf : ∀ o v, g.σ r.b o = some v → f o = some v := fun o v hv => by
        have hlt : o < r.len * it.size := Nat.lt_of_not_ge fun h => by rw [hnone o h] at hv; cases hv
        simp only [f, if_pos hlt]; exact hv
      have hkill : ∀ i r', (A.kill t).live i = true → l.τ i = some r' → r'.b ≠ r.b := fun i r' hi hr' e => by
        simp only [AH.kill, Bool.and_eq_true, Bool.not_eq_true'] at hi
        have := hr.tagInj i t r' r hi.1 hlive hr' hτ e
        rw [this] at hi
        simp at hi
      have k2 := k1.sealing (b := r.b) (f := f) hf (fun o v hv => by
        rw [cell_row hheap, hnew]
        simp only [f] at hv
        split at hv
        · rename_i c; rw [if_pos c, ← hcell]; exact hr.sld _ _ _ hv
        · split at hv
          · rename_i c c'; rw [if_neg c, if_pos c']; exact hv
          · cases hv) h8 h9 (fun i r' hi hr' e => absurd e (hkill i r' hi hr'))
      have hle : g.le (g.sealing r.b f) := Gh.le_sealing hf
      have k3 := k2.add_row (r := ⟨r.b, r.cap, r.len + m, r.e⟩) (cur := new) h2 hheap hroom h5 (by rw [hsize]; exact h6) (fun o ho => by
          rw [sealing_at]
          simp only at ho
          have ho' : r.len * it.size + m * it.size ≤ o := by rw [hco', Nat.add_mul] at ho; exact ho
          simp only [f]
          rw [if_neg (by omega), if_neg (by omega)]) h8 h9 hkill
      refine ⟨_, _, _, _, hrun, ⟨hle, by rw [setRow_size]; exact Nat.le_refl _, fun b hb => setRow_other w r.b b _ (fun e => h2 (e ▸ hb)), fun b o hb => sealing_none (fun e => h2 (e ▸ hb)), fun _ _ _ h => h, rfl, rfl⟩, k3.2, k3.1, ?_⟩
      simp only [rep]
      refine .inr ⟨⟨r.b, r.cap, r.len + m, r.e⟩, by simp [Lo.row, AH.kill], rfl, rfl, rfl, hroom, repS_append (repS_mono hle _ hS) ?_⟩
      refine repS_of (repL_mono hle _ (Lo.le.refl _) hn1) (fun j u hj => ?_) hn2
      have hj' := (List.getElem?_eq_some_iff.1 hj).1
      rw [sealing_at]
      simp only [f]
      have e1 : 0 + cs.length + j = r.len * it.size + j := by rw [hcs, hsz]; omega
      rw [e1, if_neg (by omega), if_pos (by omega)]
      rw [← hj]; congr 1; omega
    · -- no room
      have hoc : ∀ j u, olds[j]? = some u → w.cell? ((⟨r.b, 0, none⟩ : Addr).add j) = some u := fun j u hj => by
        rw [addr_add]; exact hr.sld _ _ _ (ho2 j u hj)
      have hm0 : m ≠ 0 := fun e => by subst e; omega
      rcases hload with ⟨b, oo, cap, rfl, hl⟩ | ⟨rfl, _⟩
      · have hrun := run_append_grow (P := P) w T ty r.e it z hT.eq hi hz ⟨r.b, 0, none⟩ r.len r.cap olds hol hoc ⟨b, oo, none⟩ m cap news hn3 hl (by omega) (by omega) (growslice_fits (by omega) (by rw [hby]; exact hfit))
        have hge := grownCap_ge w (r.len + m) r.cap r.e
        have hcm := grownCap_le_maxLen w (r.len + m) r.cap r.e hmax
        obtain ⟨k1, k2, k3⟩ := (hr.kill t).new_row (w' := w.drew.alloc (.cells (olds.toArray ++ news.toArray ++ Builtin.zeroCells z.cells (grownCap w (r.len + m) r.cap r.e - (r.len + m))) r.e)) (vs := olds ++ news) (sp := (Builtin.zeroCells z.cells (grownCap w (r.len + m) r.cap r.e - (r.len + m))).toList) (e := r.e) (n := r.len + m) (cap := grownCap w (r.len + m) r.cap r.e)
          (by rw [heap_drew_alloc]; congr 3; simp <;> (apply Array.ext'; simp)) ⟨rfl, rfl⟩ (by rw [List.length_append, hol, hn3, hco', Nat.add_mul]) hge hcm (by
            rw [List.length_append, List.length_append, hol, hn3, hco', hzl, ← hsz, ← Nat.add_mul, ← Nat.add_mul, Nat.add_sub_cancel' hge])
        refine ⟨_, _, _, _, hrun, k2, k3, k1, ?_⟩
        simp only [rep]
        refine .inr ⟨⟨w.heap.size, grownCap w (r.len + m) r.cap r.e, r.len + m, r.e⟩, by simp [Lo.row, AH.kill], rfl, rfl, rfl, hge, ?_⟩
        exact repS_sealed (repL_append (repL_mono k2.le _ (Lo.le.refl _) ho1) (repL_mono k2.le _ (Lo.le.refl _) hn1)) (fun u hu => (List.mem_append.1 hu).elim (ho3 u) (hn2 u))
      · exact absurd rfl hm0

theorem as_append {T e : TypeId} {by_ : Nat} {zs : List Value} {s x : Operand} [hT : UN P T (.slice e)] [hZ : ZV P e by_ zs] {t n m : Nat} {cs ds : List D} {d : D} (ho : o.op = .call { callee := .builtin .append, args := #[s, x], argTypes := #[T, T] }) (hs : ρ s = .gs t e cs n) (hlive : A.live t = true) (hx : ρ x = d) (hd : slc d = some (ds, m)) (h0 : 0 < zs.length) (hcs : cs.length = n * zs.length) (hds : ds.length = m * zs.length) (hfit : (n + m) * by_ ≤ 140737488355328) (hmax : n + m ≤ maxLen) : AS P G wr o ρ A (.gs A.ln e (cs ++ ds) (n + m)) (A.app t) := by
  intro g l Prot w a hr hops K Q hk
  have hs0 := hops s (by simp [ho, Op.operands, Call.operands])
  have hx0 := hops x (by simp [ho, Op.operands, Call.operands])
  rw [hs] at hs0; rw [hx] at hx0
  obtain ⟨cv, w', g', l', h1, h2, h3, h4, h5⟩ := append_core (ty := o.type) (T := T) hr hlive h0 hcs hds hfit hmax hs0 (rep_slc hd hx0)
  unfold Oper.wp
  have hrun : (execOp a.eval o).run P w = .ok (.value cv) w' := by
    simp only [execOp, ho, resolve, invoke, builtin, Sem.run_bind, Sem.run_pure, Result.andThen_ok, List.map_toArray, List.map_cons, List.map_nil, h1]
  rw [hrun]
  exact hk g' l' w' cv h2 h3 h4 h5

end
end Go.Abs
namespace Go.Abs
set_option linter.unusedVariables false
set_option linter.unusedSimpArgs false

/-- A function with a body. -/
class FN (P : Program) (f : FuncId) : Prop where
  run : ∀ (args : Array Value) (w : World), (callFunc f args).run P w = .ok (.enter f args) w

def noHeap : Heap := fun _ => none

/-- What a function answers, whatever memory holds. -/
def PC (P : Program) (G : Nat → D) (f : FuncId) (ds : List D) (R : D → Prop) : Prop := ACall P G f true ds noHeap fun v _ => R v
def PF (P : Program) (G : Nat → D) (f : FuncId) (ds : List D) (v : D) : Prop := PC P G f ds fun x => x = v

section
variable {P : Program} {G : Nat → D} {g g' : Gh} {l l' : Lo} {A A' : AH} {wr wr' : Bool} {Prot : Nat → Prop} {w w' : World} {N : Nat} {o : Oper} {ρ : Operand → D} {S : AH → Prop}

theorem PC.mono {f : FuncId} {ds : List D} {R R' : D → Prop} (h : PC P G f ds R) (hr : ∀ v, R v → R' v) : PC P G f ds R' := ACall.mono h fun v _ => hr v

theorem call_in0 (hr : Rel P G g l A wr Prot w) : Rel P G g Lo.none (AH.start noHeap) true (fun b => b < w.heap.size) w :=
  ⟨hr.glob, fun _ hb => hb, hr.sld, fun id ob ho => by simp [AH.start] at ho, fun _ _ => rfl, fun i j b e => by simp [Lo.none] at e, fun id b e => by simp [Lo.none] at e,
    fun t r ht => by simp [AH.start] at ht, fun t _ => ⟨rfl, rfl⟩, fun t t' r r' ht => by simp [AH.start] at ht,
    fun k cs hk => by simp [AH.start, noHeap] at hk, hr.shN, hr.shInj, hr.shLt⟩

theorem call_back0 (hr : Rel P G g l A wr Prot w) {h' : Heap} (hf : Fr (fun b => b < w.heap.size) g g' w w') (hr' : Rel P G g' Lo.none (AH.start h') wr' (fun b => b < w.heap.size) w') :
    Rel P G g' l A wr Prot w' ∧ Fr Prot g g' w w' :=
  call_back hr hf (h' := noHeap) (by
    exact ⟨hr'.glob, hr'.prot, hr'.sld, fun id ob ho => by simp [AH.start] at ho, fun _ _ => rfl, fun i j b e => by simp [Lo.none] at e, fun id b e => by simp [Lo.none] at e,
    fun t r ht => by simp [AH.start] at ht, fun t _ => ⟨rfl, rfl⟩, fun t t' r r' ht => by simp [AH.start] at ht,
    fun k cs hk => by simp [AH.start, noHeap] at hk, hr'.shN, hr'.shInj, hr'.shLt⟩)

theorem run_call {x : Operand} {args : Array Operand} {Ts : Array TypeId} (ho : o.op = .call { callee := .value x, args := args, argTypes := Ts }) {f : FuncId} [hf : FN P f] {us vs : List D} (hx : ρ x = .fn f us vs) {ds : List D}
    (hds : fzL (us ++ args.toList.map ρ ++ vs) = ds) (hext : ext.extL ds = true) {a : Act} (hops : ∀ x ∈ o.op.operands, rep g l (ρ x) (a.eval x)) :
    ∃ cargs : List Value, (execOp a.eval o).run P w = .ok (.enter f cargs.toArray) w ∧ repL g Lo.none ds cargs := by
  have hx0 := hops x (by simp [ho, Op.operands, Call.operands])
  rw [hx] at hx0
  simp only [rep] at hx0
  obtain ⟨u, v, h1, h2, h3⟩ := hx0
  have hargs : repL g l (args.toList.map ρ) (args.toList.map a.eval) := by
    have key : ∀ xs : List Operand, (∀ x ∈ xs, x ∈ args.toList) → repL g l (xs.map ρ) (xs.map a.eval) := fun xs => by
      induction xs with
      | nil => intro _; simp [repL]
      | cons y ys ih =>
        intro hy
        simp only [List.map_cons, repL]
        exact ⟨_, _, rfl, hops y (by have := hy y (by simp); simp [ho, Op.operands, Call.operands]; exact .inr (by simpa using this)), ih fun z hz => hy z (by simp [hz])⟩
    exact key _ fun _ h => h
  refine ⟨u ++ args.toList.map a.eval ++ v, ?_, ?_⟩
  · have hr := hf.run (u.toArray ++ args.map a.eval ++ v.toArray) w
    simp only [execOp, ho, resolve, h1, Deferred.ofValue, Sem.run_bind, Sem.run_pure, Result.andThen_ok, invoke, hr]
    congr 2
    apply Array.ext'
    simp
  · subst hds
    exact repL_ext _ hext (repL_fz _ (repL_append (repL_append h2 hargs) h3))

theorem q_call {x : Operand} {args : Array Operand} {Ts : Array TypeId} {f : FuncId} [FN P f] {us vs : List D} {ds : List D} {v : D} (ho : o.op = .call { callee := .value x, args := args, argTypes := Ts }) (hx : ρ x = .fn f us vs) (hds : fzL (us ++ args.toList.map ρ ++ vs) = ds) (hext : ext.extL ds = true) (hc : PF P G f ds v) : AQ P G wr o ρ S v := by
  intro g l Prot w a A hS hr hops K Q hK
  obtain ⟨cargs, h1, h2⟩ := run_call (P := P) (w := w) ho hx hds hext hops
  unfold Oper.wp
  rw [h1, Oper.upon_enter]
  refine (hc g _ w cargs (call_in0 hr) h2).mono ?_
  rintro e w' ⟨cv, v, h', g', rfl, rfl, hf, hr', hv⟩
  obtain ⟨k1, k2⟩ := call_back0 hr hf hr'
  exact hK g' w' cv k2 k1 (rep_mono (Gh.le.refl _) _ (Lo.le.none _) hv)

/-- A call that reads or writes shared objects. -/
theorem ao_callH {x : Operand} {args : Array Operand} {Ts : Array TypeId} {f : FuncId} [FN P f] {us vs : List D} {ds : List D} {R : D → Heap → Prop} {Kv : D → AH → Prop} (ho : o.op = .call { callee := .value x, args := args, argTypes := Ts }) (hx : ρ x = .fn f us vs) (hds : fzL (us ++ args.toList.map ρ ++ vs) = ds) (hext : ext.extL ds = true) (hc : ACall P G f true ds A.h R) (hk : ∀ v h', R v h' → Kv v { A with h := h' }) : AOp P G true o ρ A Kv := by
  intro g l Prot w a hr hops K Q hK
  obtain ⟨cargs, h1, h2⟩ := run_call (P := P) (w := w) ho hx hds hext hops
  unfold Oper.wp
  rw [h1, Oper.upon_enter]
  refine (hc g _ w cargs (call_inW hr) h2).mono ?_
  rintro e w' ⟨cv, v, h', g', rfl, hq, hf, hr', hv⟩
  obtain ⟨k1, k2⟩ := call_backW hr hf hr'
  exact hK v _ g' l w' cv (hk v h' hq) k2 (Lo.le.refl _) k1 (rep_mono (Gh.le.refl _) _ (Lo.le.none _) hv)

/-! Steps. -/
variable {ops : Array Oper} {rest : List Oper} {env : Env} {K : Env → AH → Prop} {Q : Exit → Env → AH → Prop}

theorem s_nil (h : K env A) : aops P G wr ops [] env A K := h
theorem s_q {v : D} {d : Nat} (hw : wantedD ops env o = some true) (hd : o.dst = some d) (h : AQ P G wr o (evalD G env) (ExtA A) v) (hk : aops P G wr ops rest (upd env d v) A K) : aops P G wr ops (o :: rest) env A K :=
  .inl ⟨hw, (h.as (ExtA.refl A)).op (by rw [hd]; exact hk)⟩
theorem s_s {v : D} {d : Nat} (hw : wantedD ops env o = some true) (hd : o.dst = some d) (h : AS P G wr o (evalD G env) A v A') (hk : aops P G wr ops rest (upd env d v) A' K) : aops P G wr ops (o :: rest) env A K :=
  .inl ⟨hw, h.op (by rw [hd]; exact hk)⟩
theorem s_u {v : D} (hw : wantedD ops env o = some true) (hd : o.dst = none) (h : AS P G wr o (evalD G env) A v A') (hk : aops P G wr ops rest env A' K) : aops P G wr ops (o :: rest) env A K :=
  .inl ⟨hw, h.op (by rw [hd]; exact hk)⟩
theorem s_o {d : Nat} (hw : wantedD ops env o = some true) (hd : o.dst = some d) (h : AOp P G wr o (evalD G env) A fun v A' => aops P G wr ops rest (upd env d v) A' K) : aops P G wr ops (o :: rest) env A K :=
  .inl ⟨hw, h.mono fun v A' hh => by rw [hd]; exact hh⟩
theorem s_off {d : Nat} (hw : wantedD ops env o = some false) (hd : o.dst = some d) (hk : aops P G wr ops rest (upd env d (.sc undef)) A K) : aops P G wr ops (o :: rest) env A K :=
  .inr ⟨hw, by rw [hd]; exact hk⟩
theorem upd_self (env : Env) (t : Nat) : upd env t (env t) = env := by
  funext i; rw [upd_at]; split
  · rename_i h; rw [h]
  · rfl
theorem s_split {b : Bool} (t : Nat) (ht : env t = .sc (.bool b)) (h1 : b = true → aops P G wr ops rest (upd env t (.sc (.bool true))) A K) (h0 : b = false → aops P G wr ops rest (upd env t (.sc (.bool false))) A K) : aops P G wr ops rest env A K := by
  cases b with
  | true => have := h1 rfl; rw [← ht, upd_self] at this; exact this
  | false => have := h0 rfl; rw [← ht, upd_self] at this; exact this

theorem w_reg {id : Nat} (h : aops P G wr ops ops.toList env A (Q .normal)) : aw P G wr (.region id ops false) Q env A := h
theorem w_seq {x y : Code} (h : aw P G wr x (thenQ (aw P G wr y Q) Q) env A) : aw P G wr (.seq x y) Q env A := h
theorem w_skip (h : Q .normal env A) : aw P G wr .skip Q env A := h
theorem w_ret (h : Q .ret env A) : aw P G wr .ret Q env A := h
theorem w_exit {i : Nat} (h : Q (.exit i) env A) : aw P G wr (.exit i) Q env A := h
theorem w_block {i : Nat} {c : Code} (h : aw P G wr c (blockQ i Q) env A) : aw P G wr (.block i c) Q env A := h
theorem w_if {c : Operand} {x y : Code} {b : Bool} (hb : evalD G env c = .sc (.bool b)) (h1 : b = true → aw P G wr x Q env A) (h0 : b = false → aw P G wr y Q env A) : aw P G wr (.cond c x y) Q env A := ⟨b, hb, h1, h0⟩
theorem w_ifT {c : Operand} {x y : Code} (hb : evalD G env c = .sc (.bool true)) (h : aw P G wr x Q env A) : aw P G wr (.cond c x y) Q env A := ⟨true, hb, fun _ => h, fun e => by cases e⟩
theorem w_ifF {c : Operand} {x y : Code} (hb : evalD G env c = .sc (.bool false)) (h : aw P G wr y Q env A) : aw P G wr (.cond c x y) Q env A := ⟨false, hb, fun e => (by cases e), fun _ => h⟩
theorem w_loop {c : Code} (I : Env → AH → Prop) (μ : Env → AH → Nat) (h0 : I env A) (h : ∀ env A, I env A → aw P G wr c (thenQ (fun env' A' => I env' A' ∧ μ env' A' < μ env A) Q) env A) : aw P G wr (.loop c) Q env A := ⟨I, μ, h0, h⟩

variable {next : Env → AH → Prop}
theorem n_n (h : next env A) : thenQ next Q .normal env A := h
theorem n_r (h : Q .ret env A) : thenQ next Q .ret env A := h
theorem n_e {i : Nat} (h : Q (.exit i) env A) : thenQ next Q (.exit i) env A := h
theorem b_n {i : Nat} (h : Q .normal env A) : blockQ i Q .normal env A := h
theorem b_r {i : Nat} (h : Q .ret env A) : blockQ i Q .ret env A := h
theorem b_hit {i : Nat} (h : Q .normal env A) : blockQ i Q (.exit i) env A := by simp only [blockQ, if_true]; exact h
theorem b_miss {i j : Nat} (hne : Nat.beq j i = false) (h : Q (.exit j) env A) : blockQ i Q (.exit j) env A := by
  have : ¬ j = i := fun e => by rw [e] at hne; simp at hne
  simp only [blockQ, if_neg this]; exact h

/-- Q may grow. -/
theorem aw_mono : ∀ (c : Code) {Q Q' : Exit → Env → AH → Prop} {env : Env} {A : AH}, aw P G wr c Q env A → (∀ e env A, Q e env A → Q' e env A) → aw P G wr c Q' env A
  | .skip, _, _, _, _, h, hq => hq _ _ _ h
  | .ret, _, _, _, _, h, hq => hq _ _ _ h
  | .exit _, _, _, _, _, h, hq => hq _ _ _ h
  | .region _ ops false, Q, Q', env, A, h, hq => by
    have key : ∀ (rest : List Oper) (env : Env) (A : AH), aops P G wr ops rest env A (Q .normal) → aops P G wr ops rest env A (Q' .normal) := by
      intro rest
      induction rest with
      | nil => intro env A h; exact hq _ _ _ h
      | cons o rest ih =>
        intro env A h
        rcases h with ⟨hw, h⟩ | ⟨hw, h⟩
        · exact .inl ⟨hw, h.mono fun v A' => ih _ _⟩
        · exact .inr ⟨hw, ih _ _ h⟩
    exact key _ _ _ h
  | .region _ ops true, Q, Q', env, A, h, hq => by
    obtain ⟨an, ks, h1, h2⟩ := h
    have key : ∀ (rest : List Oper) (ks : List Nat) (env : Env) (A : AH), adraw P G wr ops ks rest env A (Q .normal) → adraw P G wr ops ks rest env A (Q' .normal) := by
      intro rest
      induction rest with
      | nil => intro ks env A h; cases ks with | nil => exact hq _ _ _ h | cons _ _ => exact h
      | cons o rest ih =>
        intro ks env A h
        cases ks with
        | nil => exact h
        | cons k ks =>
          rcases h with ⟨h1, h2, v, h3, h4⟩ | ⟨h1, h2, v, h3, h4⟩ | ⟨h1, h2, v, A', h3, h4, h5⟩ | ⟨h1, h2, v, A', h3, h4⟩ | ⟨h1, h2⟩ | ⟨h1, h2, h3, h4, h5⟩
          · exact .inl ⟨h1, h2, v, h3, ih _ _ _ h4⟩
          · exact .inr (.inl ⟨h1, h2, v, h3, ih _ _ _ h4⟩)
          · exact .inr (.inr (.inl ⟨h1, h2, v, A', h3, h4, ih _ _ _ h5⟩))
          · exact .inr (.inr (.inr (.inl ⟨h1, h2, v, A', h3, ih _ _ _ h4⟩)))
          · exact .inr (.inr (.inr (.inr (.inl ⟨h1, ih _ _ _ h2⟩))))
          · exact .inr (.inr (.inr (.inr (.inr ⟨h1, h2, h3, h4, h5.mono fun v A' hh => hq _ _ _ hh⟩))))
    exact ⟨an, ks, h1, key _ _ _ _ h2⟩
  | .seq a b, Q, Q', env, A, h, hq => aw_mono a h fun e env A h' => by
    cases e with
    | normal => exact aw_mono b h' hq
    | exit i => exact hq _ _ _ h'
    | ret => exact hq _ _ _ h'
    | goto i => exact h'
    | panic c => exact h'
    | outgrown => exact h'
  | .cond c x y, Q, Q', env, A, h, hq => by
    obtain ⟨b, hb, h1, h0⟩ := h
    exact ⟨b, hb, fun e => aw_mono x (h1 e) hq, fun e => aw_mono y (h0 e) hq⟩
  | .block id body, Q, Q', env, A, h, hq => aw_mono body h fun e env A h' => by
    cases e with
    | normal => exact hq _ _ _ h'
    | ret => exact hq _ _ _ h'
    | exit i =>
      simp only [blockQ] at h' ⊢
      split
      · rename_i e; rw [if_pos e] at h'; exact hq _ _ _ h'
      · rename_i e; rw [if_neg e] at h'; exact hq _ _ _ h'
    | goto i => exact h'
    | panic c => exact h'
    | outgrown => exact h'
  | .loop body, Q, Q', env, A, h, hq => by
    obtain ⟨I, μ, h0, h1⟩ := h
    exact ⟨I, μ, h0, fun env A hI => aw_mono body (h1 env A hI) fun e env' A' h' => by
      cases e with
      | normal => exact h'
      | exit i => exact hq _ _ _ h'
      | ret => exact hq _ _ _ h'
      | goto i => exact h'
      | panic c => exact h'
      | outgrown => exact h'⟩
  | .rangeFunc .., _, _, _, _, h, _ => h.elim
  | .scope _, _, _, _, _, h, _ => h.elim
  | .label _, _, _, _, _, h, _ => h.elim
  | .goto _, _, _, _, _, h, _ => h.elim
  | .refuse _, _, _, _, _, h, _ => h.elim

/-- A contract from code. -/
theorem PC.intro (hm : P.follows .mixedOrders = true) {f : FuncId} {fn : Func} {c : Code} (hf : P.funcs[f]? = some fn) (hb : fn.body = some c) {ds : List D} (hn : ds.length ≤ fn.ntmps) (hN : okN fn.ntmps c = true) {R : D → Prop}
    (hw : aw P G true c (retQ P fn fun v _ => R v) (env0 ds) (AH.start noHeap)) : PC P G f ds R := ACall.intro hm hf hb hn hN hw

/-- At the end. -/
theorem r_r {fn : Func} {R : D → Heap → Prop} {ds : List D} {v : D} {h' : Heap} (h1 : ResAll P env A fn.results.toList ds) (hv : fz (pack ds) = v) (he : ext v = true) (hs : Sub h' A.h) (h : R v h') : retQ P fn R .ret env A := by
  subst hv; exact ⟨ds, h', h1, he, hs, h⟩
theorem r_n {fn : Func} {R : D → Heap → Prop} {ds : List D} {v : D} {h' : Heap} (h1 : ResAll P env A fn.results.toList ds) (hv : fz (pack ds) = v) (he : ext v = true) (hs : Sub h' A.h) (h : R v h') : retQ P fn R .normal env A := by
  subst hv; exact ⟨ds, h', h1, he, hs, h⟩
theorem ra_nil : ResAll P env A [] [] := rfl
theorem ra_tmp {t : Nat} {rs : List ResultVar} {d : D} {ds : List D} (h : env t = d) (hr : ResAll P env A rs ds) : ResAll P env A (.tmp t :: rs) (d :: ds) := ⟨d, ds, rfl, h, hr⟩
theorem ra_cell {t : Nat} {T : TypeId} {rs : List ResultVar} {d : D} {ds : List D} {agg : Bool} {sz : Nat} [hT : TI P T agg sz] (h : loadD A agg sz (env t) = some d) (hr : ResAll P env A rs ds) : ResAll P env A (.cell t T :: rs) (d :: ds) := ⟨d, ds, rfl, ⟨agg, sz, hT, h⟩, hr⟩

end
end Go.Abs
namespace Go.Abs
set_option linter.unusedVariables false
set_option linter.unusedSimpArgs false
section
variable {P : Program}

theorem info_of {T : TypeId} {i : TypeInfo} (h : ∀ w, (typeInfo T).run P w = .ok i w) : P.info? T = some i := by
  have := h default
  simp only [typeInfo, Sem.run_bind, run_program, Result.andThen_ok] at this
  cases hi : P.info? T with
  | none => rw [hi] at this; simp at this
  | some j => rw [hi] at this; simpa using this

theorem ZV.of {T : TypeId} {i : TypeInfo} {z : Value} {zs : List Value} {b : Nat} (h : ∀ w, (typeInfo T).run P w = .ok i w) (hz : i.zero = some z) (hc : z.cells = zs.toArray) (hs : i.size = zs.length) (hb : i.bytes = b) (h1 : zs.all (·.oneCell') = true) : ZV P T b zs :=
  ⟨⟨i, z, info_of h, hz, hc, hs, hb⟩, h1⟩

theorem BL.of {T : TypeId} {i : TypeInfo} {z : Value} {zs : List Value} {fs : Array Field} {places : List (Nat × Nat)} (h : ∀ w, (typeInfo T).run P w = .ok i w) (hz : i.zero = some z) (hc : z.cells = zs.toArray) (hu : P.underlying T = some (.struct fs))
    (hp : fs.toList.mapM (fun f => (P.info? f.type).map fun i => (f.offset, i.size)) = some places) : BL P T zs places := ⟨i, z, fs, info_of h, hz, hc, hu, hp⟩

theorem FI.of {T : TypeId} {fs : Array Field} {f : Nat} {fld : Field} {off sz : Nat} (hu : P.underlying T = some (.struct fs)) (hf : fs[f]? = some fld) (ho : fld.offset = off) (hs : ∀ w, (sizeOf fld.type).run P w = .ok sz w) (h0 : sz ≠ 0) : FI P T f off :=
  ⟨fun ad w => by
    have hsure : Instr.sureAddr (.pointer (some ad)) = (pure ad : Sem Addr) := rfl
    simp [Instr.fieldAt, run_underlying hu, hf, hsure, fieldPlace, hs, h0, ho]⟩

theorem FV.of {T : TypeId} {fs : Array Field} {f : Nat} {fld : Field} {off sz : Nat} {agg : Bool} (hu : P.underlying T = some (.struct fs)) (hf : fs[f]? = some fld) (ho : fld.offset = off) (hs : ∀ w, (sizeOf fld.type).run P w = .ok sz w)
    (ha : ∀ w, (isAgg fld.type).run P w = .ok agg w) : FV P T f off agg sz :=
  ⟨fun vs w v hv => by
    have hA : asAgg (.agg vs) = (pure vs : Sem (Array Value)) := rfl
    simp only [Instr.field, Sem.run_bind, run_underlying hu, Result.andThen_ok, hf, hA, Sem.run_pure, part, ha, ho]
    cases agg with
    | true => simp at hv; simp [hs, hv]
    | false => simp at hv ⊢; simp [hv]⟩

end
end Go.Abs
namespace Go.Abs
set_option linter.unusedVariables false
set_option linter.unusedSimpArgs false
section
variable {P : Program} {G : Nat → D} {A A' : AH} {wr : Bool} {o : Oper} {ρ : Operand → D} {S : AH → Prop}

/-- No interface type. -/
class NI (P : Program) (T : TypeId) : Prop where
  eq : ∃ du, P.underlying T = some du ∧ ∀ ms, du ≠ .interface ms
theorem q_ifc {T : TypeId} [hT : NI P T] {x : Operand} {d : D} (ho : o.op = .makeInterface T x) (hx : ρ x = d) : AQ P G wr o ρ S (.ifc T d) := by
  obtain ⟨du, h1, h2⟩ := hT.eq
  haveI : UN P T du := ⟨h1⟩
  exact q_iface ho h2 hx
theorem q_asr {T U : TypeId} [hU : NI P U] {x : Operand} {d : D} (ho : o.op = .typeAssert x T U false) (hx : ρ x = .ifc U d) : AQ P G wr o ρ S d := by
  obtain ⟨du, h1, h2⟩ := hU.eq
  haveI : UN P U du := ⟨h1⟩
  exact q_assert ho h2 hx
theorem is_sc {x : D} {v : Value} (h : x = .sc v) : x = .sc v := h
theorem is_scb {x : D} {b : Bool} (h : x = .sc (.bool b)) : x = .sc (.bool b) := h
theorem is_im {x : D} {cs : List D} {n : Nat} (h : x = .im cs n) : x = .im cs n := h
theorem is_lit {x : D} {cs : List D} {n : Nat} (h : x = .lit cs n) : x = .lit cs n := h
theorem is_gs {x : D} {t e : Nat} {cs : List D} {n : Nat} (h : x = .gs t e cs n) : x = .gs t e cs n := h
theorem is_ms {x : D} {i o n : Nat} (h : x = .ms i o n) : x = .ms i o n := h
theorem is_box {x : D} {i o : Nat} (h : x = .box i o) : x = .box i o := h
theorem is_hp {x : D} {i o : Nat} (h : x = .hp i o) : x = .hp i o := h
theorem is_pin {x : D} {cs : List D} {o : Nat} (h : x = .pin cs o) : x = .pin cs o := h
theorem is_fn {x : D} {f : FuncId} {a b : List D} (h : x = .fn f a b) : x = .fn f a b := h
theorem is_ifc {x : D} {t : TypeId} {d : D} (h : x = .ifc t d) : x = .ifc t d := h

theorem q_mv {x : Operand} {d : D} (ho : o.op = .move x ∨ o.op = .assign x) (hx : ρ x = d) : AQ P G wr o ρ S d := by
  subst hx
  rcases ho with ho | ho
  · exact q_move ho
  · exact q_assign ho
theorem q_pickT {c x y : Operand} {d : D} (ho : o.op = .pick c x y) (hc : ρ c = .sc (.bool true)) (hd : ρ x = d) : AQ P G wr o ρ S d := q_pick ho hc hd
theorem q_pickF {c x y : Operand} {d : D} (ho : o.op = .pick c x y) (hc : ρ c = .sc (.bool false)) (hd : ρ y = d) : AQ P G wr o ρ S d := q_pick ho hc hd

theorem as_alloc0 {T : TypeId} {by_ : Nat} {zs : List Value} [hZ : ZV P T by_ zs] {cs : List D} {id : Nat} (ho : o.op = .alloc T) (hid : A.o.length = id) (hc : zs.map D.sc = cs) :
    AS P G wr o ρ A (.box id 0) (A.push (.cells cs)) := by
  subst hid; subst hc
  have h := as_alloc (P := P) (G := G) (wr := wr) (A := A) (ρ := ρ) (k := 0) (ds := zs.map D.sc) ho (ZAs.sc zs)
  have e : A.tags 0 = A := by
    simp only [AH.tags, Nat.add_zero]
    congr 1
    funext i
    have : (Nat.ble A.ln i && Nat.blt i A.ln) = false := by
      rw [Bool.and_eq_false_iff]
      rcases Nat.lt_or_ge i A.ln with h | h
      · left
        cases hb : Nat.ble A.ln i with
        | false => rfl
        | true => have := Nat.le_of_ble_eq_true hb; omega
      · right
        cases hb : Nat.blt i A.ln with
        | false => rfl
        | true => simp [Nat.blt_eq] at hb; omega
    rw [this]; simp
  rw [e] at h
  exact h

theorem as_box0 {T : TypeId} {x : Operand} {d : D} {cs : List D} {id : Nat} (ho : o.op = .box T x) (hx : ρ x = d) (h1 : oneL (partsD d) = true) (hid : A.o.length = id) (hc : partsD d = cs) :
    AS P G wr o ρ A (.box id 0) (A.push (.cells cs)) := by
  subst hid; subst hc; exact as_box ho hx h1

theorem as_st {T : TypeId} {agg : Bool} {sz : Nat} [hT : TI P T agg sz] {x y : Operand} {id off : Nat} {d : D} {cs cs' : List D} (ho : o.op = .store T x y) (hx : ρ x = .box id off) (hy : ρ y = d) (hA : A.o[id]? = some (.cells cs)) (hl : (partsD d).length = sz) (h1 : oneL (partsD d) = true) (hfit : off + sz ≤ cs.length) (hs : splice cs off (partsD d) = cs') :
    AS P G wr o ρ A (.sc undef) (A.set id (.cells cs')) := by subst hs; exact as_store ho hx hy hA hl h1 hfit

theorem q_bs {T e : TypeId} {by_ : Nat} {zs : List Value} {n : Nat} {parts : Array (Nat × Operand)} [hT : UN P T (.slice e)] [hZ : ZV P e by_ zs] {ps : List (Nat × D)} {cs cs' : List D} (ho : o.op = .buildSlice T n parts) (hps : (parts.toList.map fun p => (p.1, ρ p.2)) = ps) (hn : 0 < n * zs.length) (hn' : n * zs.length ≤ 16777216) (h : fillD (fun i => some (i * zs.length, zs.length)) ((List.range (n * zs.length)).map fun i => .sc (zs.getD (i % zs.length) undef)) ps = some cs) (hc : fzL cs = cs') (he : ext.extL cs' = true) (h1 : oneL cs = true) : AQ P G wr o ρ S (.lit cs' n) := by
  subst hc; exact q_buildSlice ho hps hn hn' h he h1

variable {ops : Array Oper} {rest : List Oper} {env : Env} {K : Env → AH → Prop}
theorem sub_no {h : Heap} : Sub noHeap h := fun _ _ e => by cases e

theorem pt_nil {f : Nat × Operand → Nat × D} : ([] : List (Nat × Operand)).map f = [] := rfl
theorem pt_cons {i : Nat} {x : Operand} {rest : List (Nat × Operand)} {d : D} {ds : List (Nat × D)} (hx : ρ x = d) (hr : (rest.map fun p => (p.1, ρ p.2)) = ds) : (((i, x) :: rest).map fun p => (p.1, ρ p.2)) = (i, d) :: ds := by
  simp [hx, hr]

/-! Bytes. -/
def bc (l : List UInt8) : List D := l.map fun b => .sc (.int .u8 (b.toNat : Int))
/-! Drawn regions. -/
variable {Q : Exit → Env → AH → Prop} {ks : List Nat}
theorem w_draw {id : Nat} (an ks : List Nat) (hok : drawOK ops an ks = true) (h : adraw P G wr ops ks ops.toList env A (Q .normal)) : aw P G wr (.region id ops true) Q env A := ⟨an, ks, hok, h⟩
theorem d_nil (h : K env A) : adraw P G wr ops [] [] env A K := h
theorem d_q0 {v : D} {d : Nat} (hw : wantedD ops env o = some true) (hd : o.dst = some d) (h : AQ P G wr o (evalD G env) (fun _ => True) v) (hk : adraw P G wr ops ks rest (upd env d v) A K) : adraw P G wr ops (0 :: ks) (o :: rest) env A K :=
  .inl ⟨hw, rfl, v, h, by rw [hd]; exact hk⟩
theorem d_q1 {v : D} {d : Nat} (hw : wantedD ops env o = some true) (hd : o.dst = some d) (h : AQ P G wr o (evalD G env) (ExtA A) v) (hk : adraw P G wr ops ks rest (upd env d v) A K) : adraw P G wr ops (1 :: ks) (o :: rest) env A K :=
  .inr (.inl ⟨hw, rfl, v, h, by rw [hd]; exact hk⟩)
theorem d_s3 {v : D} {d : Nat} (hw : wantedD ops env o = some true) (hd : o.dst = some d) (h : AS P G wr o (evalD G env) A v A') (hk : adraw P G wr ops ks rest (upd env d v) A' K) : adraw P G wr ops (3 :: ks) (o :: rest) env A K :=
  .inr (.inr (.inr (.inl ⟨hw, rfl, v, A', h, by rw [hd]; exact hk⟩)))
theorem d_u3 {v : D} (hw : wantedD ops env o = some true) (hd : o.dst = none) (h : AS P G wr o (evalD G env) A v A') (hk : adraw P G wr ops ks rest env A' K) : adraw P G wr ops (3 :: ks) (o :: rest) env A K :=
  .inr (.inr (.inr (.inl ⟨hw, rfl, v, A', h, by rw [hd]; exact hk⟩)))
theorem d_off {d k : Nat} (hw : wantedD ops env o = some false) (hd : o.dst = some d) (hk : adraw P G wr ops ks rest (upd env d (.sc undef)) A K) : adraw P G wr ops (k :: ks) (o :: rest) env A K :=
  .inr (.inr (.inr (.inr (.inl ⟨hw, by rw [hd]; exact hk⟩))))
/-- The last of all, behind all others. -/
theorem d_o4 {d : Nat} (hw : wantedD ops env o = some true) (hd : o.dst = some d) (h : AOp P G wr o (evalD G env) A fun v A' => K (upd env d v) A') : adraw P G wr ops [4] [o] env A K :=
  .inr (.inr (.inr (.inr (.inr ⟨hw, rfl, rfl, rfl, h.mono fun v A' hh => by rw [hd]; exact hh⟩))))
theorem d_split (t : Nat) {b : Bool} (ht : env t = .sc (.bool b)) (h1 : b = true → adraw P G wr ops ks rest (upd env t (.sc (.bool true))) A K) (h0 : b = false → adraw P G wr ops ks rest (upd env t (.sc (.bool false))) A K) : adraw P G wr ops ks rest env A K := by
  cases b with
  | true => have := h1 rfl; rw [← ht, upd_self] at this; exact this
  | false => have := h0 rfl; rw [← ht, upd_self] at this; exact this

/-! Loops of few rounds. -/
theorem least_of (p : Nat → Prop) : ∀ n, p n → ∃ m, p m ∧ ∀ k, p k → m ≤ k := by
  intro n
  induction n using Nat.strongRecOn with
  | ind n ih =>
    intro hn
    by_cases h : ∃ k, k < n ∧ p k
    · obtain ⟨k, h1, h2⟩ := h; exact ih k h1 h2
    · exact ⟨n, hn, fun k hk => Nat.le_of_not_lt fun hlt => h ⟨k, hlt, hk⟩⟩
noncomputable def least (p : Nat → Prop) : Nat := open Classical in if h : ∃ m, p m ∧ ∀ k, p k → m ≤ k then Classical.choose h else 0
theorem least_spec {p : Nat → Prop} {n : Nat} (h : p n) : p (least p) ∧ ∀ k, p k → least p ≤ k := by
  have h' := least_of p n h
  unfold least
  rw [dif_pos h']
  exact Classical.choose_spec h'

def unroll (P : Program) (G : Nat → D) (wr : Bool) (c : Code) (Q : Exit → Env → AH → Prop) : Nat → Env → AH → Prop
  | 0 => aw P G wr c (thenQ (fun _ _ => False) Q)
  | n + 1 => aw P G wr c (thenQ (unroll P G wr c Q n) Q)
theorem w_unroll {c : Code} {Q : Exit → Env → AH → Prop} (n : Nat) (h : unroll P G wr c Q n env A) : aw P G wr (.loop c) Q env A := by
  refine ⟨fun e a => ∃ k, unroll P G wr c Q k e a, fun e a => least fun k => unroll P G wr c Q k e a, ⟨n, h⟩, fun e a hI => ?_⟩
  obtain ⟨n, hn⟩ := hI
  have hk := (least_spec (p := fun k => unroll P G wr c Q k e a) hn).1
  show aw P G wr c (thenQ (fun e' a' => (∃ k, unroll P G wr c Q k e' a') ∧ (least fun k => unroll P G wr c Q k e' a') < (least fun k => unroll P G wr c Q k e a)) Q) e a
  generalize (least fun k => unroll P G wr c Q k e a) = k at *
  cases k with
  | zero =>
    exact aw_mono c hk fun x e' a' h' => by
      cases x with
      | normal => exact h'.elim
      | exit i => exact h'
      | ret => exact h'
      | goto i => exact h'
      | panic c => exact h'
      | outgrown => exact h'
  | succ k =>
    exact aw_mono c hk fun x e' a' h' => by
      cases x with
      | normal => exact ⟨⟨k, h'⟩, Nat.lt_succ_of_le ((least_spec (p := fun k => unroll P G wr c Q k e' a') h').2 k h')⟩
      | exit i => exact h'
      | ret => exact h'
      | goto i => exact h'
      | panic c => exact h'
      | outgrown => exact h'
theorem u_0 {c : Code} {Q : Exit → Env → AH → Prop} (h : aw P G wr c (thenQ (fun _ _ => False) Q) env A) : unroll P G wr c Q 0 env A := h
theorem u_s {c : Code} {Q : Exit → Env → AH → Prop} {n : Nat} (h : aw P G wr c (thenQ (unroll P G wr c Q n) Q) env A) : unroll P G wr c Q (n + 1) env A := h

/-! Locals behind others that are not told. -/
theorem as_allocT {T : TypeId} {by_ : Nat} {zs : List Value} [hZ : ZV P T by_ zs] {os tail : List LO} {j : Nat} {cs : List D} {live : Nat → Bool} {ln : Nat} {h : Nat → Option (List D)} (ho : o.op = .alloc T) (hA : A = ⟨os ++ tail, live, ln, h⟩) (hj : tail.length = j) (hc : zs.map D.sc = cs) :
    AS P G wr o ρ A (.box (os.length + j) 0) ⟨os ++ (tail ++ [.cells cs]), live, ln, h⟩ := by
  subst hA; subst hj
  have := as_alloc0 (P := P) (G := G) (wr := wr) (ρ := ρ) (A := ⟨os ++ tail, live, ln, h⟩) (id := os.length + tail.length) ho (by simp) hc
  have e : AH.push ⟨os ++ tail, live, ln, h⟩ (.cells cs) = ⟨os ++ (tail ++ [.cells cs]), live, ln, h⟩ := by simp [AH.push]
  rw [← e]; exact this
theorem as_stT {T : TypeId} {agg : Bool} {sz : Nat} [hT : TI P T agg sz] {x y : Operand} {os tail tail' : List LO} {j off : Nat} {d : D} {cs cs' : List D} {live : Nat → Bool} {ln : Nat} {h : Nat → Option (List D)} (ho : o.op = .store T x y) (hA : A = ⟨os ++ tail, live, ln, h⟩)
    (hx : ρ x = .box (os.length + j) off) (hy : ρ y = d) (ht : tail[j]? = some (.cells cs)) (hl : (partsD d).length = sz) (h1 : oneL (partsD d) = true) (hfit : off + sz ≤ cs.length) (hs : splice cs off (partsD d) = cs') (ht' : tail.set j (.cells cs') = tail') :
    AS P G wr o ρ A (.sc undef) ⟨os ++ tail', live, ln, h⟩ := by
  subst hA; subst hs; subst ht'
  have := as_store (P := P) (G := G) (wr := wr) (ρ := ρ) (A := ⟨os ++ tail, live, ln, h⟩) (T := T) ho hx hy (by show (os ++ tail)[os.length + j]? = _; rw [List.getElem?_append_right (by omega)]; simpa using ht) hl h1 hfit
  have e : AH.set ⟨os ++ tail, live, ln, h⟩ (os.length + j) (.cells (splice cs off (partsD d))) = ⟨os ++ tail.set j (.cells (splice cs off (partsD d))), live, ln, h⟩ := by
    simp only [AH.set]
    congr 1
    rw [List.set_append_right _ _ (by omega)]
    simp
  rw [← e]; exact this
theorem q_loadT {T : TypeId} {agg : Bool} {sz : Nat} [hT : TI P T agg sz] {x : Operand} {os tail : List LO} {j off : Nat} {cs : List D} {v : D} {live : Nat → Bool} {ln : Nat} {h : Nat → Option (List D)} (ho : o.op = .load T x) (hA : A = ⟨os ++ tail, live, ln, h⟩)
    (hx : ρ x = .box (os.length + j) off) (ht : tail[j]? = some (.cells cs)) (hv : takeAt agg sz cs off = some v) : AQ P G wr o ρ (ExtA A) v := by
  subst hA
  exact q_load ho hx (by
    have : (os ++ tail)[os.length + j]? = some (.cells cs) := by rw [List.getElem?_append_right (by omega)]; simpa using ht
    simp only [loadD, cellsAt, this, hv])

/-! Slots of an environment. -/
def Binds (e : Env) : List (Nat × D) → Prop
  | [] => True
  | p :: l => e p.1 = p.2 ∧ Binds e l
def binds (e : Env) : List (Nat × D) → Env
  | [] => e
  | p :: l => upd (binds e l) p.1 p.2
theorem Binds.eq {e : Env} : ∀ {l : List (Nat × D)}, Binds e l → e = binds e l
  | [], _ => rfl
  | p :: l, ⟨h1, h2⟩ => by
    simp only [binds]
    rw [← h2.eq, ← h1, upd_self]

end
end Go.Abs
