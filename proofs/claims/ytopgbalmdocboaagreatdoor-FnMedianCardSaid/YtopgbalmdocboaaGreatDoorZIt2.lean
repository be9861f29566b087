/- Walks of the functions, printed by program, and the logic behind them: each theorem says what one function or one step answers. -/
import Derived.Test.YtopgbalmdocboaaGreatDoorZTx
import Derived.Test.YtopgbalmdocboaaGreatDoorZSlice
import Derived.Test.YtopgbalmdocboaaGreatDoorZLi
namespace Go.Abs
set_option linter.unusedVariables false
set_option linter.unusedSimpArgs false
section
variable {P : Program} {G : Nat → D} {g g' : Gh} {l l' : Lo} {A A' : AH} {wr : Bool} {Prot : Nat → Prop} {w w' : World} {o : Oper} {ρ : Operand → D} {S : AH → Prop}

/-- A call whose arguments stay as they are: none of them is the caller's own. -/
theorem run_callN {x : Operand} {args : Array Operand} {Ts : Array TypeId} (ho : o.op = .call { callee := .value x, args := args, argTypes := Ts }) {f : FuncId} [hf : FN P f] {us vs : List D} (hx : ρ x = .fn f us vs) {ds : List D}
    (hds : us ++ args.toList.map ρ ++ vs = ds) (hext : ext.extL ds = true) {a : Act} (hops : ∀ x ∈ o.op.operands, rep g l (ρ x) (a.eval x)) :
    ∃ cargs : List Value, (execOp a.eval o).run P w = .ok (.enter f cargs.toArray) w ∧ repL g Lo.none ds cargs := by
  have hx0 := hops x (by simp [ho, Op.operands, Call.operands])
  rw [hx] at hx0
  simp only [rep] at hx0
  obtain ⟨u, v, h1, h2, h3⟩ := hx0
  have hargs : repL g l (args.toList.map ρ) (args.toList.map a.eval) := by
    have key : ∀ xs : List Operand, (∀ x ∈ xs, x ∈ args.toList) → repL g l (xs.map ρ) (xs.map a.eval) := fun xs => by
      induction xs with
      | nil => intro _; simp [repL]
      | cons y ys ih =>
        intro hy
        simp only [List.map_cons, repL]
        exact ⟨_, _, rfl, hops y (by have := hy y (by simp); simp [ho, Op.operands, Call.operands]; exact .inr (by simpa using this)), ih fun z hz => hy z (by simp [hz])⟩
    exact key _ fun _ h => h
  refine ⟨u ++ args.toList.map a.eval ++ v, ?_, ?_⟩
  · have hr := hf.run (u.toArray ++ args.map a.eval ++ v.toArray) w
    simp only [execOp, ho, resolve, h1, Deferred.ofValue, Sem.run_bind, Sem.run_pure, Result.andThen_ok, invoke, hr]
    congr 2
    apply Array.ext'
    simp
  · subst hds
    exact repL_ext _ hext (repL_append (repL_append h2 hargs) h3)
theorem ao_callHN {x : Operand} {args : Array Operand} {Ts : Array TypeId} {f : FuncId} [FN P f] {us vs : List D} {ds : List D} {R : D → Heap → Prop} {Kv : D → AH → Prop} (ho : o.op = .call { callee := .value x, args := args, argTypes := Ts }) (hx : ρ x = .fn f us vs) (hds : us ++ args.toList.map ρ ++ vs = ds) (hext : ext.extL ds = true) (hc : ACall P G f true ds A.h R) (hk : ∀ v h', R v h' → Kv v { A with h := h' }) : AOp P G true o ρ A Kv := by
  intro g l Prot w a hr hops K Q hK
  obtain ⟨cargs, h1, h2⟩ := run_callN (P := P) (w := w) ho hx hds hext hops
  unfold Oper.wp
  rw [h1, Oper.upon_enter]
  refine (hc g _ w cargs (call_inW hr) h2).mono ?_
  rintro e w' ⟨cv, v, h', g', rfl, hq, hf, hr', hv⟩
  obtain ⟨k1, k2⟩ := call_backW hr hf hr'
  exact hK v _ g' l w' cv (hk v h' hq) k2 (Lo.le.refl _) k1 (rep_mono (Gh.le.refl _) _ (Lo.le.none _) hv)

/-- A row of one's own: an empty literal yet, or a row that grows. -/
def IsOwn (A : AH) (e : Nat) (d : D) (n : Nat) (xs : List D) : Prop := (n = 0 ∧ xs = [] ∧ d = .lit [] 0) ∨ ∃ t, d = .gs t e xs n ∧ A.live t = true

/-- A nil slice within an object of one's own, from now on a row that will grow. -/
theorem as_mvNil {x : Operand} {d : D} {id off e : Nat} {cs : List D} (ho : o.op = .assign x ∨ o.op = .move x) (hx : ρ x = d) (hA : A.o[id]? = some (.cells cs)) (hc : cs[off]? = some (.sc (.slice none 0 0))) :
    AS P G wr o ρ A d ((A.tags 1).set id (.cells (cs.set off (.gs A.ln e [] 0)))) := by
  intro g l Prot w a hr hops K Q hk
  have hx0 := hops x (by rcases ho with ho | ho <;> simp [ho, Op.operands])
  rw [hx] at hx0
  obtain ⟨b, hι, hnp, hlt, hh⟩ := hr.loc id _ hA
  simp only [Holds] at hh
  obtain ⟨vs, sp, e', f, hb, hrl, hfro⟩ := hh
  have hrt := hr.tags 1
  have hl := hrt.set_local (ob := .cells (cs.set off (.gs A.ln e [] 0))) (w' := w) (List.getElem?_eq_some_iff.1 hA).1 hι rfl (fun _ _ => rfl) (by
    simp only [Holds]
    refine ⟨vs, sp, e', f, hb, repL_mk (by rw [repL_length hrl, List.length_set]) fun i d' hd => ?_, fun o' ho' => hfro o' (by rw [List.length_set] at ho'; exact ho')⟩
    rw [List.getElem?_set] at hd
    by_cases hi : off = i
    · subst hi
      rw [if_pos rfl] at hd
      split at hd
      · cases hd
        obtain ⟨v, h1, h2⟩ := repL_get hrl off _ hc
        simp only [rep] at h2
        exact ⟨v, h1, by simp only [rep]; exact .inl ⟨trivial, trivial, h2⟩⟩
      · cases hd
    · rw [if_neg hi] at hd
      exact repL_get hrl i d' hd)
  unfold Oper.wp
  have hrun : (execOp a.eval o).run P w = .ok (.value (a.eval x)) w := by rcases ho with ho | ho <;> simp [execOp, ho]
  rw [hrun]
  exact hk g l w _ (Fr.refl _ _ _) (Lo.le.refl _) hl hx0
end
end Go.Abs
namespace Go.Abs
set_option linter.unusedVariables false
set_option linter.unusedSimpArgs false
section
variable {P : Program} {G : Nat → D} {A A' : AH} {wr : Bool} {o : Oper} {ρ : Operand → D}
theorem as_mvNilT {x : Operand} {d : D} {os tail tail' : List LO} {j off e : Nat} {cs : List D} (ho : o.op = .assign x ∨ o.op = .move x) (hx : ρ x = d) (hA : A.o = os ++ tail) (ht : tail[j]? = some (.cells cs)) (hc : cs[off]? = some (.sc (.slice none 0 0))) (ht' : tail.set j (.cells (cs.set off (.gs A.ln e [] 0))) = tail') :
    AS P G wr o ρ A d { A.tags 1 with o := os ++ tail' } := by
  subst ht'
  have h := as_mvNil (P := P) (G := G) (wr := wr) (A := A) (id := os.length + j) (off := off) (e := e) (cs := cs) ho hx (by rw [hA, List.getElem?_append_right (by omega)]; simpa using ht) hc
  have e1 : (A.tags 1).set (os.length + j) (.cells (cs.set off (.gs A.ln e [] 0))) = { A.tags 1 with o := os ++ tail.set j (.cells (cs.set off (.gs A.ln e [] 0))) } := by
    show ({ A.tags 1 with o := (A.tags 1).o.set _ _ } : AH) = _
    rw [show (A.tags 1).o = os ++ tail from hA, List.set_append_right _ _ (by omega)]
    simp
  rw [e1] at h
  exact h
end
end Go.Abs
namespace Go.Abs
set_option linter.unusedVariables false
set_option linter.unusedSimpArgs false
section
variable {P : Program} {G : Nat → D} {g g' : Gh} {l l' : Lo} {A A' : AH} {wr : Bool} {Prot : Nat → Prop} {w w' : World} {o : Oper} {ρ : Operand → D} {S : AH → Prop}
def IsOwn2 (A : AH) (e : Nat) (d : D) (n : Nat) (xs : List D) : Prop := (d = .lit xs n) ∨ ∃ t, d = .gs t e xs n ∧ A.live t = true
theorem own2_fz {A : AH} {e n : Nat} {d : D} {xs : List D} (h : IsOwn2 A e d n xs) : fz d = .im xs n := by
  rcases h with rfl | ⟨t, rfl, _⟩ <;> rfl
theorem ao_appendOwn2 {T e : TypeId} {by_ : Nat} {zs : List Value} {s x : Operand} [hT : UN P T (.slice e)] [hZ : ZV P e by_ zs] {n m : Nat} {d dx : D} {xs ys : List D} {Kv : D → AH → Prop} (ho : o.op = .call { callee := .builtin .append, args := #[s, x], argTypes := #[T, T] }) (hs : ρ s = d) (hown : IsOwn2 A e d n xs) (hx : ρ x = dx) (hd : slc dx = some (ys, m)) (hm : 0 < m)
    (h0 : 0 < zs.length) (hxs : xs.length = n * zs.length) (hys : ys.length = m * zs.length) (hfit : (n + m) * by_ ≤ 140737488355328) (hmax : n + m ≤ maxLen)
    (hK : ∀ A' : AH, A'.o = A.o → A'.h = A.h → A'.live A.ln = true → Kv (.gs A.ln e (xs ++ ys) (n + m)) A') : AOp P G wr o ρ A Kv := by
  rcases hown with rfl | ⟨t, rfl, hl⟩
  · intro g l Prot w a hr hops K Q hk
    have hs0 := hops s (by simp [ho, Op.operands, Call.operands])
    have hx0 := hops x (by simp [ho, Op.operands, Call.operands])
    rw [hs] at hs0; rw [hx] at hx0
    simp only [rep] at hs0
    obtain ⟨b, hse, hS0⟩ := hs0
    obtain ⟨it, z, hi, hz, hzc, hsz, hby⟩ := hZ.eq
    have hzs : z.cells.size = zs.length := by simp [hzc]
    have hco : P.cellsOf e = zs.length := by simp [Program.cellsOf, hi, hsz]
    have hzl : ∀ k, (Builtin.zeroCells z.cells k).toList.length = k * zs.length := fun k => by simp [size_zeroCells, hzs]
    obtain ⟨olds, ho1, ho2, ho3⟩ := repS_vals hS0
    have hol : olds.length = n * it.size := by rw [repL_length ho1, hxs, hsz]
    have hoc : ∀ j u, olds[j]? = some u → w.cell? ((⟨b, 0, none⟩ : Addr).add j) = some u := fun j u hj => by
      rw [addr_add]; exact hr.sld _ _ _ (ho2 j u hj)
    rcases rep_slc hd hx0 with ⟨rfl, _, _⟩ | ⟨b2, oo, cap2, hxe, hmc, hS⟩
    · omega
    obtain ⟨news, hn1, hn2, hn3⟩ := repS_vals hS
    have hnl : news.length = m * it.size := by rw [repL_length hn1, hys, hsz]
    have hload : ∀ j u, news[j]? = some u → w.cell? ((⟨b2, oo, none⟩ : Addr).add j) = some u := fun j u hj => by rw [addr_add]; exact hr.sld _ _ _ (hn2 j u hj)
    have hrun := run_append_grow (P := P) w T o.type e it z hT.eq hi hz ⟨b, 0, none⟩ n n olds hol hoc ⟨b2, oo, none⟩ m cap2 news hnl hload (by omega) (by simp only [maxLen] at hmax; omega) (growslice_fits (by omega) (by rw [hby]; exact hfit))
    have hge := grownCap_ge w (n + m) n e
    have hcm := grownCap_le_maxLen w (n + m) n e hmax
    have hexec : (execOp a.eval o).run P w = .ok (.value (.slice (some ⟨w.heap.size, 0, none⟩) (n + m) (grownCap w (n + m) n e))) (w.drew.alloc (.cells (olds.toArray ++ news.toArray ++ Builtin.zeroCells z.cells (grownCap w (n + m) n e - (n + m))) e)) := by
      simp only [execOp, ho, resolve, invoke, builtin, Sem.run_bind, Sem.run_pure, Result.andThen_ok, List.map_toArray, List.map_cons, List.map_nil, hse, hxe, hrun]
    obtain ⟨k1, k2, k3⟩ := hr.new_row (w' := w.drew.alloc (.cells (olds.toArray ++ news.toArray ++ Builtin.zeroCells z.cells (grownCap w (n + m) n e - (n + m))) e)) (vs := olds ++ news) (sp := (Builtin.zeroCells z.cells (grownCap w (n + m) n e - (n + m))).toList) (e := e) (n := n + m) (cap := grownCap w (n + m) n e)
      (by rw [heap_drew_alloc]; congr 3; simp <;> (apply Array.ext'; simp)) ⟨rfl, rfl⟩ (by rw [List.length_append, hol, hnl, hco, hsz, Nat.add_mul]) hge hcm (by
        rw [List.length_append, List.length_append, hol, hnl, hco, hsz, hzl, ← Nat.add_mul, ← Nat.add_mul, Nat.add_sub_cancel' hge])
    unfold Oper.wp
    rw [hexec]
    refine hk _ A.row _ _ _ _ (hK A.row rfl rfl (by simp [AH.row])) k2 k3 k1 ?_
    simp only [rep]
    exact .inr ⟨⟨w.heap.size, grownCap w (n + m) n e, n + m, e⟩, by simp [Lo.row], rfl, rfl, rfl, hge, repS_sealed (repL_append (repL_mono k2.le _ (Lo.le.refl _) ho1) (repL_mono k2.le _ (Lo.le.refl _) hn1)) (fun u hu => (List.mem_append.1 hu).elim (ho3 u) (hn3 u))⟩
  · exact (as_append ho hs hl hx hd h0 hxs hys hfit hmax).op (hK _ rfl rfl (by simp [AH.app, AH.row, AH.kill]))
end
end Go.Abs
