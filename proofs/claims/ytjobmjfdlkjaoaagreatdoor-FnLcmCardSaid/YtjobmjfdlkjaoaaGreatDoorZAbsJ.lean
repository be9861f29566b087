/-
  The abstract logic, part J: calls, and the steps of a walk.
-/
import Derived.Test.YtjobmjfdlkjaoaaGreatDoorZAbsI
namespace Go.Abs
set_option linter.unusedVariables false
set_option linter.unusedSimpArgs false

/-- A function with a body. -/
class FN (P : Program) (f : FuncId) : Prop where
  run : ∀ (args : Array Value) (w : World), (callFunc f args).run P w = .ok (.enter f args) w

def noHeap : Heap := fun _ => none

/-- What a function answers, whatever memory holds. -/
def PC (P : Program) (G : Nat → D) (f : FuncId) (ds : List D) (R : D → Prop) : Prop := ACall P G f true ds noHeap fun v _ => R v
def PF (P : Program) (G : Nat → D) (f : FuncId) (ds : List D) (v : D) : Prop := PC P G f ds fun x => x = v

section
variable {P : Program} {G : Nat → D} {g g' : Gh} {l l' : Lo} {A A' : AH} {wr wr' : Bool} {Prot : Nat → Prop} {w w' : World} {N : Nat} {o : Oper} {ρ : Operand → D} {S : AH → Prop}

theorem PC.mono {f : FuncId} {ds : List D} {R R' : D → Prop} (h : PC P G f ds R) (hr : ∀ v, R v → R' v) : PC P G f ds R' := ACall.mono h fun v _ => hr v

theorem call_in0 (hr : Rel P G g l A wr Prot w) : Rel P G g Lo.none (AH.start noHeap) true (fun b => b < w.heap.size) w :=
  ⟨hr.glob, fun _ hb => hb, hr.sld, fun id ob ho => by simp [AH.start] at ho, fun _ _ => rfl, fun i j b e => by simp [Lo.none] at e, fun id b e => by simp [Lo.none] at e,
    fun t r ht => by simp [AH.start] at ht, fun t _ => ⟨rfl, rfl⟩, fun t t' r r' ht => by simp [AH.start] at ht,
    fun k cs hk => by simp [AH.start, noHeap] at hk, hr.shN, hr.shInj, hr.shLt⟩

theorem call_back0 (hr : Rel P G g l A wr Prot w) {h' : Heap} (hf : Fr (fun b => b < w.heap.size) g g' w w') (hr' : Rel P G g' Lo.none (AH.start h') wr' (fun b => b < w.heap.size) w') :
    Rel P G g' l A wr Prot w' ∧ Fr Prot g g' w w' :=
  call_back hr hf (h' := noHeap) (by
    exact ⟨hr'.glob, hr'.prot, hr'.sld, fun id ob ho => by simp [AH.start] at ho, fun _ _ => rfl, fun i j b e => by simp [Lo.none] at e, fun id b e => by simp [Lo.none] at e,
    fun t r ht => by simp [AH.start] at ht, fun t _ => ⟨rfl, rfl⟩, fun t t' r r' ht => by simp [AH.start] at ht,
    fun k cs hk => by simp [AH.start, noHeap] at hk, hr'.shN, hr'.shInj, hr'.shLt⟩)

theorem run_call {x : Operand} {args : Array Operand} {Ts : Array TypeId} (ho : o.op = .call { callee := .value x, args := args, argTypes := Ts }) {f : FuncId} [hf : FN P f] {us vs : List D} (hx : ρ x = .fn f us vs) {ds : List D}
    (hds : fzL (us ++ args.toList.map ρ ++ vs) = ds) (hext : ext.extL ds = true) {a : Act} (hops : ∀ x ∈ o.op.operands, rep g l (ρ x) (a.eval x)) :
    ∃ cargs : List Value, (execOp a.eval o).run P w = .ok (.enter f cargs.toArray) w ∧ repL g Lo.none ds cargs := by
  have hx0 := hops x (by simp [ho, Op.operands, Call.operands])
  rw [hx] at hx0
  simp only [rep] at hx0
  obtain ⟨u, v, h1, h2, h3⟩ := hx0
  have hargs : repL g l (args.toList.map ρ) (args.toList.map a.eval) := by
    have key : ∀ xs : List Operand, (∀ x ∈ xs, x ∈ args.toList) → repL g l (xs.map ρ) (xs.map a.eval) := fun xs => by
      induction xs with
      | nil => intro _; simp [repL]
      | cons y ys ih =>
        intro hy
        simp only [List.map_cons, repL]
        exact ⟨_, _, rfl, hops y (by have := hy y (by simp); simp [ho, Op.operands, Call.operands]; exact .inr (by simpa using this)), ih fun z hz => hy z (by simp [hz])⟩
    exact key _ fun _ h => h
  refine ⟨u ++ args.toList.map a.eval ++ v, ?_, ?_⟩
  · have hr := hf.run (u.toArray ++ args.map a.eval ++ v.toArray) w
    simp only [execOp, ho, resolve, h1, Deferred.ofValue, Sem.run_bind, Sem.run_pure, Result.andThen_ok, invoke, hr]
    congr 2
    apply Array.ext'
    simp
  · subst hds
    exact repL_ext _ hext (repL_fz _ (repL_append (repL_append h2 hargs) h3))

theorem ao_call {x : Operand} {args : Array Operand} {Ts : Array TypeId} {f : FuncId} [FN P f] {us vs : List D} {ds : List D} {R : D → Prop} {Kv : D → AH → Prop} (ho : o.op = .call { callee := .value x, args := args, argTypes := Ts }) (hx : ρ x = .fn f us vs) (hds : fzL (us ++ args.toList.map ρ ++ vs) = ds) (hext : ext.extL ds = true) (hc : PC P G f ds R) (hk : ∀ v, R v → Kv v A) : AOp P G wr o ρ A Kv := by
  intro g l Prot w a hr hops K Q hK
  obtain ⟨cargs, h1, h2⟩ := run_call (P := P) (w := w) ho hx hds hext hops
  unfold Oper.wp
  rw [h1, Oper.upon_enter]
  refine (hc g _ w cargs (call_in0 hr) h2).mono ?_
  rintro e w' ⟨cv, v, h', g', rfl, hq, hf, hr', hv⟩
  obtain ⟨k1, k2⟩ := call_back0 hr hf hr'
  exact hK v A g' l w' cv (hk v hq) k2 (Lo.le.refl _) k1 (rep_mono (Gh.le.refl _) _ (Lo.le.none _) hv)

theorem q_call {x : Operand} {args : Array Operand} {Ts : Array TypeId} {f : FuncId} [FN P f] {us vs : List D} {ds : List D} {v : D} (ho : o.op = .call { callee := .value x, args := args, argTypes := Ts }) (hx : ρ x = .fn f us vs) (hds : fzL (us ++ args.toList.map ρ ++ vs) = ds) (hext : ext.extL ds = true) (hc : PF P G f ds v) : AQ P G wr o ρ S v := by
  intro g l Prot w a A hS hr hops K Q hK
  obtain ⟨cargs, h1, h2⟩ := run_call (P := P) (w := w) ho hx hds hext hops
  unfold Oper.wp
  rw [h1, Oper.upon_enter]
  refine (hc g _ w cargs (call_in0 hr) h2).mono ?_
  rintro e w' ⟨cv, v, h', g', rfl, rfl, hf, hr', hv⟩
  obtain ⟨k1, k2⟩ := call_back0 hr hf hr'
  exact hK g' w' cv k2 k1 (rep_mono (Gh.le.refl _) _ (Lo.le.none _) hv)

/-- A call that reads or writes shared objects. -/
theorem ao_callH {x : Operand} {args : Array Operand} {Ts : Array TypeId} {f : FuncId} [FN P f] {us vs : List D} {ds : List D} {R : D → Heap → Prop} {Kv : D → AH → Prop} (ho : o.op = .call { callee := .value x, args := args, argTypes := Ts }) (hx : ρ x = .fn f us vs) (hds : fzL (us ++ args.toList.map ρ ++ vs) = ds) (hext : ext.extL ds = true) (hc : ACall P G f true ds A.h R) (hk : ∀ v h', R v h' → Kv v { A with h := h' }) : AOp P G true o ρ A Kv := by
  intro g l Prot w a hr hops K Q hK
  obtain ⟨cargs, h1, h2⟩ := run_call (P := P) (w := w) ho hx hds hext hops
  unfold Oper.wp
  rw [h1, Oper.upon_enter]
  refine (hc g _ w cargs (call_inW hr) h2).mono ?_
  rintro e w' ⟨cv, v, h', g', rfl, hq, hf, hr', hv⟩
  obtain ⟨k1, k2⟩ := call_backW hr hf hr'
  exact hK v _ g' l w' cv (hk v h' hq) k2 (Lo.le.refl _) k1 (rep_mono (Gh.le.refl _) _ (Lo.le.none _) hv)

/-! Steps. -/
variable {ops : Array Oper} {rest : List Oper} {env : Env} {K : Env → AH → Prop} {Q : Exit → Env → AH → Prop}

theorem s_nil (h : K env A) : aops P G wr ops [] env A K := h
theorem s_q {v : D} {d : Nat} (hw : wantedD ops env o = some true) (hd : o.dst = some d) (h : AQ P G wr o (evalD G env) (ExtA A) v) (hk : aops P G wr ops rest (upd env d v) A K) : aops P G wr ops (o :: rest) env A K :=
  .inl ⟨hw, (h.as (ExtA.refl A)).op (by rw [hd]; exact hk)⟩
theorem s_s {v : D} {d : Nat} (hw : wantedD ops env o = some true) (hd : o.dst = some d) (h : AS P G wr o (evalD G env) A v A') (hk : aops P G wr ops rest (upd env d v) A' K) : aops P G wr ops (o :: rest) env A K :=
  .inl ⟨hw, h.op (by rw [hd]; exact hk)⟩
theorem s_u {v : D} (hw : wantedD ops env o = some true) (hd : o.dst = none) (h : AS P G wr o (evalD G env) A v A') (hk : aops P G wr ops rest env A' K) : aops P G wr ops (o :: rest) env A K :=
  .inl ⟨hw, h.op (by rw [hd]; exact hk)⟩
theorem s_o {d : Nat} (hw : wantedD ops env o = some true) (hd : o.dst = some d) (h : AOp P G wr o (evalD G env) A fun v A' => aops P G wr ops rest (upd env d v) A' K) : aops P G wr ops (o :: rest) env A K :=
  .inl ⟨hw, h.mono fun v A' hh => by rw [hd]; exact hh⟩
theorem s_off {d : Nat} (hw : wantedD ops env o = some false) (hd : o.dst = some d) (hk : aops P G wr ops rest (upd env d (.sc undef)) A K) : aops P G wr ops (o :: rest) env A K :=
  .inr ⟨hw, by rw [hd]; exact hk⟩
theorem s_offU (hw : wantedD ops env o = some false) (hd : o.dst = none) (hk : aops P G wr ops rest env A K) : aops P G wr ops (o :: rest) env A K :=
  .inr ⟨hw, by rw [hd]; exact hk⟩

theorem upd_self (env : Env) (t : Nat) : upd env t (env t) = env := by
  funext i; rw [upd_at]; split
  · rename_i h; rw [h]
  · rfl
theorem s_split {b : Bool} (t : Nat) (ht : env t = .sc (.bool b)) (h1 : b = true → aops P G wr ops rest (upd env t (.sc (.bool true))) A K) (h0 : b = false → aops P G wr ops rest (upd env t (.sc (.bool false))) A K) : aops P G wr ops rest env A K := by
  cases b with
  | true => have := h1 rfl; rw [← ht, upd_self] at this; exact this
  | false => have := h0 rfl; rw [← ht, upd_self] at this; exact this

theorem w_reg {id : Nat} (h : aops P G wr ops ops.toList env A (Q .normal)) : aw P G wr (.region id ops false) Q env A := h
theorem w_seq {x y : Code} (h : aw P G wr x (thenQ (aw P G wr y Q) Q) env A) : aw P G wr (.seq x y) Q env A := h
theorem w_skip (h : Q .normal env A) : aw P G wr .skip Q env A := h
theorem w_ret (h : Q .ret env A) : aw P G wr .ret Q env A := h
theorem w_exit {i : Nat} (h : Q (.exit i) env A) : aw P G wr (.exit i) Q env A := h
theorem w_block {i : Nat} {c : Code} (h : aw P G wr c (blockQ i Q) env A) : aw P G wr (.block i c) Q env A := h
theorem w_if {c : Operand} {x y : Code} {b : Bool} (hb : evalD G env c = .sc (.bool b)) (h1 : b = true → aw P G wr x Q env A) (h0 : b = false → aw P G wr y Q env A) : aw P G wr (.cond c x y) Q env A := ⟨b, hb, h1, h0⟩
theorem w_ifT {c : Operand} {x y : Code} (hb : evalD G env c = .sc (.bool true)) (h : aw P G wr x Q env A) : aw P G wr (.cond c x y) Q env A := ⟨true, hb, fun _ => h, fun e => by cases e⟩
theorem w_ifF {c : Operand} {x y : Code} (hb : evalD G env c = .sc (.bool false)) (h : aw P G wr y Q env A) : aw P G wr (.cond c x y) Q env A := ⟨false, hb, fun e => (by cases e), fun _ => h⟩
theorem w_loop {c : Code} (I : Env → AH → Prop) (μ : Env → AH → Nat) (h0 : I env A) (h : ∀ env A, I env A → aw P G wr c (thenQ (fun env' A' => I env' A' ∧ μ env' A' < μ env A) Q) env A) : aw P G wr (.loop c) Q env A := ⟨I, μ, h0, h⟩

variable {next : Env → AH → Prop}
theorem n_n (h : next env A) : thenQ next Q .normal env A := h
theorem n_r (h : Q .ret env A) : thenQ next Q .ret env A := h
theorem n_e {i : Nat} (h : Q (.exit i) env A) : thenQ next Q (.exit i) env A := h
theorem b_n {i : Nat} (h : Q .normal env A) : blockQ i Q .normal env A := h
theorem b_r {i : Nat} (h : Q .ret env A) : blockQ i Q .ret env A := h
theorem b_hit {i : Nat} (h : Q .normal env A) : blockQ i Q (.exit i) env A := by simp only [blockQ, if_true]; exact h
theorem b_miss {i j : Nat} (hne : Nat.beq j i = false) (h : Q (.exit j) env A) : blockQ i Q (.exit j) env A := by
  have : ¬ j = i := fun e => by rw [e] at hne; simp at hne
  simp only [blockQ, if_neg this]; exact h

/-- Q may grow. -/
theorem aw_mono : ∀ (c : Code) {Q Q' : Exit → Env → AH → Prop} {env : Env} {A : AH}, aw P G wr c Q env A → (∀ e env A, Q e env A → Q' e env A) → aw P G wr c Q' env A
  | .skip, _, _, _, _, h, hq => hq _ _ _ h
  | .ret, _, _, _, _, h, hq => hq _ _ _ h
  | .exit _, _, _, _, _, h, hq => hq _ _ _ h
  | .region _ ops false, Q, Q', env, A, h, hq => by
    have key : ∀ (rest : List Oper) (env : Env) (A : AH), aops P G wr ops rest env A (Q .normal) → aops P G wr ops rest env A (Q' .normal) := by
      intro rest
      induction rest with
      | nil => intro env A h; exact hq _ _ _ h
      | cons o rest ih =>
        intro env A h
        rcases h with ⟨hw, h⟩ | ⟨hw, h⟩
        · exact .inl ⟨hw, h.mono fun v A' => ih _ _⟩
        · exact .inr ⟨hw, ih _ _ h⟩
    exact key _ _ _ h
  | .region _ ops true, Q, Q', env, A, h, hq => by
    obtain ⟨an, ks, h1, h2⟩ := h
    have key : ∀ (rest : List Oper) (ks : List Nat) (env : Env) (A : AH), adraw P G wr ops ks rest env A (Q .normal) → adraw P G wr ops ks rest env A (Q' .normal) := by
      intro rest
      induction rest with
      | nil => intro ks env A h; cases ks with | nil => exact hq _ _ _ h | cons _ _ => exact h
      | cons o rest ih =>
        intro ks env A h
        cases ks with
        | nil => exact h
        | cons k ks =>
          rcases h with ⟨h1, h2, v, h3, h4⟩ | ⟨h1, h2, v, h3, h4⟩ | ⟨h1, h2, v, A', h3, h4, h5⟩ | ⟨h1, h2, v, A', h3, h4⟩ | ⟨h1, h2⟩
          · exact .inl ⟨h1, h2, v, h3, ih _ _ _ h4⟩
          · exact .inr (.inl ⟨h1, h2, v, h3, ih _ _ _ h4⟩)
          · exact .inr (.inr (.inl ⟨h1, h2, v, A', h3, h4, ih _ _ _ h5⟩))
          · exact .inr (.inr (.inr (.inl ⟨h1, h2, v, A', h3, ih _ _ _ h4⟩)))
          · exact .inr (.inr (.inr (.inr ⟨h1, ih _ _ _ h2⟩)))
    exact ⟨an, ks, h1, key _ _ _ _ h2⟩
  | .seq a b, Q, Q', env, A, h, hq => aw_mono a h fun e env A h' => by
    cases e with
    | normal => exact aw_mono b h' hq
    | exit i => exact hq _ _ _ h'
    | ret => exact hq _ _ _ h'
    | goto i => exact h'
    | panic c => exact h'
    | outgrown => exact h'
  | .cond c x y, Q, Q', env, A, h, hq => by
    obtain ⟨b, hb, h1, h0⟩ := h
    exact ⟨b, hb, fun e => aw_mono x (h1 e) hq, fun e => aw_mono y (h0 e) hq⟩
  | .block id body, Q, Q', env, A, h, hq => aw_mono body h fun e env A h' => by
    cases e with
    | normal => exact hq _ _ _ h'
    | ret => exact hq _ _ _ h'
    | exit i =>
      simp only [blockQ] at h' ⊢
      split
      · rename_i e; rw [if_pos e] at h'; exact hq _ _ _ h'
      · rename_i e; rw [if_neg e] at h'; exact hq _ _ _ h'
    | goto i => exact h'
    | panic c => exact h'
    | outgrown => exact h'
  | .loop body, Q, Q', env, A, h, hq => by
    obtain ⟨I, μ, h0, h1⟩ := h
    exact ⟨I, μ, h0, fun env A hI => aw_mono body (h1 env A hI) fun e env' A' h' => by
      cases e with
      | normal => exact h'
      | exit i => exact hq _ _ _ h'
      | ret => exact hq _ _ _ h'
      | goto i => exact h'
      | panic c => exact h'
      | outgrown => exact h'⟩
  | .rangeFunc .., _, _, _, _, h, _ => h.elim
  | .scope _, _, _, _, _, h, _ => h.elim
  | .label _, _, _, _, _, h, _ => h.elim
  | .goto _, _, _, _, _, h, _ => h.elim
  | .refuse _, _, _, _, _, h, _ => h.elim

/-- A cut between two pieces of code. -/
theorem w_cut {x y : Code} (R : Env → AH → Prop) (h : aw P G wr x (thenQ R Q) env A) (hk : ∀ env A, R env A → aw P G wr y Q env A) : aw P G wr (.seq x y) Q env A :=
  aw_mono x h fun e env A h' => by
    cases e with
    | normal => exact hk _ _ h'
    | exit i => exact h'
    | ret => exact h'
    | goto i => exact h'
    | panic c => exact h'
    | outgrown => exact h'

/-- A contract from code. -/
theorem PC.intro (hm : P.follows .mixedOrders = true) {f : FuncId} {fn : Func} {c : Code} (hf : P.funcs[f]? = some fn) (hb : fn.body = some c) {ds : List D} (hn : ds.length ≤ fn.ntmps) (hN : okN fn.ntmps c = true) {R : D → Prop}
    (hw : aw P G true c (retQ P fn fun v _ => R v) (env0 ds) (AH.start noHeap)) : PC P G f ds R := ACall.intro hm hf hb hn hN hw

/-- At the end. -/
theorem r_r {fn : Func} {R : D → Heap → Prop} {ds : List D} {v : D} {h' : Heap} (h1 : ResAll P env A fn.results.toList ds) (hv : fz (pack ds) = v) (he : ext v = true) (hs : Sub h' A.h) (h : R v h') : retQ P fn R .ret env A := by
  subst hv; exact ⟨ds, h', h1, he, hs, h⟩
theorem r_n {fn : Func} {R : D → Heap → Prop} {ds : List D} {v : D} {h' : Heap} (h1 : ResAll P env A fn.results.toList ds) (hv : fz (pack ds) = v) (he : ext v = true) (hs : Sub h' A.h) (h : R v h') : retQ P fn R .normal env A := by
  subst hv; exact ⟨ds, h', h1, he, hs, h⟩
theorem ra_nil : ResAll P env A [] [] := rfl
theorem ra_tmp {t : Nat} {rs : List ResultVar} {d : D} {ds : List D} (h : env t = d) (hr : ResAll P env A rs ds) : ResAll P env A (.tmp t :: rs) (d :: ds) := ⟨d, ds, rfl, h, hr⟩
theorem ra_cell {t : Nat} {T : TypeId} {rs : List ResultVar} {d : D} {ds : List D} {agg : Bool} {sz : Nat} [hT : TI P T agg sz] (h : loadD A agg sz (env t) = some d) (hr : ResAll P env A rs ds) : ResAll P env A (.cell t T :: rs) (d :: ds) := ⟨d, ds, rfl, ⟨agg, sz, hT, h⟩, hr⟩

end
end Go.Abs
