/-
  The abstract logic, part C: what one operation does, a list of operations in order, and code.
-/
import Derived.Test.YtjobmjfdlkjaoaaGreatDoorZAbsB
namespace Go.Abs
set_option linter.unusedVariables false
set_option linter.unusedSimpArgs false

structure Ag (g : Gh) (l : Lo) (N : Nat) (env : Env) (a : Act) : Prop where
  size : a.tmps.size = N
  defers : a.defers = []
  tmps : ∀ t, rep g l (env t) (a.tmps.getD t undef)

section
variable {P : Program} {G : Nat → D} {g g' : Gh} {l l' : Lo} {A A' : AH} {wr : Bool} {Prot : Nat → Prop} {w w' : World} {N : Nat} {env : Env} {a : Act}

theorem Ag.mono (h : Ag g l N env a) (hg : g.le g') (hl : l.le l') : Ag g' l' N env a := ⟨h.size, h.defers, fun t => rep_mono hg _ hl (h.tmps t)⟩

theorem rep_eval (h : ∀ t, rep g l (env t) (a.tmps.getD t undef)) (hg : ∀ i, rep g Lo.none (G i) (.pointer (some ⟨i, 0, none⟩))) (x : Operand) : rep g l (evalD G env x) (a.eval x) := by
  cases x with
  | tmp t => exact h t
  | const v => simp [evalD, Act.eval, rep]
  | global i => exact rep_mono (Gh.le.refl _) _ (Lo.le.none _) (hg i)
  | func f => simp only [evalD, Act.eval, rep]; exact ⟨[], [], rfl, by simp [repL], by simp [repL]⟩

theorem Ag.eval (h : Ag g l N env a) (hr : Rel P G g l A wr Prot w) (x : Operand) : rep g l (evalD G env x) (a.eval x) := rep_eval h.tmps hr.glob x

theorem getD_put (a : Act) (d t : Nat) (v : Value) (hd : d < a.tmps.size) : (a.put (some d) v).tmps.getD t undef = if t = d then v else a.tmps.getD t undef := by
  simp only [Act.put, Array.getD_eq_getD_getElem?, Array.getElem?_setIfInBounds]
  by_cases e : d = t
  · subst e; simp [hd]
  · simp [e, Ne.symm e]

theorem upd_at (e : Env) (d : Nat) (v : D) (t : Nat) : upd e d v t = if t = d then v else e t := by
  simp only [upd]
  by_cases h : t = d
  · subst h; simp
  · have : Nat.beq t d = false := by
      cases hb : Nat.beq t d with
      | false => rfl
      | true => exact absurd (Nat.eq_of_beq_eq_true hb) h
    simp [this, h]

theorem Ag.put (h : Ag g l N env a) {d : Option Nat} (hd : ∀ x, d = some x → x < N) {v : D} {cv : Value} (hv : rep g l v cv) : Ag g l N (updO env d v) (a.put d cv) := by
  cases d with
  | none => exact h
  | some d =>
    have hlt : d < a.tmps.size := by rw [h.size]; exact hd d rfl
    refine ⟨by simp [Act.put, h.size], h.defers, fun t => ?_⟩
    simp only [updO]
    rw [getD_put a d t cv hlt, upd_at]
    split
    · exact hv
    · exact h.tmps t

/-- What operation o gives, of operands as told, in each of some states; the state stays. -/
def AQ (P : Program) (G : Nat → D) (wr : Bool) (o : Oper) (ρ : Operand → D) (S : AH → Prop) (v : D) : Prop :=
  ∀ (g : Gh) (l : Lo) (Prot : Nat → Prop) (w : World) (a : Act) (A : AH), S A → Rel P G g l A wr Prot w → (∀ x ∈ o.op.operands, rep g l (ρ x) (a.eval x)) →
    ∀ (K : Act → World → Prop) (Q : Exit → Act → World → Prop), (∀ g' w' cv, Fr Prot g g' w w' → Rel P G g' l A wr Prot w' → rep g' l v cv → K (a.put o.dst cv) w') → o.wp P a w K Q

/-- What operation o gives, and the state behind it. -/
def AS (P : Program) (G : Nat → D) (wr : Bool) (o : Oper) (ρ : Operand → D) (A : AH) (v : D) (A' : AH) : Prop :=
  ∀ (g : Gh) (l : Lo) (Prot : Nat → Prop) (w : World) (a : Act), Rel P G g l A wr Prot w → (∀ x ∈ o.op.operands, rep g l (ρ x) (a.eval x)) →
    ∀ (K : Act → World → Prop) (Q : Exit → Act → World → Prop), (∀ g' l' w' cv, Fr Prot g g' w w' → l.le l' → Rel P G g' l' A' wr Prot w' → rep g' l' v cv → K (a.put o.dst cv) w') → o.wp P a w K Q

/-- The same, told by what the rest wants. -/
def AOp (P : Program) (G : Nat → D) (wr : Bool) (o : Oper) (ρ : Operand → D) (A : AH) (Kv : D → AH → Prop) : Prop :=
  ∀ (g : Gh) (l : Lo) (Prot : Nat → Prop) (w : World) (a : Act), Rel P G g l A wr Prot w → (∀ x ∈ o.op.operands, rep g l (ρ x) (a.eval x)) →
    ∀ (K : Act → World → Prop) (Q : Exit → Act → World → Prop), (∀ v A' g' l' w' cv, Kv v A' → Fr Prot g g' w w' → l.le l' → Rel P G g' l' A' wr Prot w' → rep g' l' v cv → K (a.put o.dst cv) w') → o.wp P a w K Q

theorem AQ.as {o : Oper} {ρ : Operand → D} {S : AH → Prop} {v : D} (h : AQ P G wr o ρ S v) (hS : S A) : AS P G wr o ρ A v A :=
  fun g l Prot w a hr hx _ _ hk => h g l Prot w a A hS hr hx _ _ fun g' w' cv h1 h2 h3 => hk g' l w' cv h1 (Lo.le.refl _) h2 h3
theorem AS.op {o : Oper} {ρ : Operand → D} {v : D} (h : AS P G wr o ρ A v A') {Kv : D → AH → Prop} (hK : Kv v A') : AOp P G wr o ρ A Kv :=
  fun g l Prot w a hr hx _ _ hk => h g l Prot w a hr hx _ _ fun g' l' w' cv h1 h2 h3 h4 => hk v A' g' l' w' cv hK h1 h2 h3 h4
theorem AOp.mono {o : Oper} {ρ : Operand → D} {Kv Kv' : D → AH → Prop} (h : AOp P G wr o ρ A Kv) (hk : ∀ v A', Kv v A' → Kv' v A') : AOp P G wr o ρ A Kv' :=
  fun g l Prot w a hr hx _ _ k => h g l Prot w a hr hx _ _ fun v A' g' l' w' cv h0 => k v A' g' l' w' cv (hk v A' h0)

/-- Is an operation with a guard carried out? -/
def wantedD (ops : Array Oper) (env : Env) (o : Oper) : Option Bool :=
  match o.guard with
  | none => some true
  | some (j, b) =>
    match (ops[j]?).bind (·.dst) with
    | some t => match env t with
      | .sc (.bool c) => some (c == b)
      | .sc (.tuple _) => some false
      | _ => none
    | none => none

theorem wanted_of (ops : Array Oper) (o : Oper) {b : Bool} (h : wantedD ops env o = some b) (ht : ∀ t, o.looksAt ops |>.contains t → rep g l (env t) (a.tmps.getD t undef)) :
    Region.wanted o (yielded ops a.tmps) = b := by
  unfold wantedD at h
  unfold Region.wanted
  cases hg : o.guard with
  | none => simp only [hg] at h ⊢; exact Option.some.inj h
  | some x =>
    obtain ⟨j, want⟩ := x
    simp only [hg] at h ⊢
    cases hd : (ops[j]?).bind (·.dst) with
    | none => simp only [hd] at h; cases h
    | some t =>
      simp only [hd] at h
      cases he : env t with
      | sc v =>
        simp only [he] at h
        have hr := ht t (by simp [Oper.looksAt, hg, hd])
        rw [he] at hr
        simp only [rep] at hr
        rw [Array.getD_eq_getD_getElem?] at hr
        cases v <;> simp only at h <;> first | (cases h; done) | skip
        · rename_i c
          have hy : yielded ops a.tmps j = some c := by
            unfold yielded
            rw [hd]
            cases hx : a.tmps[t]? with
            | none => rw [hx] at hr; simp [undef] at hr
            | some y => rw [hx] at hr; simp at hr; subst hr; simp [hx]
          rw [hy]
          cases h
          cases c <;> cases want <;> rfl
        · have hy : yielded ops a.tmps j = none := by
            unfold yielded
            rw [hd]
            cases hx : a.tmps[t]? with
            | none => simp [hx]
            | some y => rw [hx] at hr; simp at hr; subst hr; simp [hx]
          rw [hy]
          cases h
          cases want <;> rfl
      | _ => simp only [he] at h; cases h

/-- Operations one behind the other. -/
def aops (P : Program) (G : Nat → D) (wr : Bool) (ops : Array Oper) : List Oper → Env → AH → (Env → AH → Prop) → Prop
  | [], env, A, K => K env A
  | o :: rest, env, A, K =>
    (wantedD ops env o = some true ∧ AOp P G wr o (evalD G env) A fun v A' => aops P G wr ops rest (updO env o.dst v) A' K) ∨
    (wantedD ops env o = some false ∧ aops P G wr ops rest (updO env o.dst (.sc undef)) A K)

/-- What holds of the machine where K holds of the state. -/
def Post (P : Program) (G : Nat → D) (wr : Bool) (N : Nat) (g : Gh) (l : Lo) (Prot : Nat → Prop) (w : World) (K : Env → AH → Prop) (a' : Act) (w' : World) : Prop :=
  ∃ env' A' g' l', K env' A' ∧ Fr Prot g g' w w' ∧ l.le l' ∧ Rel P G g' l' A' wr Prot w' ∧ Ag g' l' N env' a'

theorem Post.of_later {K : Env → AH → Prop} {a' : Act} {w'' : World} (hf : Fr Prot g g' w w') (hl : l.le l') (h : Post P G wr N g' l' Prot w' K a' w'') : Post P G wr N g l Prot w K a' w'' := by
  obtain ⟨env', A', g'', l'', h1, h2, h3, h4, h5⟩ := h
  exact ⟨env', A', g'', l'', h1, hf.trans h2, hl.trans h3, h4, h5⟩

theorem aops_sound (ops : Array Oper) (hN : ∀ o ∈ ops.toList, ∀ x, o.dst = some x → x < N) {K : Env → AH → Prop} {Q : Exit → Act → World → Prop} :
    ∀ (rest : List Oper) (k : Nat), rest = ops.toList.drop k → ∀ (env : Env) (A : AH) (g : Gh) (l : Lo) (w : World) (a : Act),
      aops P G wr ops rest env A K → Rel P G g l A wr Prot w → Ag g l N env a → (∀ a' w', Post P G wr N g l Prot w K a' w' → Q .normal a' w') →
      wpOps P ops Q (List.range' k rest.length) a w
  | [], k, _, env, A, g, l, w, a, h, hr, ha, hQ => by
    simp only [List.length_nil, List.range'_zero, wpOps]
    exact hQ a w ⟨env, A, g, l, h, Fr.refl _ _ _, Lo.le.refl _, hr, ha⟩
  | o :: rest, k, hk, env, A, g, l, w, a, h, hr, ha, hQ => by
    have hmem : o ∈ ops.toList := List.mem_of_mem_drop (i := k) (by rw [← hk]; exact List.mem_cons_self)
    have hget : ops[k]? = some o := by
      have : (ops.toList.drop k)[0]? = some o := by rw [← hk]; rfl
      rw [List.getElem?_drop] at this
      simpa using this
    have hk' : rest = ops.toList.drop (k + 1) := by
      have : (ops.toList.drop k).drop 1 = rest := by rw [← hk]; rfl
      rw [← this, List.drop_drop]
    simp only [List.length_cons, List.range'_succ]
    rw [wpOps_cons]
    unfold wpOp
    simp only [hget]
    simp only [aops] at h
    rcases h with ⟨hw, h⟩ | ⟨hw, h⟩
    · rw [if_pos (wanted_of ops o hw fun t _ => ha.tmps t)]
      refine .inl (h g l Prot w a hr (fun x _ => ha.eval hr x) _ _ ?_)
      intro v A' g' l' w' cv hK hf hl hr' hv
      refine aops_sound ops hN rest (k + 1) hk' _ _ g' l' w' _ hK hr' ((ha.mono hf.le hl).put (fun x hx => hN o hmem x hx) hv) ?_
      exact fun a' w'' hp => hQ a' w'' (hp.of_later hf hl)
    · rw [if_neg (by rw [wanted_of ops o hw fun t _ => ha.tmps t]; simp)]
      exact aops_sound ops hN rest (k + 1) hk' _ _ g l w _ h hr (ha.put (fun x hx => hN o hmem x hx) (by simp [rep])) hQ

end
end Go.Abs
