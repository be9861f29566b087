/-
  The abstract logic, part E: code, what a function is said to do, calls.
-/
import Derived.Test.YtjobmjfdlkjaoaaGreatDoorZAbsD
import Derived.LoopN
namespace Go.Abs
set_option linter.unusedVariables false
set_option linter.unusedSimpArgs false

def okN (N : Nat) : Code → Bool
  | .region _ ops _ => ops.toList.all fun o => match o.dst with | none => true | some d => Nat.blt d N
  | .seq a b => okN N a && okN N b
  | .cond _ a b => okN N a && okN N b
  | .block _ b => okN N b
  | .loop b => okN N b
  | _ => true

def thenQ (next : Env → AH → Prop) (Q : Exit → Env → AH → Prop) : Exit → Env → AH → Prop
  | .normal, e, A => next e A
  | .exit i, e, A => Q (.exit i) e A
  | .ret, e, A => Q .ret e A
  | _, _, _ => False

def blockQ (id : Nat) (Q : Exit → Env → AH → Prop) : Exit → Env → AH → Prop
  | .exit i, e, A => if i = id then Q .normal e A else Q (.exit i) e A
  | .normal, e, A => Q .normal e A
  | .ret, e, A => Q .ret e A
  | _, _, _ => False

/-- What code does, so that Q holds at its end. -/
def aw (P : Program) (G : Nat → D) (wr : Bool) : Code → (Exit → Env → AH → Prop) → Env → AH → Prop
  | .skip, Q => Q .normal
  | .region _ ops false, Q => fun env A => aops P G wr ops ops.toList env A (Q .normal)
  | .region _ ops true, Q => fun env A => ∃ an ks, drawOK ops an ks = true ∧ adraw P G wr ops ks ops.toList env A (Q .normal)
  | .seq a b, Q => aw P G wr a (thenQ (aw P G wr b Q) Q)
  | .cond c x y, Q => fun env A => ∃ b, evalD G env c = .sc (.bool b) ∧ (b = true → aw P G wr x Q env A) ∧ (b = false → aw P G wr y Q env A)
  | .block id body, Q => aw P G wr body (blockQ id Q)
  | .loop body, Q => fun env A => ∃ (I : Env → AH → Prop) (μ : Env → AH → Nat), I env A ∧ ∀ env A, I env A → aw P G wr body (thenQ (fun env' A' => I env' A' ∧ μ env' A' < μ env A) Q) env A
  | .exit id, Q => Q (.exit id)
  | .ret, Q => Q .ret
  | _, _ => fun _ _ => False

section
variable {P : Program} {G : Nat → D} {wr : Bool} {N : Nat} {Prot : Nat → Prop}

def PostX (P : Program) (G : Nat → D) (wr : Bool) (N : Nat) (g : Gh) (l : Lo) (Prot : Nat → Prop) (w : World) (Q : Exit → Env → AH → Prop) : Exit → Act → World → Prop :=
  fun e a' w' => Post P G wr N g l Prot w (Q e) a' w'

theorem aw_sound (hm : P.follows .mixedOrders = true) : ∀ (c : Code) {Q : Exit → Env → AH → Prop} {env : Env} {A : AH}, okN N c = true → aw P G wr c Q env A →
    ∀ {g : Gh} {l : Lo} {w : World} {a : Act}, Rel P G g l A wr Prot w → Ag g l N env a → c.wp P (PostX P G wr N g l Prot w Q) a w
  | .skip, Q, env, A, _, h, g, l, w, a, hr, ha => wp_skip ⟨env, A, g, l, h, Fr.refl _ _ _, Lo.le.refl _, hr, ha⟩
  | .exit i, Q, env, A, _, h, g, l, w, a, hr, ha => wp_exit ⟨env, A, g, l, h, Fr.refl _ _ _, Lo.le.refl _, hr, ha⟩
  | .ret, Q, env, A, _, h, g, l, w, a, hr, ha => wp_ret ⟨env, A, g, l, h, Fr.refl _ _ _, Lo.le.refl _, hr, ha⟩
  | .region id ops false, Q, env, A, hN, h, g, l, w, a, hr, ha => by
    have hN' : ∀ o ∈ ops.toList, ∀ x, o.dst = some x → x < N := fun o ho x hx => by
      simp only [okN, List.all_eq_true] at hN
      have := hN o ho
      rw [hx] at this
      simpa [Nat.blt_eq] using this
    refine wp_region ?_
    rw [List.range_eq_range']
    have hs := aops_sound (P := P) (G := G) (wr := wr) ops hN' (K := Q .normal) (Q := PostX P G wr N g l Prot w Q) ops.toList 0 (by simp) env A g l w a h hr ha fun a' w' hp => hp
    simpa using hs
  | .region id ops true, Q, env, A, hN, h, g, l, w, a, hr, ha => by
    have hN' : ∀ o ∈ ops.toList, ∀ x, o.dst = some x → x < N := fun o ho x hx => by
      simp only [okN, List.all_eq_true] at hN
      have := hN o ho
      rw [hx] at this
      simpa [Nat.blt_eq] using this
    obtain ⟨an, ks, hok, hd⟩ := h
    exact region_draw_sound hm id ops hN' hok hd hr ha fun a' w' hp => hp
  | .seq x y, Q, env, A, hN, h, g, l, w, a, hr, ha => by
    simp only [okN, Bool.and_eq_true] at hN
    refine wp_seq (wp_mono (aw_sound hm x hN.1 h hr ha) ?_)
    intro e a' w' hp
    obtain ⟨env', A', g', l', h1, h2, h3, h4, h5⟩ := hp
    cases e with
    | normal =>
      refine wp_mono (aw_sound hm y hN.2 h1 h4 h5) fun e a'' w'' hp => ?_
      exact hp.of_later h2 h3
    | exit i => exact ⟨env', A', g', l', h1, h2, h3, h4, h5⟩
    | ret => exact ⟨env', A', g', l', h1, h2, h3, h4, h5⟩
    | goto i => exact h1.elim
    | panic c => exact h1.elim
    | outgrown => exact h1.elim
  | .cond c x y, Q, env, A, hN, h, g, l, w, a, hr, ha => by
    simp only [okN, Bool.and_eq_true] at hN
    obtain ⟨b, hb, ht, hf⟩ := h
    have he : a.eval c = .bool b := by
      have := ha.eval hr c
      rw [hb] at this
      simpa [rep] using this
    exact wp_cond_split he (fun e => aw_sound hm x hN.1 (ht e) hr ha) fun e => aw_sound hm y hN.2 (hf e) hr ha
  | .block id body, Q, env, A, hN, h, g, l, w, a, hr, ha => by
    refine wp_block (wp_mono (aw_sound hm body hN h hr ha) ?_)
    intro e a' w' hp
    obtain ⟨env', A', g', l', h1, h2, h3, h4, h5⟩ := hp
    cases e with
    | normal => exact ⟨env', A', g', l', h1, h2, h3, h4, h5⟩
    | ret => exact ⟨env', A', g', l', h1, h2, h3, h4, h5⟩
    | exit i =>
      simp only [Exit.inBlock]
      simp only [blockQ] at h1
      by_cases e : i = id
      · rw [if_pos e] at h1 ⊢; exact ⟨env', A', g', l', h1, h2, h3, h4, h5⟩
      · rw [if_neg e] at h1 ⊢; exact ⟨env', A', g', l', h1, h2, h3, h4, h5⟩
    | goto i => exact h1.elim
    | panic c => exact h1.elim
    | outgrown => exact h1.elim
  | .loop body, Q, env, A, hN, h, g, l, w, a, hr, ha => by
    obtain ⟨I, μ, h0, hround⟩ := h
    refine wp_loop_rounds (μ env A + 1) ?_
    have key : ∀ (n : Nat) (env : Env) (A : AH) (g' : Gh) (l' : Lo) (w' : World) (a' : Act), I env A → μ env A < n → Fr Prot g g' w w' → l.le l' → Rel P G g' l' A wr Prot w' → Ag g' l' N env a' →
        Code.rounds P body (PostX P G wr N g l Prot w Q) n a' w' := by
      intro n
      induction n with
      | zero => intro _ _ _ _ _ _ _ h; exact absurd h (Nat.not_lt_zero _)
      | succ n ih =>
        intro env A g' l' w' a' hI hμ hf hl hr' ha'
        rw [rounds_succ]
        refine wp_mono (aw_sound hm body hN (hround env A hI) hr' ha') ?_
        intro e a'' w'' hp
        obtain ⟨env', A', g'', l'', h1, h2, h3, h4, h5⟩ := hp
        cases e with
        | normal => exact ih env' A' g'' l'' w'' a'' h1.1 (by have := h1.2; omega) (hf.trans h2) (hl.trans h3) h4 h5
        | exit i => exact ⟨env', A', g'', l'', h1, hf.trans h2, hl.trans h3, h4, h5⟩
        | ret => exact ⟨env', A', g'', l'', h1, hf.trans h2, hl.trans h3, h4, h5⟩
        | goto i => exact h1.elim
        | panic c => exact h1.elim
        | outgrown => exact h1.elim
    exact key _ env A g l w a h0 (Nat.lt_succ_self _) (Fr.refl _ _ _) (Lo.le.refl _) hr ha
  | .rangeFunc .., _, _, _, _, h, _, _, _, _, _, _ => h.elim
  | .scope _, _, _, _, _, h, _, _, _, _, _, _ => h.elim
  | .label _, _, _, _, _, h, _, _, _, _, _, _ => h.elim
  | .goto _, _, _, _, _, h, _, _, _, _, _, _ => h.elim
  | .refuse _, _, _, _, _, h, _, _, _, _, _, _ => h.elim

end

/-! Types. -/
class TI (P : Program) (T : TypeId) (agg : outParam Bool) (sz : outParam Nat) : Prop where
  isAgg : ∀ w, (isAgg T).run P w = .ok agg w
  size : ∀ w, (sizeOf T).run P w = .ok sz w

/-! Loads. -/
def cellsAt (A : AH) : D → Option (List D × Nat)
  | .box id off => match A.o[id]? with
    | some (.cells cs) => some (cs, off)
    | _ => none
  | .hp k off => match A.h k with
    | some cs => some (cs, off)
    | none => none
  | .pin cs off => some (cs, off)
  | _ => none

def takeAt (agg : Bool) (sz : Nat) (cs : List D) (off : Nat) : Option D :=
  bif agg then (if off + sz ≤ cs.length then some (.agg ((cs.drop off).take sz)) else none) else cs[off]?

def loadD (A : AH) (agg : Bool) (sz : Nat) (d : D) : Option D :=
  match cellsAt A d with
  | some (cs, off) => takeAt agg sz cs off
  | none => none

section
variable {P : Program} {G : Nat → D} {g g' : Gh} {l : Lo} {A : AH} {wr : Bool} {Prot : Nat → Prop} {w w' : World} {N : Nat}

theorem cellsAt_cell (hr : Rel P G g l A wr Prot w) {d : D} {cs : List D} {off : Nat} (h : cellsAt A d = some (cs, off)) {x : Value} (hx : rep g l d x) :
    ∃ b o, x = .pointer (some ⟨b, o + off, none⟩) ∧ ∀ i e, cs[i]? = some e → ∃ v, w.cell? ⟨b, o + i, none⟩ = some v ∧ rep g l e v := by
  unfold cellsAt at h
  split at h
  · rename_i id off'
    split at h
    · rename_i cs' ho
      cases h
      simp only [rep] at hx
      obtain ⟨b, h1, h2⟩ := hx
      obtain ⟨b', h3, _, _, h4⟩ := hr.loc id _ ho
      rw [h1] at h3; cases h3
      simp only [Holds] at h4
      obtain ⟨vs, sp, e, f, h5, h6, _⟩ := h4
      refine ⟨b, 0, by simpa using h2, fun i e' he => ?_⟩
      obtain ⟨v, h7, h8⟩ := repL_get h6 i e' he
      refine ⟨v, ?_, h8⟩
      simp only [World.cell?, Nat.zero_add, h5]
      simp
      rw [List.getElem?_append_left (List.getElem?_eq_some_iff.1 h7).1]; exact h7
    · cases h
  · rename_i k off'
    split at h
    · rename_i cs' ho
      cases h
      simp only [rep] at hx
      obtain ⟨b, h1, h2⟩ := hx
      obtain ⟨b', vs, e, h3, _, h5, h6⟩ := hr.sh k _ ho
      rw [h1] at h3; cases h3
      refine ⟨b, 0, by simpa using h2, fun i e' he => ?_⟩
      obtain ⟨v, h7, h8⟩ := repL_get h6 i e' he
      refine ⟨v, ?_, rep_mono (Gh.le.refl _) _ (Lo.le.none _) h8⟩
      simp only [World.cell?, Nat.zero_add, h5]
      simpa using h7
    · cases h
  · cases h
    simp only [rep] at hx
    obtain ⟨b, o, h1, h2⟩ := hx
    refine ⟨b, o, h1, fun i e' he => ?_⟩
    obtain ⟨v, h7, _, h8⟩ := repS_get h2 i e' he
    exact ⟨v, hr.sld _ _ _ h7, rep_mono (Gh.le.refl _) _ (Lo.le.none _) h8⟩
  · cases h

theorem addr_add (b o n : Nat) : (⟨b, o, none⟩ : Addr).add n = ⟨b, o + n, none⟩ := by
  unfold Addr.add
  split
  · rename_i h; subst h; rfl
  · rfl

theorem run_load_agg {T : TypeId} {agg : Bool} {sz : Nat} [hT : TI P T agg sz] (hr : Rel P G g l A wr Prot w) {d v : D} (h : loadD A agg sz d = some v) {x : Value} (hx : rep g l d x) :
    ∃ ad cv, x = .pointer (some ad) ∧ (loadVar T ad).run P w = .ok cv w ∧ rep g l v cv := by
  unfold loadD at h
  split at h
  · rename_i cs off hc
    obtain ⟨b, o, rfl, hcell⟩ := cellsAt_cell hr hc hx
    unfold takeAt at h
    cases agg with
    | false =>
      simp only [cond_false] at h
      obtain ⟨cv, h1, h2⟩ := hcell off v h
      refine ⟨_, cv, rfl, ?_, h2⟩
      simp only [loadVar, Sem.run_bind, hT.isAgg, Result.andThen_ok, Bool.false_eq_true, if_false, run_load, h1]
    | true =>
      simp only [cond_true] at h
      split at h
      · rename_i hle
        cases h
        have : ∃ vs : List Value, repL g l ((cs.drop off).take sz) vs ∧ ∀ j u, vs[j]? = some u → w.cell? ((⟨b, o + off, none⟩ : Addr).add j) = some u := by
          have hall : ∀ n, n ≤ sz → ∃ vs : List Value, repL g l ((cs.drop off).take n) vs ∧ ∀ j u, vs[j]? = some u → w.cell? ((⟨b, o + off, none⟩ : Addr).add j) = some u := by
            intro n
            induction n with
            | zero => intro _; exact ⟨[], by simp [repL], fun j u h => by simp at h⟩
            | succ n ih =>
              intro hn
              obtain ⟨vs, h1, h2⟩ := ih (by omega)
              have hlt : off + n < cs.length := by omega
              obtain ⟨cv, h3, h4⟩ := hcell (off + n) cs[off + n] (by simp [hlt])
              have hlen := repL_length h1
              have hl : ((cs.drop off).take n).length = n := by simp; omega
              refine ⟨vs ++ [cv], ?_, fun j u hj => ?_⟩
              · have e : (cs.drop off).take (n + 1) = (cs.drop off).take n ++ [cs[off + n]] := by
                  rw [List.take_succ_eq_append_getElem (by simp; omega)]
                  simp
                rw [e]
                exact repL_append h1 (by simp only [repL]; exact ⟨cv, [], rfl, h4, rfl⟩)
              · rcases Nat.lt_or_ge j vs.length with hj' | hj'
                · rw [List.getElem?_append_left hj'] at hj; exact h2 j u hj
                · rw [List.getElem?_append_right hj'] at hj
                  have : j = n := by
                    rcases Nat.eq_zero_or_pos (j - vs.length) with h0 | h0
                    · omega
                    · rw [List.getElem?_eq_none (by simp; omega)] at hj; cases hj
                  subst this
                  rw [hlen, hl, Nat.sub_self] at hj
                  simp at hj; subst hj
                  rw [addr_add, Nat.add_assoc]; exact h3
          exact hall sz (Nat.le_refl _)
        obtain ⟨vs, h1, h2⟩ := this
        have hlen : vs.length = sz := by rw [repL_length h1]; simp; omega
        refine ⟨_, .agg vs.toArray, rfl, ?_, by simp only [rep]; exact ⟨vs, rfl, h1⟩⟩
        have hl := run_loadCells_list (P := P) w ⟨b, o + off, none⟩ vs h2
        rw [hlen] at hl
        simp only [loadVar, Sem.run_bind, hT.isAgg, hT.size, Result.andThen_ok, if_true, hl, Sem.run_pure]
      · cases h
  · cases h

end

/-! What a function is said to do. -/
abbrev Heap := Nat → Option (List D)

def AH.start (h : Heap) : AH := ⟨[], fun _ => false, 0, h⟩

/-- Called with ds in a shared heap h, function f returns a value v and leaves a heap h' such that Q. -/
def ACall (P : Program) (G : Nat → D) (f : FuncId) (wr : Bool) (ds : List D) (h : Heap) (Q : D → Heap → Prop) : Prop :=
  ∀ (g : Gh) (Prot : Nat → Prop) (w : World) (cargs : List Value), Rel P G g Lo.none (AH.start h) wr Prot w → repL g Lo.none ds cargs →
    Calls P f cargs.toArray w fun e w' => ∃ cv v h' g', e = .returned cv ∧ Q v h' ∧ Fr Prot g g' w w' ∧ Rel P G g' Lo.none (AH.start h') wr Prot w' ∧ rep g' Lo.none v cv

theorem ACall.mono {P : Program} {G : Nat → D} {f : FuncId} {wr : Bool} {ds : List D} {h : Heap} {Q Q' : D → Heap → Prop} (hc : ACall P G f wr ds h Q) (hq : ∀ v h', Q v h' → Q' v h') : ACall P G f wr ds h Q' :=
  fun g Prot w cargs hr hd => (hc g Prot w cargs hr hd).mono fun _ _ ⟨cv, v, h', g', h1, h2, h3⟩ => ⟨cv, v, h', g', h1, hq _ _ h2, h3⟩

/-- What stands in a result's place. -/
def ResIs (P : Program) (env : Env) (A : AH) : ResultVar → D → Prop
  | .tmp t, d => env t = d
  | .cell t T, d => ∃ agg sz, TI P T agg sz ∧ loadD A agg sz (env t) = some d

def ResAll (P : Program) (env : Env) (A : AH) : List ResultVar → List D → Prop
  | [], ds => ds = []
  | r :: rs, ds => ∃ d ds', ds = d :: ds' ∧ ResIs P env A r d ∧ ResAll P env A rs ds'

def pack : List D → D
  | [d] => d
  | ds => .tup ds

/-- A smaller heap. -/
def Sub (h' h : Heap) : Prop := ∀ k cs, h' k = some cs → h k = some cs
theorem Sub.refl (h : Heap) : Sub h h := fun _ _ e => e

def retQ (P : Program) (fn : Func) (Q : D → Heap → Prop) : Exit → Env → AH → Prop
  | .normal, env, A => ∃ ds h', ResAll P env A fn.results.toList ds ∧ ext (fz (pack ds)) = true ∧ Sub h' A.h ∧ Q (fz (pack ds)) h'
  | .ret, env, A => ∃ ds h', ResAll P env A fn.results.toList ds ∧ ext (fz (pack ds)) = true ∧ Sub h' A.h ∧ Q (fz (pack ds)) h'
  | _, _, _ => False

def env0 (ds : List D) : Env := fun t => (ds[t]?).getD (.sc undef)

section
variable {P : Program} {G : Nat → D} {g g' : Gh} {l : Lo} {A : AH} {wr : Bool} {Prot : Nat → Prop} {w w' : World} {N : Nat}

theorem Rel.leave (h : Rel P G g l A wr Prot w) {h' : Heap} (hs : Sub h' A.h) : Rel P G g Lo.none (AH.start h') wr Prot w :=
  ⟨h.glob, h.prot, h.sld, fun id ob ho => by simp [AH.start] at ho, fun _ _ => rfl, fun i j b e => by simp [Lo.none] at e, fun id b e => by simp [Lo.none] at e,
    fun t r ht => by simp [AH.start] at ht, fun t _ => ⟨rfl, rfl⟩, fun t t' r r' ht => by simp [AH.start] at ht, fun k cs hk => h.sh k cs (hs k cs hk), h.shN, h.shInj, h.shLt⟩

theorem run_results_mapM {env : Env} {a : Act} (hr : Rel P G g l A wr Prot w) (ha : Ag g l N env a) : ∀ (rs : List ResultVar) (ds : List D), ResAll P env A rs ds →
    ∃ vs : List Value, (rs.mapM (fun (r : ResultVar) => (match r with | .tmp t => pure (a.tmps.getD t undef) | .cell ad t => (do loadVar t (← asAddr (a.tmps.getD ad undef))) : Sem Value))).run P w = .ok vs w ∧ repL g l ds vs
  | [], ds, h => by simp only [ResAll] at h; subst h; exact ⟨[], by simp, by simp [repL]⟩
  | r :: rs, ds, h => by
    simp only [ResAll] at h
    obtain ⟨d, ds', rfl, h1, h2⟩ := h
    obtain ⟨vs, h3, h4⟩ := run_results_mapM hr ha rs ds' h2
    cases r with
    | tmp t =>
      simp only [ResIs] at h1
      refine ⟨a.tmps.getD t undef :: vs, ?_, ?_⟩
      · simp only [List.mapM_cons, Sem.run_bind, Sem.run_pure, Result.andThen_ok, h3]
      · simp only [repL]; exact ⟨_, _, rfl, h1 ▸ ha.tmps t, h4⟩
    | cell t T =>
      simp only [ResIs] at h1
      obtain ⟨agg, sz, hT, hl⟩ := h1
      obtain ⟨ad, cv, h5, h6, h7⟩ := run_load_agg (T := T) hr hl (ha.tmps t)
      refine ⟨cv :: vs, ?_, ?_⟩
      · have hA : asAddr (.pointer (some ad)) = (pure ad : Sem Addr) := rfl
        simp only [List.mapM_cons, Sem.run_bind, h5, hA, Sem.run_pure, Result.andThen_ok, h6, h3]
      · simp only [repL]; exact ⟨_, _, rfl, h7, h4⟩

theorem run_results {env : Env} {a : Act} (hr : Rel P G g l A wr Prot w) (ha : Ag g l N env a) {fn : Func} {ds : List D} (h : ResAll P env A fn.results.toList ds) :
    ∃ cv, (results fn a.tmps).run P w = .ok cv w ∧ rep g l (pack ds) cv := by
  obtain ⟨vs, h1, h2⟩ := run_results_mapM hr ha _ _ h
  have hm : (fn.results.mapM (fun (r : ResultVar) => (match r with | .tmp t => pure (a.tmps.getD t undef) | .cell ad t => (do loadVar t (← asAddr (a.tmps.getD ad undef))) : Sem Value))).run P w = .ok vs.toArray w := by
    rw [← Array.toArray_toList (xs := fn.results), List.mapM_toArray, Sem.run_map, h1]; rfl
  refine ⟨if h : vs.toArray.size = 1 then vs.toArray[0] else .tuple vs.toArray, ?_, ?_⟩
  · unfold results
    rw [Sem.run_bind]
    refine (congrArg (fun r => Result.andThen r _) hm).trans ?_
    rfl
  · have hlen := repL_length h2
    match ds, vs, h2, hlen with
    | [d], [v], h2, _ => simp only [repL] at h2; obtain ⟨v', r, e, h3, _⟩ := h2; cases e; simpa [pack] using h3
    | [], vs, h2, _ => simp only [repL] at h2; subst h2; simp only [pack, rep]; exact ⟨[], by simp, by simp [repL]⟩
    | d :: d' :: ds, vs, h2, hlen =>
      simp only [List.length_cons] at hlen
      simp only [pack, rep]
      exact ⟨vs, by rw [dif_neg (by simp; omega)], h2⟩
    | [d], [], _, hlen => simp at hlen
    | [d], _ :: _ :: _, _, hlen => simp at hlen

/-- A function's contract, from its code. -/
theorem ACall.intro (hm : P.follows .mixedOrders = true) {f : FuncId} {fn : Func} {c : Code} (hf : P.funcs[f]? = some fn) (hb : fn.body = some c) {ds : List D} (hn : ds.length ≤ fn.ntmps) (hN : okN fn.ntmps c = true) {h : Heap} {Q : D → Heap → Prop}
    (hw : aw P G wr c (retQ P fn Q) (env0 ds) (AH.start h)) : ACall P G f wr ds h Q := by
  intro g Prot w cargs hr hd
  refine calls_of_wp hf hb ?_
  have hlen := repL_length hd
  have ha : Ag g Lo.none fn.ntmps (env0 ds) { tmps := cargs.toArray ++ Array.replicate (fn.ntmps - cargs.toArray.size) undef, defers := [] } := by
    refine ⟨by simp; omega, rfl, fun t => ?_⟩
    simp only [env0, Array.getD_eq_getD_getElem?]
    rcases Nat.lt_or_ge t ds.length with ht | ht
    · obtain ⟨v, h1, h2⟩ := repL_get hd t ds[t] (by simp [ht])
      have : (cargs.toArray ++ Array.replicate (fn.ntmps - cargs.toArray.size) undef)[t]? = some v := by
        rw [Array.getElem?_append_left (by simp; omega)]
        simpa using h1
      rw [this]
      simpa [ht] using h2
    · rw [List.getElem?_eq_none ht]
      simp only [Option.getD_none, rep]
      rw [Array.getElem?_append_right (by simp; omega)]
      simp [Array.getElem?_replicate]
      split <;> rfl
  have close : ∀ (e : Exit) (a' : Act) (w' : World), PostX P G wr fn.ntmps g Lo.none Prot w (retQ P fn Q) e a' w' → bodyPost P fn (fun e w' => ∃ cv v h' g', e = .returned cv ∧ Q v h' ∧ Fr Prot g g' w w' ∧ Rel P G g' Lo.none (AH.start h') wr Prot w' ∧ rep g' Lo.none v cv) e a' w' := by
    intro e a' w' hp
    obtain ⟨env', A', g', l', h1, h2, h3, h4, h5⟩ := hp
    have main : (∃ ds h', ResAll P env' A' fn.results.toList ds ∧ ext (fz (pack ds)) = true ∧ Sub h' A'.h ∧ Q (fz (pack ds)) h') →
        a'.defers = [] ∧ ∃ v, (results fn a'.tmps).run P w' = .ok v w' ∧ ∃ cv v_1 h' g', Ending.returned v = .returned cv ∧ Q v_1 h' ∧ Fr Prot g g' w w' ∧ Rel P G g' Lo.none (AH.start h') wr Prot w' ∧ rep g' Lo.none v_1 cv := fun ⟨ds', h', hres, hext, hsub, hq⟩ => by
      obtain ⟨cv, hrun, hrep⟩ := run_results h4 h5 hres
      exact ⟨h5.defers, cv, hrun, cv, _, h', g', rfl, hq, h2, h4.leave hsub, rep_ext _ hext (rep_fz _ hrep)⟩
    cases e with
    | normal => exact main h1
    | ret => exact main h1
    | exit i => exact h1.elim
    | goto i => exact h1.elim
    | panic c => exact h1.elim
    | outgrown => exact h1.elim
  exact wp_mono (aw_sound hm c hN hw hr ha) close

/-- Into a call and back, where the callee leaves the shared heap alone. -/
theorem call_back (hr : Rel P G g l A wr Prot w) {h' : Heap} (hf : Fr (fun b => b < w.heap.size) g g' w w') (hr' : Rel P G g' Lo.none (AH.start h') false (fun b => b < w.heap.size) w') :
    Rel P G g' l A wr Prot w' ∧ Fr Prot g g' w w' := by
  have eb : ∀ b, b < w.heap.size → w'.heap[b]? = w.heap[b]? := fun b hb => hf.heap b hb
  have lt : ∀ {b x}, w.heap[b]? = some x → b < w.heap.size := fun hx => (Array.getElem?_eq_some_iff.1 hx).1
  refine ⟨⟨hr'.glob, fun b hb => Nat.lt_of_lt_of_le (hr.prot b hb) hf.size, hr'.sld, fun id ob ho => ?_, hr.locN, hr.locInj, fun id b hi => ?_, fun t r ht h1 => ?_, hr.tagN, hr.tagInj, fun k cs hk => ?_, hr'.shN, hr'.shInj, hr'.shLt⟩, ?_⟩
  · obtain ⟨b, h1, h2, h3, h4⟩ := hr.loc id ob ho
    exact ⟨b, h1, h2, Nat.lt_of_lt_of_le h3 hf.size, (h4.of_block (eb b h3)).mono hf.le (Lo.le.refl _)⟩
  · have hlt := (hr.ι_lt hi).1
    exact ⟨fun o => by rw [hf.sig b o hlt]; exact (hr.locFree id b hi).1 o, fun k hk => (hr.locFree id b hi).2 k (hf.kap k b hlt hk)⟩
  · obtain ⟨cur, h2, h3, h4, h5, h6, h7, h8, h9⟩ := hr.tag t r ht h1
    have hlt := lt h3
    exact ⟨cur, h2, (eb _ hlt).trans h3, h4, h5, h6, fun o ho => by rw [hf.sig _ o hlt]; exact h7 o ho, h8, fun k hk => h9 k (hf.kap k _ hlt hk)⟩
  · obtain ⟨b, vs, e, h1, h2, h3, h4⟩ := hr.sh k cs hk
    exact ⟨b, vs, e, hf.le.κ _ _ h1, h2, (eb _ (lt h3)).trans h3, repL_mono hf.le _ (Lo.le.refl _) h4⟩
  · exact ⟨hf.le, hf.size, fun b hb => eb b (hr.prot b hb), fun b o hb => hf.sig b o (hr.prot b hb), fun k b hb => hf.kap k b (hr.prot b hb), hf.os⟩

theorem call_in (hr : Rel P G g l A wr Prot w) : Rel P G g Lo.none (AH.start A.h) false (fun b => b < w.heap.size) w :=
  ⟨hr.glob, fun _ hb => hb, hr.sld, fun id ob ho => by simp [AH.start] at ho, fun _ _ => rfl, fun i j b e => by simp [Lo.none] at e, fun id b e => by simp [Lo.none] at e,
    fun t r ht => by simp [AH.start] at ht, fun t _ => ⟨rfl, rfl⟩, fun t t' r r' ht => by simp [AH.start] at ht,
    fun k cs hk => by obtain ⟨b, vs, e, h1, _, h3, h4⟩ := hr.sh k cs hk; exact ⟨b, vs, e, h1, (fun h => by cases h), h3, h4⟩, hr.shN, hr.shInj, hr.shLt⟩

/-- The same where the callee may write the shared heap. -/
def ProtW (Prot : Nat → Prop) (A : AH) (g : Gh) (w : World) : Nat → Prop := fun b => Prot b ∨ (b < w.heap.size ∧ ∀ k cs, A.h k = some cs → g.κ k ≠ some b)

theorem call_inW (hr : Rel P G g l A true Prot w) : Rel P G g Lo.none (AH.start A.h) true (ProtW Prot A g w) w :=
  ⟨hr.glob, fun b hb => hb.elim (hr.prot b) And.left, hr.sld, fun id ob ho => by simp [AH.start] at ho, fun _ _ => rfl, fun i j b e => by simp [Lo.none] at e, fun id b e => by simp [Lo.none] at e,
    fun t r ht => by simp [AH.start] at ht, fun t _ => ⟨rfl, rfl⟩, fun t t' r r' ht => by simp [AH.start] at ht,
    fun k cs hk => by
      obtain ⟨b, vs, e, h1, h2, h3, h4⟩ := hr.sh k cs hk
      exact ⟨b, vs, e, h1, fun _ hp => hp.elim (h2 rfl) fun hp => hp.2 k cs hk h1, h3, h4⟩, hr.shN, hr.shInj, hr.shLt⟩

theorem call_backW (hr : Rel P G g l A true Prot w) {h' : Heap} (hf : Fr (ProtW Prot A g w) g g' w w') (hr' : Rel P G g' Lo.none (AH.start h') true (ProtW Prot A g w) w') :
    Rel P G g' l { A with h := h' } true Prot w' ∧ Fr Prot g g' w w' := by
  have lt : ∀ {b x}, w.heap[b]? = some x → b < w.heap.size := fun hx => (Array.getElem?_eq_some_iff.1 hx).1
  have pl : ∀ {id b}, l.ι id = some b → ProtW Prot A g w b := fun hi => .inr ⟨(hr.ι_lt hi).1, fun k _ _ => (hr.locFree _ _ hi).2 k⟩
  refine ⟨⟨hr'.glob, fun b hb => Nat.lt_of_lt_of_le (hr.prot b hb) hf.size, hr'.sld, fun id ob ho => ?_, hr.locN, hr.locInj, fun id b hi => ?_, fun t r ht h1 => ?_, hr.tagN, hr.tagInj, fun k cs hk => ?_, hr'.shN, hr'.shInj, hr'.shLt⟩, ?_⟩
  · obtain ⟨b, h1, h2, h3, h4⟩ := hr.loc id ob ho
    exact ⟨b, h1, h2, Nat.lt_of_lt_of_le h3 hf.size, (h4.of_block (hf.heap b (pl h1))).mono hf.le (Lo.le.refl _)⟩
  · exact ⟨fun o => by rw [hf.sig b o (pl hi)]; exact (hr.locFree id b hi).1 o, fun k hk => (hr.locFree id b hi).2 k (hf.kap k b (pl hi) hk)⟩
  · obtain ⟨cur, h2, h3, h4, h5, h6, h7, h8, h9⟩ := hr.tag t r ht h1
    have hp : ProtW Prot A g w r.b := .inr ⟨lt h3, fun k _ _ => h9 k⟩
    exact ⟨cur, h2, (hf.heap _ hp).trans h3, h4, h5, h6, fun o ho => by rw [hf.sig _ o hp]; exact h7 o ho, h8, fun k hk => h9 k (hf.kap k _ hp hk)⟩
  · obtain ⟨b, vs, e, h1, h2, h3, h4⟩ := hr'.sh k cs hk
    exact ⟨b, vs, e, h1, fun h hp => h2 h (.inl hp), h3, h4⟩
  · exact ⟨hf.le, hf.size, fun b hb => hf.heap b (.inl hb), fun b o hb => hf.sig b o (.inl hb), fun k b hb => hf.kap k b (.inl hb), hf.os⟩

end
end Go.Abs
