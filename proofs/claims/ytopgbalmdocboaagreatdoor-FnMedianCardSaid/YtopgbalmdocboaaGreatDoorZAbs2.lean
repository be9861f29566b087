/- Walks of the functions, printed by program, and the logic behind them: each theorem says what one function or one step answers. -/
import Derived.Test.YtopgbalmdocboaaGreatDoorZAbs1
import Derived.LoopN
import Derived.Laws.OwnMore
import Derived.Great.BuildSlice
namespace Go.Abs
set_option linter.unusedVariables false
set_option linter.unusedSimpArgs false

def okN (N : Nat) : Code → Bool
  | .region _ ops _ => ops.toList.all fun o => match o.dst with | none => true | some d => Nat.blt d N
  | .seq a b => okN N a && okN N b
  | .cond _ a b => okN N a && okN N b
  | .block _ b => okN N b
  | .loop b => okN N b
  | _ => true

def thenQ (next : Env → AH → Prop) (Q : Exit → Env → AH → Prop) : Exit → Env → AH → Prop
  | .normal, e, A => next e A
  | .exit i, e, A => Q (.exit i) e A
  | .ret, e, A => Q .ret e A
  | _, _, _ => False

def blockQ (id : Nat) (Q : Exit → Env → AH → Prop) : Exit → Env → AH → Prop
  | .exit i, e, A => if i = id then Q .normal e A else Q (.exit i) e A
  | .normal, e, A => Q .normal e A
  | .ret, e, A => Q .ret e A
  | _, _, _ => False

/-- What code does, so that Q holds at its end. -/
def aw (P : Program) (G : Nat → D) (wr : Bool) : Code → (Exit → Env → AH → Prop) → Env → AH → Prop
  | .skip, Q => Q .normal
  | .region _ ops false, Q => fun env A => aops P G wr ops ops.toList env A (Q .normal)
  | .region _ ops true, Q => fun env A => ∃ an ks, drawOK ops an ks = true ∧ adraw P G wr ops ks ops.toList env A (Q .normal)
  | .seq a b, Q => aw P G wr a (thenQ (aw P G wr b Q) Q)
  | .cond c x y, Q => fun env A => ∃ b, evalD G env c = .sc (.bool b) ∧ (b = true → aw P G wr x Q env A) ∧ (b = false → aw P G wr y Q env A)
  | .block id body, Q => aw P G wr body (blockQ id Q)
  | .loop body, Q => fun env A => ∃ (I : Env → AH → Prop) (μ : Env → AH → Nat), I env A ∧ ∀ env A, I env A → aw P G wr body (thenQ (fun env' A' => I env' A' ∧ μ env' A' < μ env A) Q) env A
  | .exit id, Q => Q (.exit id)
  | .ret, Q => Q .ret
  | _, _ => fun _ _ => False

section
variable {P : Program} {G : Nat → D} {wr : Bool} {N : Nat} {Prot : Nat → Prop}

def PostX (P : Program) (G : Nat → D) (wr : Bool) (N : Nat) (g : Gh) (l : Lo) (Prot : Nat → Prop) (w : World) (Q : Exit → Env → AH → Prop) : Exit → Act → World → Prop :=
  fun e a' w' => Post P G wr N g l Prot w (Q e) a' w'

theorem aw_sound (hm : P.follows .mixedOrders = true) : ∀ (c : Code) {Q : Exit → Env → AH → Prop} {env : Env} {A : AH}, okN N c = true → aw P G wr c Q env A →
    ∀ {g : Gh} {l : Lo} {w : World} {a : Act}, Rel P G g l A wr Prot w → Ag g l N env a → c.wp P (PostX P G wr N g l Prot w Q) a w
  | .skip, Q, env, A, _, h, g, l, w, a, hr, ha => wp_skip ⟨env, A, g, l, h, Fr.refl _ _ _, Lo.le.refl _, hr, ha⟩
  | .exit i, Q, env, A, _, h, g, l, w, a, hr, ha => wp_exit ⟨env, A, g, l, h, Fr.refl _ _ _, Lo.le.refl _, hr, ha⟩
  | .ret, Q, env, A, _, h, g, l, w, a, hr, ha => wp_ret ⟨env, A, g, l, h, Fr.refl _ _ _, Lo.le.refl _, hr, ha⟩
  | .region id ops false, Q, env, A, hN, h, g, l, w, a, hr, ha => by
    have hN' : ∀ o ∈ ops.toList, ∀ x, o.dst = some x → x < N := fun o ho x hx => by
      simp only [okN, List.all_eq_true] at hN
      have := hN o ho
      rw [hx] at this
      simpa [Nat.blt_eq] using this
    refine wp_region ?_
    rw [List.range_eq_range']
    have hs := aops_sound (P := P) (G := G) (wr := wr) ops hN' (K := Q .normal) (Q := PostX P G wr N g l Prot w Q) ops.toList 0 (by simp) env A g l w a h hr ha fun a' w' hp => hp
    simpa using hs
  | .region id ops true, Q, env, A, hN, h, g, l, w, a, hr, ha => by
    have hN' : ∀ o ∈ ops.toList, ∀ x, o.dst = some x → x < N := fun o ho x hx => by
      simp only [okN, List.all_eq_true] at hN
      have := hN o ho
      rw [hx] at this
      simpa [Nat.blt_eq] using this
    obtain ⟨an, ks, hok, hd⟩ := h
    exact region_draw_sound hm id ops hN' hok hd hr ha fun a' w' hp => hp
  | .seq x y, Q, env, A, hN, h, g, l, w, a, hr, ha => by
    simp only [okN, Bool.and_eq_true] at hN
    refine wp_seq (wp_mono (aw_sound hm x hN.1 h hr ha) ?_)
    intro e a' w' hp
    obtain ⟨env', A', g', l', h1, h2, h3, h4, h5⟩ := hp
    cases e with
    | normal =>
      refine wp_mono (aw_sound hm y hN.2 h1 h4 h5) fun e a'' w'' hp => ?_
      exact hp.of_later h2 h3
    | exit i => exact ⟨env', A', g', l', h1, h2, h3, h4, h5⟩
    | ret => exact ⟨env', A', g', l', h1, h2, h3, h4, h5⟩
    | goto i => exact h1.elim
    | panic c => exact h1.elim
    | outgrown => exact h1.elim
  | .cond c x y, Q, env, A, hN, h, g, l, w, a, hr, ha => by
    simp only [okN, Bool.and_eq_true] at hN
    obtain ⟨b, hb, ht, hf⟩ := h
    have he : a.eval c = .bool b := by
      have := ha.eval hr c
      rw [hb] at this
      simpa [rep] using this
    exact wp_cond_split he (fun e => aw_sound hm x hN.1 (ht e) hr ha) fun e => aw_sound hm y hN.2 (hf e) hr ha
  | .block id body, Q, env, A, hN, h, g, l, w, a, hr, ha => by
    refine wp_block (wp_mono (aw_sound hm body hN h hr ha) ?_)
    intro e a' w' hp
    obtain ⟨env', A', g', l', h1, h2, h3, h4, h5⟩ := hp
    cases e with
    | normal => exact ⟨env', A', g', l', h1, h2, h3, h4, h5⟩
    | ret => exact ⟨env', A', g', l', h1, h2, h3, h4, h5⟩
    | exit i =>
      simp only [Exit.inBlock]
      simp only [blockQ] at h1
      by_cases e : i = id
      · rw [if_pos e] at h1 ⊢; exact ⟨env', A', g', l', h1, h2, h3, h4, h5⟩
      · rw [if_neg e] at h1 ⊢; exact ⟨env', A', g', l', h1, h2, h3, h4, h5⟩
    | goto i => exact h1.elim
    | panic c => exact h1.elim
    | outgrown => exact h1.elim
  | .loop body, Q, env, A, hN, h, g, l, w, a, hr, ha => by
    obtain ⟨I, μ, h0, hround⟩ := h
    refine wp_loop_rounds (μ env A + 1) ?_
    have key : ∀ (n : Nat) (env : Env) (A : AH) (g' : Gh) (l' : Lo) (w' : World) (a' : Act), I env A → μ env A < n → Fr Prot g g' w w' → l.le l' → Rel P G g' l' A wr Prot w' → Ag g' l' N env a' →
        Code.rounds P body (PostX P G wr N g l Prot w Q) n a' w' := by
      intro n
      induction n with
      | zero => intro _ _ _ _ _ _ _ h; exact absurd h (Nat.not_lt_zero _)
      | succ n ih =>
        intro env A g' l' w' a' hI hμ hf hl hr' ha'
        rw [rounds_succ]
        refine wp_mono (aw_sound hm body hN (hround env A hI) hr' ha') ?_
        intro e a'' w'' hp
        obtain ⟨env', A', g'', l'', h1, h2, h3, h4, h5⟩ := hp
        cases e with
        | normal => exact ih env' A' g'' l'' w'' a'' h1.1 (by have := h1.2; omega) (hf.trans h2) (hl.trans h3) h4 h5
        | exit i => exact ⟨env', A', g'', l'', h1, hf.trans h2, hl.trans h3, h4, h5⟩
        | ret => exact ⟨env', A', g'', l'', h1, hf.trans h2, hl.trans h3, h4, h5⟩
        | goto i => exact h1.elim
        | panic c => exact h1.elim
        | outgrown => exact h1.elim
    exact key _ env A g l w a h0 (Nat.lt_succ_self _) (Fr.refl _ _ _) (Lo.le.refl _) hr ha
  | .rangeFunc .., _, _, _, _, h, _, _, _, _, _, _ => h.elim
  | .scope _, _, _, _, _, h, _, _, _, _, _, _ => h.elim
  | .label _, _, _, _, _, h, _, _, _, _, _, _ => h.elim
  | .goto _, _, _, _, _, h, _, _, _, _, _, _ => h.elim
  | .refuse _, _, _, _, _, h, _, _, _, _, _, _ => h.elim

end

/-! Types. -/
class TI (P : Program) (T : TypeId) (agg : outParam Bool) (sz : outParam Nat) : Prop where
  isAgg : ∀ w, (isAgg T).run P w = .ok agg w
  size : ∀ w, (sizeOf T).run P w = .ok sz w

/-! Loads. -/
def cellsAt (A : AH) : D → Option (List D × Nat)
  | .box id off => match A.o[id]? with
    | some (.cells cs) => some (cs, off)
    | _ => none
  | .hp k off => match A.h k with
    | some cs => some (cs, off)
    | none => none
  | .pin cs off => some (cs, off)
  | _ => none

def takeAt (agg : Bool) (sz : Nat) (cs : List D) (off : Nat) : Option D :=
  bif agg then (if off + sz ≤ cs.length then some (.agg ((cs.drop off).take sz)) else none) else cs[off]?

def loadD (A : AH) (agg : Bool) (sz : Nat) (d : D) : Option D :=
  match cellsAt A d with
  | some (cs, off) => takeAt agg sz cs off
  | none => none

section
variable {P : Program} {G : Nat → D} {g g' : Gh} {l : Lo} {A : AH} {wr : Bool} {Prot : Nat → Prop} {w w' : World} {N : Nat}

theorem cellsAt_cell (hr : Rel P G g l A wr Prot w) {d : D} {cs : List D} {off : Nat} (h : cellsAt A d = some (cs, off)) {x : Value} (hx : rep g l d x) :
    ∃ b o, x = .pointer (some ⟨b, o + off, none⟩) ∧ ∀ i e, cs[i]? = some e → ∃ v, w.cell? ⟨b, o + i, none⟩ = some v ∧ rep g l e v := by
  unfold cellsAt at h
  split at h
  · rename_i id off'
    split at h
    · rename_i cs' ho
      cases h
      simp only [rep] at hx
      obtain ⟨b, h1, h2⟩ := hx
      obtain ⟨b', h3, _, _, h4⟩ := hr.loc id _ ho
      rw [h1] at h3; cases h3
      simp only [Holds] at h4
      obtain ⟨vs, sp, e, f, h5, h6, _⟩ := h4
      refine ⟨b, 0, by simpa using h2, fun i e' he => ?_⟩
      obtain ⟨v, h7, h8⟩ := repL_get h6 i e' he
      refine ⟨v, ?_, h8⟩
      simp only [World.cell?, Nat.zero_add, h5]
      simp
      rw [List.getElem?_append_left (List.getElem?_eq_some_iff.1 h7).1]; exact h7
    · cases h
  · rename_i k off'
    split at h
    · rename_i cs' ho
      cases h
      simp only [rep] at hx
      obtain ⟨b, h1, h2⟩ := hx
      obtain ⟨b', vs, e, h3, _, h5, h6⟩ := hr.sh k _ ho
      rw [h1] at h3; cases h3
      refine ⟨b, 0, by simpa using h2, fun i e' he => ?_⟩
      obtain ⟨v, h7, h8⟩ := repL_get h6 i e' he
      refine ⟨v, ?_, rep_mono (Gh.le.refl _) _ (Lo.le.none _) h8⟩
      simp only [World.cell?, Nat.zero_add, h5]
      simpa using h7
    · cases h
  · cases h
    simp only [rep] at hx
    obtain ⟨b, o, h1, h2⟩ := hx
    refine ⟨b, o, h1, fun i e' he => ?_⟩
    obtain ⟨v, h7, _, h8⟩ := repS_get h2 i e' he
    exact ⟨v, hr.sld _ _ _ h7, rep_mono (Gh.le.refl _) _ (Lo.le.none _) h8⟩
  · cases h

theorem addr_add (b o n : Nat) : (⟨b, o, none⟩ : Addr).add n = ⟨b, o + n, none⟩ := by
  unfold Addr.add
  split
  · rename_i h; subst h; rfl
  · rfl

theorem run_load_agg {T : TypeId} {agg : Bool} {sz : Nat} [hT : TI P T agg sz] (hr : Rel P G g l A wr Prot w) {d v : D} (h : loadD A agg sz d = some v) {x : Value} (hx : rep g l d x) :
    ∃ ad cv, x = .pointer (some ad) ∧ (loadVar T ad).run P w = .ok cv w ∧ rep g l v cv := by
  unfold loadD at h
  split at h
  · rename_i cs off hc
    obtain ⟨b, o, rfl, hcell⟩ := cellsAt_cell hr hc hx
    unfold takeAt at h
    cases agg with
    | false =>
      simp only [cond_false] at h
      obtain ⟨cv, h1, h2⟩ := hcell off v h
      refine ⟨_, cv, rfl, ?_, h2⟩
      simp only [loadVar, Sem.run_bind, hT.isAgg, Result.andThen_ok, Bool.false_eq_true, if_false, run_load, h1]
    | true =>
      simp only [cond_true] at h
      split at h
      · rename_i hle
        cases h
        have : ∃ vs : List Value, repL g l ((cs.drop off).take sz) vs ∧ ∀ j u, vs[j]? = some u → w.cell? ((⟨b, o + off, none⟩ : Addr).add j) = some u := by
          have hall : ∀ n, n ≤ sz → ∃ vs : List Value, repL g l ((cs.drop off).take n) vs ∧ ∀ j u, vs[j]? = some u → w.cell? ((⟨b, o + off, none⟩ : Addr).add j) = some u := by
            intro n
            induction n with
            | zero => intro _; exact ⟨[], by simp [repL], fun j u h => by simp at h⟩
            | succ n ih =>
              intro hn
              obtain ⟨vs, h1, h2⟩ := ih (by omega)
              have hlt : off + n < cs.length := by omega
              obtain ⟨cv, h3, h4⟩ := hcell (off + n) cs[off + n] (by simp [hlt])
              have hlen := repL_length h1
              have hl : ((cs.drop off).take n).length = n := by simp; omega
              refine ⟨vs ++ [cv], ?_, fun j u hj => ?_⟩
              · have e : (cs.drop off).take (n + 1) = (cs.drop off).take n ++ [cs[off + n]] := by
                  rw [List.take_succ_eq_append_getElem (by simp; omega)]
                  simp
                rw [e]
                exact repL_append h1 (by simp only [repL]; exact ⟨cv, [], rfl, h4, rfl⟩)
              · rcases Nat.lt_or_ge j vs.length with hj' | hj'
                · rw [List.getElem?_append_left hj'] at hj; exact h2 j u hj
                · rw [List.getElem?_append_right hj'] at hj
                  have : j = n := by
                    rcases Nat.eq_zero_or_pos (j - vs.length) with h0 | h0
                    · omega
                    · rw [List.getElem?_eq_none (by simp; omega)] at hj; cases hj
                  subst this
                  rw [hlen, hl, Nat.sub_self] at hj
                  simp at hj; subst hj
                  rw [addr_add, Nat.add_assoc]; exact h3
          exact hall sz (Nat.le_refl _)
        obtain ⟨vs, h1, h2⟩ := this
        have hlen : vs.length = sz := by rw [repL_length h1]; simp; omega
        refine ⟨_, .agg vs.toArray, rfl, ?_, by simp only [rep]; exact ⟨vs, rfl, h1⟩⟩
        have hl := run_loadCells_list (P := P) w ⟨b, o + off, none⟩ vs h2
        rw [hlen] at hl
        simp only [loadVar, Sem.run_bind, hT.isAgg, hT.size, Result.andThen_ok, if_true, hl, Sem.run_pure]
      · cases h
  · cases h

end

/-! What a function is said to do. -/
abbrev Heap := Nat → Option (List D)

def AH.start (h : Heap) : AH := ⟨[], fun _ => false, 0, h⟩

/-- Called with ds in a shared heap h, function f returns a value v and leaves a heap h' such that Q. -/
def ACall (P : Program) (G : Nat → D) (f : FuncId) (wr : Bool) (ds : List D) (h : Heap) (Q : D → Heap → Prop) : Prop :=
  ∀ (g : Gh) (Prot : Nat → Prop) (w : World) (cargs : List Value), Rel P G g Lo.none (AH.start h) wr Prot w → repL g Lo.none ds cargs →
    Calls P f cargs.toArray w fun e w' => ∃ cv v h' g', e = .returned cv ∧ Q v h' ∧ Fr Prot g g' w w' ∧ Rel P G g' Lo.none (AH.start h') wr Prot w' ∧ rep g' Lo.none v cv

theorem ACall.mono {P : Program} {G : Nat → D} {f : FuncId} {wr : Bool} {ds : List D} {h : Heap} {Q Q' : D → Heap → Prop} (hc : ACall P G f wr ds h Q) (hq : ∀ v h', Q v h' → Q' v h') : ACall P G f wr ds h Q' :=
  fun g Prot w cargs hr hd => (hc g Prot w cargs hr hd).mono fun _ _ ⟨cv, v, h', g', h1, h2, h3⟩ => ⟨cv, v, h', g', h1, hq _ _ h2, h3⟩

/-- What stands in a result's place. -/
def ResIs (P : Program) (env : Env) (A : AH) : ResultVar → D → Prop
  | .tmp t, d => env t = d
  | .cell t T, d => ∃ agg sz, TI P T agg sz ∧ loadD A agg sz (env t) = some d

def ResAll (P : Program) (env : Env) (A : AH) : List ResultVar → List D → Prop
  | [], ds => ds = []
  | r :: rs, ds => ∃ d ds', ds = d :: ds' ∧ ResIs P env A r d ∧ ResAll P env A rs ds'

def pack : List D → D
  | [d] => d
  | ds => .tup ds

/-- A smaller heap. -/
def Sub (h' h : Heap) : Prop := ∀ k cs, h' k = some cs → h k = some cs
theorem Sub.refl (h : Heap) : Sub h h := fun _ _ e => e

def retQ (P : Program) (fn : Func) (Q : D → Heap → Prop) : Exit → Env → AH → Prop
  | .normal, env, A => ∃ ds h', ResAll P env A fn.results.toList ds ∧ ext (fz (pack ds)) = true ∧ Sub h' A.h ∧ Q (fz (pack ds)) h'
  | .ret, env, A => ∃ ds h', ResAll P env A fn.results.toList ds ∧ ext (fz (pack ds)) = true ∧ Sub h' A.h ∧ Q (fz (pack ds)) h'
  | _, _, _ => False

def env0 (ds : List D) : Env := fun t => (ds[t]?).getD (.sc undef)

section
variable {P : Program} {G : Nat → D} {g g' : Gh} {l : Lo} {A : AH} {wr : Bool} {Prot : Nat → Prop} {w w' : World} {N : Nat}

theorem Rel.leave (h : Rel P G g l A wr Prot w) {h' : Heap} (hs : Sub h' A.h) : Rel P G g Lo.none (AH.start h') wr Prot w :=
  ⟨h.glob, h.prot, h.sld, fun id ob ho => by simp [AH.start] at ho, fun _ _ => rfl, fun i j b e => by simp [Lo.none] at e, fun id b e => by simp [Lo.none] at e,
    fun t r ht => by simp [AH.start] at ht, fun t _ => ⟨rfl, rfl⟩, fun t t' r r' ht => by simp [AH.start] at ht, fun k cs hk => h.sh k cs (hs k cs hk), h.shN, h.shInj, h.shLt⟩

theorem run_results_mapM {env : Env} {a : Act} (hr : Rel P G g l A wr Prot w) (ha : Ag g l N env a) : ∀ (rs : List ResultVar) (ds : List D), ResAll P env A rs ds →
    ∃ vs : List Value, (rs.mapM (fun (r : ResultVar) => (match r with | .tmp t => pure (a.tmps.getD t undef) | .cell ad t => (do loadVar t (← asAddr (a.tmps.getD ad undef))) : Sem Value))).run P w = .ok vs w ∧ repL g l ds vs
  | [], ds, h => by simp only [ResAll] at h; subst h; exact ⟨[], by simp, by simp [repL]⟩
  | r :: rs, ds, h => by
    simp only [ResAll] at h
    obtain ⟨d, ds', rfl, h1, h2⟩ := h
    obtain ⟨vs, h3, h4⟩ := run_results_mapM hr ha rs ds' h2
    cases r with
    | tmp t =>
      simp only [ResIs] at h1
      refine ⟨a.tmps.getD t undef :: vs, ?_, ?_⟩
      · simp only [List.mapM_cons, Sem.run_bind, Sem.run_pure, Result.andThen_ok, h3]
      · simp only [repL]; exact ⟨_, _, rfl, h1 ▸ ha.tmps t, h4⟩
    | cell t T =>
      simp only [ResIs] at h1
      obtain ⟨agg, sz, hT, hl⟩ := h1
      obtain ⟨ad, cv, h5, h6, h7⟩ := run_load_agg (T := T) hr hl (ha.tmps t)
      refine ⟨cv :: vs, ?_, ?_⟩
      · have hA : asAddr (.pointer (some ad)) = (pure ad : Sem Addr) := rfl
        simp only [List.mapM_cons, Sem.run_bind, h5, hA, Sem.run_pure, Result.andThen_ok, h6, h3]
      · simp only [repL]; exact ⟨_, _, rfl, h7, h4⟩

theorem run_results {env : Env} {a : Act} (hr : Rel P G g l A wr Prot w) (ha : Ag g l N env a) {fn : Func} {ds : List D} (h : ResAll P env A fn.results.toList ds) :
    ∃ cv, (results fn a.tmps).run P w = .ok cv w ∧ rep g l (pack ds) cv := by
  obtain ⟨vs, h1, h2⟩ := run_results_mapM hr ha _ _ h
  have hm : (fn.results.mapM (fun (r : ResultVar) => (match r with | .tmp t => pure (a.tmps.getD t undef) | .cell ad t => (do loadVar t (← asAddr (a.tmps.getD ad undef))) : Sem Value))).run P w = .ok vs.toArray w := by
    rw [← Array.toArray_toList (xs := fn.results), List.mapM_toArray, Sem.run_map, h1]; rfl
  refine ⟨if h : vs.toArray.size = 1 then vs.toArray[0] else .tuple vs.toArray, ?_, ?_⟩
  · unfold results
    rw [Sem.run_bind]
    refine (congrArg (fun r => Result.andThen r _) hm).trans ?_
    rfl
  · have hlen := repL_length h2
    match ds, vs, h2, hlen with
    | [d], [v], h2, _ => simp only [repL] at h2; obtain ⟨v', r, e, h3, _⟩ := h2; cases e; simpa [pack] using h3
    | [], vs, h2, _ => simp only [repL] at h2; subst h2; simp only [pack, rep]; exact ⟨[], by simp, by simp [repL]⟩
    | d :: d' :: ds, vs, h2, hlen =>
      simp only [List.length_cons] at hlen
      simp only [pack, rep]
      exact ⟨vs, by rw [dif_neg (by simp; omega)], h2⟩
    | [d], [], _, hlen => simp at hlen
    | [d], _ :: _ :: _, _, hlen => simp at hlen

/-- A function's contract, from its code. -/
theorem ACall.intro (hm : P.follows .mixedOrders = true) {f : FuncId} {fn : Func} {c : Code} (hf : P.funcs[f]? = some fn) (hb : fn.body = some c) {ds : List D} (hn : ds.length ≤ fn.ntmps) (hN : okN fn.ntmps c = true) {h : Heap} {Q : D → Heap → Prop}
    (hw : aw P G wr c (retQ P fn Q) (env0 ds) (AH.start h)) : ACall P G f wr ds h Q := by
  intro g Prot w cargs hr hd
  refine calls_of_wp hf hb ?_
  have hlen := repL_length hd
  have ha : Ag g Lo.none fn.ntmps (env0 ds) { tmps := cargs.toArray ++ Array.replicate (fn.ntmps - cargs.toArray.size) undef, defers := [] } := by
    refine ⟨by simp; omega, rfl, fun t => ?_⟩
    simp only [env0, Array.getD_eq_getD_getElem?]
    rcases Nat.lt_or_ge t ds.length with ht | ht
    · obtain ⟨v, h1, h2⟩ := repL_get hd t ds[t] (by simp [ht])
      have : (cargs.toArray ++ Array.replicate (fn.ntmps - cargs.toArray.size) undef)[t]? = some v := by
        rw [Array.getElem?_append_left (by simp; omega)]
        simpa using h1
      rw [this]
      simpa [ht] using h2
    · rw [List.getElem?_eq_none ht]
      simp only [Option.getD_none, rep]
      rw [Array.getElem?_append_right (by simp; omega)]
      simp [Array.getElem?_replicate]
      split <;> rfl
  have close : ∀ (e : Exit) (a' : Act) (w' : World), PostX P G wr fn.ntmps g Lo.none Prot w (retQ P fn Q) e a' w' → bodyPost P fn (fun e w' => ∃ cv v h' g', e = .returned cv ∧ Q v h' ∧ Fr Prot g g' w w' ∧ Rel P G g' Lo.none (AH.start h') wr Prot w' ∧ rep g' Lo.none v cv) e a' w' := by
    intro e a' w' hp
    obtain ⟨env', A', g', l', h1, h2, h3, h4, h5⟩ := hp
    have main : (∃ ds h', ResAll P env' A' fn.results.toList ds ∧ ext (fz (pack ds)) = true ∧ Sub h' A'.h ∧ Q (fz (pack ds)) h') →
        a'.defers = [] ∧ ∃ v, (results fn a'.tmps).run P w' = .ok v w' ∧ ∃ cv v_1 h' g', Ending.returned v = .returned cv ∧ Q v_1 h' ∧ Fr Prot g g' w w' ∧ Rel P G g' Lo.none (AH.start h') wr Prot w' ∧ rep g' Lo.none v_1 cv := fun ⟨ds', h', hres, hext, hsub, hq⟩ => by
      obtain ⟨cv, hrun, hrep⟩ := run_results h4 h5 hres
      exact ⟨h5.defers, cv, hrun, cv, _, h', g', rfl, hq, h2, h4.leave hsub, rep_ext _ hext (rep_fz _ hrep)⟩
    cases e with
    | normal => exact main h1
    | ret => exact main h1
    | exit i => exact h1.elim
    | goto i => exact h1.elim
    | panic c => exact h1.elim
    | outgrown => exact h1.elim
  exact wp_mono (aw_sound hm c hN hw hr ha) close

/-- Into a call and back, where the callee leaves the shared heap alone. -/
theorem call_back (hr : Rel P G g l A wr Prot w) {h' : Heap} (hf : Fr (fun b => b < w.heap.size) g g' w w') (hr' : Rel P G g' Lo.none (AH.start h') false (fun b => b < w.heap.size) w') :
    Rel P G g' l A wr Prot w' ∧ Fr Prot g g' w w' := by
  have eb : ∀ b, b < w.heap.size → w'.heap[b]? = w.heap[b]? := fun b hb => hf.heap b hb
  have lt : ∀ {b x}, w.heap[b]? = some x → b < w.heap.size := fun hx => (Array.getElem?_eq_some_iff.1 hx).1
  refine ⟨⟨hr'.glob, fun b hb => Nat.lt_of_lt_of_le (hr.prot b hb) hf.size, hr'.sld, fun id ob ho => ?_, hr.locN, hr.locInj, fun id b hi => ?_, fun t r ht h1 => ?_, hr.tagN, hr.tagInj, fun k cs hk => ?_, hr'.shN, hr'.shInj, hr'.shLt⟩, ?_⟩
  · obtain ⟨b, h1, h2, h3, h4⟩ := hr.loc id ob ho
    exact ⟨b, h1, h2, Nat.lt_of_lt_of_le h3 hf.size, (h4.of_block (eb b h3)).mono hf.le (Lo.le.refl _)⟩
  · have hlt := (hr.ι_lt hi).1
    exact ⟨fun o => by rw [hf.sig b o hlt]; exact (hr.locFree id b hi).1 o, fun k hk => (hr.locFree id b hi).2 k (hf.kap k b hlt hk)⟩
  · obtain ⟨cur, h2, h3, h4, h5, h6, h7, h8, h9⟩ := hr.tag t r ht h1
    have hlt := lt h3
    exact ⟨cur, h2, (eb _ hlt).trans h3, h4, h5, h6, fun o ho => by rw [hf.sig _ o hlt]; exact h7 o ho, h8, fun k hk => h9 k (hf.kap k _ hlt hk)⟩
  · obtain ⟨b, vs, e, h1, h2, h3, h4⟩ := hr.sh k cs hk
    exact ⟨b, vs, e, hf.le.κ _ _ h1, h2, (eb _ (lt h3)).trans h3, repL_mono hf.le _ (Lo.le.refl _) h4⟩
  · exact ⟨hf.le, hf.size, fun b hb => eb b (hr.prot b hb), fun b o hb => hf.sig b o (hr.prot b hb), fun k b hb => hf.kap k b (hr.prot b hb), hf.os⟩

/-- The same where the callee may write the shared heap. -/
def ProtW (Prot : Nat → Prop) (A : AH) (g : Gh) (w : World) : Nat → Prop := fun b => Prot b ∨ (b < w.heap.size ∧ ∀ k cs, A.h k = some cs → g.κ k ≠ some b)

theorem call_inW (hr : Rel P G g l A true Prot w) : Rel P G g Lo.none (AH.start A.h) true (ProtW Prot A g w) w :=
  ⟨hr.glob, fun b hb => hb.elim (hr.prot b) And.left, hr.sld, fun id ob ho => by simp [AH.start] at ho, fun _ _ => rfl, fun i j b e => by simp [Lo.none] at e, fun id b e => by simp [Lo.none] at e,
    fun t r ht => by simp [AH.start] at ht, fun t _ => ⟨rfl, rfl⟩, fun t t' r r' ht => by simp [AH.start] at ht,
    fun k cs hk => by
      obtain ⟨b, vs, e, h1, h2, h3, h4⟩ := hr.sh k cs hk
      exact ⟨b, vs, e, h1, fun _ hp => hp.elim (h2 rfl) fun hp => hp.2 k cs hk h1, h3, h4⟩, hr.shN, hr.shInj, hr.shLt⟩

theorem call_backW (hr : Rel P G g l A true Prot w) {h' : Heap} (hf : Fr (ProtW Prot A g w) g g' w w') (hr' : Rel P G g' Lo.none (AH.start h') true (ProtW Prot A g w) w') :
    Rel P G g' l { A with h := h' } true Prot w' ∧ Fr Prot g g' w w' := by
  have lt : ∀ {b x}, w.heap[b]? = some x → b < w.heap.size := fun hx => (Array.getElem?_eq_some_iff.1 hx).1
  have pl : ∀ {id b}, l.ι id = some b → ProtW Prot A g w b := fun hi => .inr ⟨(hr.ι_lt hi).1, fun k _ _ => (hr.locFree _ _ hi).2 k⟩
  refine ⟨⟨hr'.glob, fun b hb => Nat.lt_of_lt_of_le (hr.prot b hb) hf.size, hr'.sld, fun id ob ho => ?_, hr.locN, hr.locInj, fun id b hi => ?_, fun t r ht h1 => ?_, hr.tagN, hr.tagInj, fun k cs hk => ?_, hr'.shN, hr'.shInj, hr'.shLt⟩, ?_⟩
  · obtain ⟨b, h1, h2, h3, h4⟩ := hr.loc id ob ho
    exact ⟨b, h1, h2, Nat.lt_of_lt_of_le h3 hf.size, (h4.of_block (hf.heap b (pl h1))).mono hf.le (Lo.le.refl _)⟩
  · exact ⟨fun o => by rw [hf.sig b o (pl hi)]; exact (hr.locFree id b hi).1 o, fun k hk => (hr.locFree id b hi).2 k (hf.kap k b (pl hi) hk)⟩
  · obtain ⟨cur, h2, h3, h4, h5, h6, h7, h8, h9⟩ := hr.tag t r ht h1
    have hp : ProtW Prot A g w r.b := .inr ⟨lt h3, fun k _ _ => h9 k⟩
    exact ⟨cur, h2, (hf.heap _ hp).trans h3, h4, h5, h6, fun o ho => by rw [hf.sig _ o hp]; exact h7 o ho, h8, fun k hk => h9 k (hf.kap k _ hp hk)⟩
  · obtain ⟨b, vs, e, h1, h2, h3, h4⟩ := hr'.sh k cs hk
    exact ⟨b, vs, e, h1, fun h hp => h2 h (.inl hp), h3, h4⟩
  · exact ⟨hf.le, hf.size, fun b hb => hf.heap b (.inl hb), fun b o hb => hf.sig b o (.inl hb), fun k b hb => hf.kap k b (.inl hb), hf.os⟩

end
end Go.Abs
namespace Go.Abs
set_option linter.unusedVariables false
set_option linter.unusedSimpArgs false

class UN (P : Program) (T : TypeId) (d : outParam TypeDesc) : Prop where
  eq : P.underlying T = some d

/-- A text's bytes. -/
abbrev str (l : List UInt8) : Value := .string ⟨⟨l⟩⟩
abbrev i64 (n : Int) : D := .sc (.int .i64 n)
abbrev bl (b : Bool) : D := .sc (.bool b)
abbrev st (l : List UInt8) : D := .sc (str l)

section
variable {P : Program} {G : Nat → D} {wr : Bool} {o : Oper} {ρ : Operand → D} {S : AH → Prop}

theorem AQ.run {v : D} (h : ∀ (g : Gh) (l : Lo) (Prot : Nat → Prop) (w : World) (a : Act) (A : AH), S A → Rel P G g l A wr Prot w → (∀ x ∈ o.op.operands, rep g l (ρ x) (a.eval x)) →
    ∃ cv, (execOp a.eval o).run P w = .ok (.value cv) w ∧ rep g l v cv) : AQ P G wr o ρ S v := by
  intro g l Prot w a A hS hr hx K Q hk
  obtain ⟨cv, h1, h2⟩ := h g l Prot w a A hS hr hx
  unfold Oper.wp
  rw [h1]
  exact hk g w cv (Fr.refl _ _ _) hr h2

/-- The same of scalars alone. -/
theorem AQ.scal {v : Value} (h : ∀ (w : World) (a : Act), (∀ x ∈ o.op.operands, ∀ u, ρ x = .sc u → a.eval x = u) → (execOp a.eval o).run P w = .ok (.value v) w) : AQ P G wr o ρ S (.sc v) :=
  AQ.run fun g l _ w a _ _ _ hx => ⟨v, h w a fun x hm u hu => by have := hx x hm; rw [hu] at this; simpa [rep] using this, by simp [rep]⟩

theorem q_move {x : Operand} (ho : o.op = .move x) : AQ P G wr o ρ S (ρ x) :=
  AQ.run fun g l _ w a _ _ _ hx => ⟨a.eval x, by simp [execOp, ho], hx x (by simp [ho, Op.operands])⟩
theorem q_assign {x : Operand} (ho : o.op = .assign x) : AQ P G wr o ρ S (ρ x) :=
  AQ.run fun g l _ w a _ _ _ hx => ⟨a.eval x, by simp [execOp, ho], hx x (by simp [ho, Op.operands])⟩

theorem q_pick {c x y : Operand} {b : Bool} {d : D} (ho : o.op = .pick c x y) (hc : ρ c = .sc (.bool b)) (hd : (bif b then ρ x else ρ y) = d) : AQ P G wr o ρ S d :=
  AQ.run fun g l _ w a _ _ _ hx => by
    have h1 : a.eval c = .bool b := by have := hx c (by simp [ho, Op.operands]); rw [hc] at this; simpa [rep] using this
    subst hd
    cases b with
    | true => exact ⟨a.eval x, by simp [execOp, ho, h1, asBool], hx x (by simp [ho, Op.operands])⟩
    | false => exact ⟨a.eval y, by simp [execOp, ho, h1, asBool], hx y (by simp [ho, Op.operands])⟩

/-- Two scalars. -/
theorem q_bin {op : BinOp} {T U : TypeId} {x y : Operand} {a b v : Value} (ho : o.op = .binOp op T x y U) (hx : ρ x = .sc a) (hy : ρ y = .sc b) (hg : ∀ w, (eqGuard op T x y a b).run P w = .ok () w) (hb : ∀ w, (binOp op T a b).run P w = .ok v w) : AQ P G wr o ρ S (.sc v) :=
  AQ.scal fun w ac h => by
    have h1 := h x (by simp [ho, Op.operands]) a hx
    have h2 := h y (by simp [ho, Op.operands]) b hy
    simp only [execOp, ho, h1, h2, Sem.run_bind, hg, hb, Result.andThen_ok, Sem.run_pure]

theorem guard_int {op : BinOp} {T : TypeId} {x y : Operand} {k k' : IntKind} {a b : Int} (w : World) : (eqGuard op T x y (.int k a) (.int k' b)).run P w = .ok () w := by
  unfold eqGuard; cases op <;> rfl
theorem guard_float {op : BinOp} {T : TypeId} {x y : Operand} {k k' : FloatKind} {a b : Nat} (w : World) : (eqGuard op T x y (.float k a) (.float k' b)).run P w = .ok () w := by
  unfold eqGuard; cases op <;> rfl
theorem guard_string {op : BinOp} {T : TypeId} {x y : Operand} {a b : ByteArray} (w : World) : (eqGuard op T x y (.string a) (.string b)).run P w = .ok () w := by
  unfold eqGuard; cases op <;> rfl

section
variable {T U : TypeId} {x y : Operand} {k : IntKind} {a b : Int}

theorem q_add (ho : o.op = .binOp .add T x y U) (hx : ρ x = .sc (.int k a)) (hy : ρ y = .sc (.int k b)) : AQ P G wr o ρ S (.sc (.int k (k.wrap (a + b)))) :=
  q_bin ho hx hy guard_int fun w => by simp [binOp, Op.intArith]
theorem q_sub (ho : o.op = .binOp .sub T x y U) (hx : ρ x = .sc (.int k a)) (hy : ρ y = .sc (.int k b)) : AQ P G wr o ρ S (.sc (.int k (k.wrap (a - b)))) :=
  q_bin ho hx hy guard_int fun w => by simp [binOp, Op.intArith]
theorem q_mul (ho : o.op = .binOp .mul T x y U) (hx : ρ x = .sc (.int k a)) (hy : ρ y = .sc (.int k b)) : AQ P G wr o ρ S (.sc (.int k (k.wrap (a * b)))) :=
  q_bin ho hx hy guard_int fun w => by simp [binOp, Op.intArith]
theorem q_quo (ho : o.op = .binOp .quo T x y U) (hx : ρ x = .sc (.int k a)) (hy : ρ y = .sc (.int k b)) (h0 : b ≠ 0) : AQ P G wr o ρ S (.sc (.int k (k.wrap (a.tdiv b)))) :=
  q_bin ho hx hy guard_int fun w => by simp [binOp, Op.intDiv, h0]
theorem q_rem (ho : o.op = .binOp .rem T x y U) (hx : ρ x = .sc (.int k a)) (hy : ρ y = .sc (.int k b)) (h0 : b ≠ 0) : AQ P G wr o ρ S (.sc (.int k (a.tmod b))) :=
  q_bin ho hx hy guard_int fun w => by simp [binOp, Op.intDiv, h0]
theorem q_and (ho : o.op = .binOp .and T x y U) (hx : ρ x = .sc (.int k a)) (hy : ρ y = .sc (.int k b)) : AQ P G wr o ρ S (.sc (.int k (k.wrap ((BitVec.ofInt k.bits a &&& BitVec.ofInt k.bits b).toNat : Int)))) :=
  q_bin ho hx hy guard_int fun w => by simp [binOp, Op.intBits]
theorem q_xor (ho : o.op = .binOp .xor T x y U) (hx : ρ x = .sc (.int k a)) (hy : ρ y = .sc (.int k b)) : AQ P G wr o ρ S (.sc (.int k (k.wrap ((BitVec.ofInt k.bits a ^^^ BitVec.ofInt k.bits b).toNat : Int)))) :=
  q_bin ho hx hy guard_int fun w => by simp [binOp, Op.intBits]
theorem q_shl {k' : IntKind} (ho : o.op = .binOp .shl T x y U) (hx : ρ x = .sc (.int k a)) (hy : ρ y = .sc (.int k' b)) (h0 : 0 ≤ b) : AQ P G wr o ρ S (.sc (.int k (k.wrap (a * 2 ^ min b.toNat k.bits)))) :=
  q_bin ho hx hy guard_int fun w => by simp [binOp, Op.shift, Int.not_lt.2 h0]
theorem q_shr {k' : IntKind} (ho : o.op = .binOp .shr T x y U) (hx : ρ x = .sc (.int k a)) (hy : ρ y = .sc (.int k' b)) (h0 : 0 ≤ b) : AQ P G wr o ρ S (.sc (.int k (a.fdiv (2 ^ min b.toNat k.bits)))) :=
  q_bin ho hx hy guard_int fun w => by simp [binOp, Op.shift, Int.not_lt.2 h0]
theorem q_eql (ho : o.op = .binOp .eql T x y U) (hx : ρ x = .sc (.int k a)) (hy : ρ y = .sc (.int k b)) : AQ P G wr o ρ S (.sc (.bool (decide (a = b)))) :=
  q_bin ho hx hy guard_int fun w => by simp [binOp, Op.intCmp, Bool.beq_eq_decide_eq]
theorem q_neq (ho : o.op = .binOp .neq T x y U) (hx : ρ x = .sc (.int k a)) (hy : ρ y = .sc (.int k b)) : AQ P G wr o ρ S (.sc (.bool (decide (¬ a = b)))) :=
  q_bin ho hx hy guard_int fun w => by simp [binOp, Op.intCmp, bne, Bool.beq_eq_decide_eq]
theorem q_lss (ho : o.op = .binOp .lss T x y U) (hx : ρ x = .sc (.int k a)) (hy : ρ y = .sc (.int k b)) : AQ P G wr o ρ S (.sc (.bool (decide (a < b)))) :=
  q_bin ho hx hy guard_int fun w => by simp [binOp, Op.intCmp]
theorem q_leq (ho : o.op = .binOp .leq T x y U) (hx : ρ x = .sc (.int k a)) (hy : ρ y = .sc (.int k b)) : AQ P G wr o ρ S (.sc (.bool (decide (a ≤ b)))) :=
  q_bin ho hx hy guard_int fun w => by simp [binOp, Op.intCmp]
theorem q_gtr (ho : o.op = .binOp .gtr T x y U) (hx : ρ x = .sc (.int k a)) (hy : ρ y = .sc (.int k b)) : AQ P G wr o ρ S (.sc (.bool (decide (b < a)))) :=
  q_bin ho hx hy guard_int fun w => by simp [binOp, Op.intCmp]
theorem q_geq (ho : o.op = .binOp .geq T x y U) (hx : ρ x = .sc (.int k a)) (hy : ρ y = .sc (.int k b)) : AQ P G wr o ρ S (.sc (.bool (decide (b ≤ a)))) :=
  q_bin ho hx hy guard_int fun w => by simp [binOp, Op.intCmp]
theorem q_not {c : Bool} (ho : o.op = .unOp .not T x) (hx : ρ x = .sc (.bool c)) : AQ P G wr o ρ S (.sc (.bool (!c))) :=
  AQ.scal fun w ac h => by
    have h1 := h x (by simp [ho, Op.operands]) _ hx
    simp [execOp, ho, h1, Op.unary]
end

section
variable {T U : TypeId} {x y : Operand}
/-- Texts. -/
theorem q_eqs {a b : List UInt8} (ho : o.op = .binOp .eql T x y U) (hx : ρ x = st a) (hy : ρ y = st b) : AQ P G wr o ρ S (.sc (.bool (decide (a = b)))) :=
  q_bin ho hx hy guard_string fun w => by rw [binOp_string_eql]; simp [ByteArray.toList_eq, Bool.beq_eq_decide_eq]
theorem q_nes {a b : List UInt8} (ho : o.op = .binOp .neq T x y U) (hx : ρ x = st a) (hy : ρ y = st b) : AQ P G wr o ρ S (.sc (.bool (decide (¬ a = b)))) :=
  q_bin ho hx hy guard_string fun w => by rw [binOp_string_neq]; simp [ByteArray.toList_eq, Bool.beq_eq_decide_eq]
/-- Floats. -/
theorem q_farith {op : BinOp} {k : FloatKind} {a b r : Nat} (ho : o.op = .binOp op T x y U) (hx : ρ x = .sc (.float k a)) (hy : ρ y = .sc (.float k b)) (hr : floatBits op k a b = some r) : AQ P G wr o ρ S (.sc (.float k r)) :=
  q_bin ho hx hy guard_float fun w => run_float_arith w op T k a b r hr

def fcmp (op : BinOp) (k : FloatKind) (a b : Nat) : Bool :=
  let c := k.format.order a b
  match op with
  | .eql => c == some .eq
  | .neq => c != some .eq
  | .lss => c == some .lt
  | .leq => c == some .lt || c == some .eq
  | .gtr => c == some .gt
  | .geq => c == some .gt || c == some .eq
  | _ => false
def isCmp : BinOp → Bool
  | .eql | .neq | .lss | .leq | .gtr | .geq => true
  | _ => false
theorem q_fcmp {op : BinOp} {k : FloatKind} {a b : Nat} (ho : o.op = .binOp op T x y U) (hop : isCmp op = true) (hx : ρ x = .sc (.float k a)) (hy : ρ y = .sc (.float k b)) : AQ P G wr o ρ S (.sc (.bool (fcmp op k a b))) :=
  q_bin ho hx hy guard_float fun w => by
    cases op <;> first | (cases hop; done) | simp [binOp, Op.floatCmp, fcmp]
end

/-! Conversions. -/
section
variable {T U : TypeId} {x : Operand}
theorem q_cii {du : TypeDesc} {k k' : IntKind} [hT : UN P T du] [hU : UN P U (.int k')] {n : Int} (ho : o.op = .convert T U x) (hx : ρ x = .sc (.int k n)) : AQ P G wr o ρ S (.sc (.int k' (k'.wrap n))) :=
  AQ.scal fun w ac h => by
    have h1 := h x (by simp [ho, Op.operands]) _ hx
    simp only [execOp, ho, h1, convert, Sem.run_bind, run_underlying hT.eq, run_underlying hU.eq, Result.andThen_ok]
    cases du <;> simp [Conv.intToInt]
theorem q_cif {du : TypeDesc} {k : IntKind} {k' : FloatKind} [hT : UN P T du] [hU : UN P U (.float k')] {n : Int} (ho : o.op = .convert T U x) (hx : ρ x = .sc (.int k n)) : AQ P G wr o ρ S (.sc (.float k' (k'.nearest n))) :=
  AQ.scal fun w ac h => by
    have h1 := h x (by simp [ho, Op.operands]) _ hx
    simp only [execOp, ho, h1, convert, Sem.run_bind, run_underlying hT.eq, run_underlying hU.eq, Result.andThen_ok]
    cases du <;> simp [Conv.intToFloat]
end

/-! Values made of values. -/
theorem q_iface {T : TypeId} {du : TypeDesc} [hT : UN P T du] {x : Operand} {d : D} (ho : o.op = .makeInterface T x) (hd : ∀ ms, du ≠ .interface ms) (hx : ρ x = d) : AQ P G wr o ρ S (.ifc T d) :=
  AQ.run fun g l _ w a _ _ _ h => by
    refine ⟨.iface T (a.eval x), ?_, ?_⟩
    · simp only [execOp, ho, Instr.makeInterface, Sem.run_bind, run_underlying hT.eq, Result.andThen_ok]
      cases du <;> first | rfl | exact absurd rfl (hd _)
    · simp only [rep]; exact ⟨_, rfl, hx ▸ h x (by simp [ho, Op.operands])⟩
theorem q_assert {T U : TypeId} {du : TypeDesc} [hU : UN P U du] {x : Operand} {d : D} (ho : o.op = .typeAssert x T U false) (hd : ∀ ms, du ≠ .interface ms) (hx : ρ x = .ifc U d) : AQ P G wr o ρ S d :=
  AQ.run fun g l _ w a _ _ _ h => by
    have h0 := h x (by simp [ho, Op.operands])
    rw [hx] at h0
    simp only [rep] at h0
    obtain ⟨v, h1, h2⟩ := h0
    refine ⟨v, ?_, h2⟩
    simp only [execOp, ho, h1, Instr.typeAssert, Sem.run_bind, run_underlying hU.eq, Result.andThen_ok]
    cases du <;> first | simp | exact absurd rfl (hd _)
theorem q_extract {x : Operand} {i : Nat} {ds : List D} {d : D} (ho : o.op = .extract x i) (hx : ρ x = .tup ds) (hd : ds[i]? = some d) : AQ P G wr o ρ S d :=
  AQ.run fun g l _ w a _ _ _ h => by
    have h0 := h x (by simp [ho, Op.operands])
    rw [hx] at h0
    simp only [rep] at h0
    obtain ⟨vs, h1, h2⟩ := h0
    obtain ⟨v, h3, h4⟩ := repL_get h2 i d hd
    refine ⟨v, ?_, h4⟩
    simp [execOp, ho, h1, Instr.extract, h3]
/-- No nil. -/
def solid : D → Bool
  | .box .. | .hp .. | .pin .. | .fn .. | .ifc .. => true
  | _ => false
theorem q_nil {x : Operand} {d : D} (ho : o.op = .nilCheck x) (hx : ρ x = d) (hs : solid d = true) : AQ P G wr o ρ S d :=
  AQ.run fun g l _ w a _ _ _ h => by
    have h0 := h x (by simp [ho, Op.operands])
    rw [hx] at h0
    refine ⟨a.eval x, ?_, h0⟩
    cases d <;> simp only [solid] at hs <;> first | (cases hs; done) | skip
    all_goals simp only [rep] at h0
    · obtain ⟨_, _, e⟩ := h0; simp [execOp, ho, e]
    · obtain ⟨_, _, e⟩ := h0; simp [execOp, ho, e]
    · obtain ⟨_, _, e, _⟩ := h0; simp [execOp, ho, e]
    · obtain ⟨_, e, _⟩ := h0; simp [execOp, ho, e]
    · obtain ⟨_, _, e, _⟩ := h0; simp [execOp, ho, e]

/-! Places. -/
class FI (P : Program) (T : TypeId) (f : Nat) (off : outParam Nat) : Prop where
  run : ∀ (ad : Addr) (w : World), (Instr.fieldAt T (.pointer (some ad)) f).run P w = .ok (.pointer (some (ad.add off))) w

def shiftD (n : Nat) : D → Option D
  | .box id off => some (.box id (off + n))
  | .hp id off => some (.hp id (off + n))
  | .pin cs off => some (.pin cs (off + n))
  | _ => none

theorem rep_shift {g : Gh} {l : Lo} {d d' : D} {n : Nat} (h : shiftD n d = some d') {x : Value} (hx : rep g l d x) : ∃ ad, x = .pointer (some ad) ∧ rep g l d' (.pointer (some (ad.add n))) := by
  cases d <;> simp only [shiftD] at h <;> first | (cases h; done) | skip
  all_goals (cases h; simp only [rep] at hx ⊢)
  · obtain ⟨b, h1, rfl⟩ := hx; exact ⟨_, rfl, b, h1, by rw [addr_add]⟩
  · obtain ⟨b, h1, rfl⟩ := hx; exact ⟨_, rfl, b, h1, by rw [addr_add]⟩
  · obtain ⟨b, oo, rfl, h1⟩ := hx; exact ⟨_, rfl, b, oo, by rw [addr_add, Nat.add_assoc], h1⟩

theorem q_field {T : TypeId} {f off : Nat} [hF : FI P T f off] {x : Operand} {d d' : D} (ho : o.op = .fieldAddr T x f) (hx : ρ x = d) (hd : shiftD off d = some d') : AQ P G wr o ρ S d' :=
  AQ.run fun g l _ w a _ _ _ h => by
    have h0 := h x (by simp [ho, Op.operands])
    rw [hx] at h0
    obtain ⟨ad, h1, h2⟩ := rep_shift hd h0
    refine ⟨_, ?_, h2⟩
    simp only [execOp, ho, h1, Sem.run_bind, hF.run, Result.andThen_ok, Sem.run_pure]

/-- What a slice shows. -/
def slc : D → Option (List D × Nat)
  | .im cs n => some (cs, n)
  | .lit cs n => some (cs, n)
  | .gs _ _ cs n => some (cs, n)
  | .sc (.slice none 0 0) => some ([], 0)
  | _ => none

theorem rep_slc {g : Gh} {l : Lo} {d : D} {cs : List D} {n : Nat} (h : slc d = some (cs, n)) {x : Value} (hx : rep g l d x) :
    (n = 0 ∧ cs = [] ∧ x = .slice none 0 0) ∨ ∃ b oo cap, x = .slice (some ⟨b, oo, none⟩) n cap ∧ n ≤ cap ∧ repS g cs b oo := by
  unfold slc at h
  split at h <;> first | (cases h; done) | skip
  · cases h; simpa [rep] using hx
  · cases h; simp only [rep] at hx; obtain ⟨b, h1, h2⟩ := hx; exact .inr ⟨b, 0, n, h1, Nat.le_refl _, h2⟩
  · cases h; simp only [rep] at hx
    rcases hx with hx | ⟨r, _, _, _, h1, h2, h3⟩
    · exact .inl hx
    · exact .inr ⟨r.b, 0, r.cap, h1, h2, h3⟩
  · cases h; simp only [rep] at hx; exact .inl ⟨rfl, rfl, hx⟩

theorem q_index {T e : TypeId} {agg : Bool} {sz : Nat} {x ix : Operand} [hT : UN P T (.slice e)] [hE : TI P e agg sz] {d : D} {cs : List D} {n : Nat} {k : IntKind} {i : Int} (ho : o.op = .indexAddr T x ix) (hx : ρ x = d) (hd : slc d = some (cs, n)) (hi : ρ ix = .sc (.int k i)) (h0 : 0 ≤ i) (h1 : i < n) : AQ P G wr o ρ S (.pin cs (i.toNat * sz)) :=
  AQ.run fun g l _ w a _ _ _ h => by
    have hx0 := h x (by simp [ho, Op.operands])
    have hi0 := h ix (by simp [ho, Op.operands])
    rw [hx] at hx0; rw [hi] at hi0
    have hi1 : a.eval ix = .int k i := by simpa [rep] using hi0
    rcases rep_slc hd hx0 with ⟨h2, _, _⟩ | ⟨b, oo, cap, h2, _, h4⟩
    · omega
    · refine ⟨.pointer (some ⟨b, oo + i.toNat * sz, none⟩), ?_, by simp only [rep]; exact ⟨b, oo, rfl, h4⟩⟩
      simp only [execOp, ho, h2, hi1, Instr.indexAt, asIntOf, Sem.run_bind, Sem.run_pure, Result.andThen_ok, run_underlying hT.eq]
      simp [h0, h1, addr_add, hE.size]

theorem q_indexMs {T e : TypeId} {agg : Bool} {sz : Nat} {x ix : Operand} [hT : UN P T (.slice e)] [hE : TI P e agg sz] {id off n : Nat} {k : IntKind} {i : Int} (ho : o.op = .indexAddr T x ix) (hx : ρ x = .ms id off n) (hi : ρ ix = .sc (.int k i)) (h0 : 0 ≤ i) (h1 : i < n) : AQ P G wr o ρ S (.box id (off + i.toNat * sz)) :=
  AQ.run fun g l _ w a _ _ _ h => by
    have hx0 := h x (by simp [ho, Op.operands])
    have hi0 := h ix (by simp [ho, Op.operands])
    rw [hx] at hx0; rw [hi] at hi0
    have hi1 : a.eval ix = .int k i := by simpa [rep] using hi0
    simp only [rep] at hx0
    obtain ⟨b, cap, h3, h2, _⟩ := hx0
    refine ⟨.pointer (some ⟨b, off + i.toNat * sz, none⟩), ?_, by simp only [rep]; exact ⟨b, h3, rfl⟩⟩
    simp only [execOp, ho, h2, hi1, Instr.indexAt, asIntOf, Sem.run_bind, Sem.run_pure, Result.andThen_ok, run_underlying hT.eq]
    simp [h0, h1, addr_add, hE.size]

/-- A byte of a text. -/
theorem q_byte {T : TypeId} {x ix : Operand} [hT : UN P T .string] {s : List UInt8} {k : IntKind} {i : Int} (ho : o.op = .index T x ix) (hx : ρ x = st s) (hi : ρ ix = .sc (.int k i)) (h0 : 0 ≤ i) (h1 : i < s.length) :
    AQ P G wr o ρ S (.sc (.int .u8 ((s.getD i.toNat 0).toNat : Int))) :=
  AQ.scal fun w a h => by
    have h2 := h x (by simp [ho, Op.operands]) _ hx
    have h3 := h ix (by simp [ho, Op.operands]) _ hi
    have hlt : i.toNat < s.length := by omega
    have hr := run_index_string (P := P) w T ⟨⟨s⟩⟩ k i hT.eq
    have hsz : (⟨⟨s⟩⟩ : ByteArray).size = s.length := rfl
    rw [dif_pos (by rw [hsz]; exact ⟨h0, h1⟩)] at hr
    simp only [execOp, ho, h2, h3, Sem.run_bind, hr, Result.andThen_ok, Sem.run_pure]
    congr 3
    have : (⟨⟨s⟩⟩ : ByteArray)[i.toNat] = s[i.toNat] := rfl
    rw [this]
    simp [hlt]

/-! Lengths. -/
theorem q_lens {T : TypeId} {x : Operand} [hT : UN P T .string] {s : List UInt8} (ho : o.op = .call { callee := .builtin .len, args := #[x], argTypes := #[T] }) (hx : ρ x = st s) : AQ P G wr o ρ S (i64 s.length) :=
  AQ.scal fun w a h => by
    have h1 := h x (by simp [ho, Op.operands, Call.operands]) _ hx
    have hsz : (⟨⟨s⟩⟩ : ByteArray).size = s.length := rfl
    simp [execOp, ho, resolve, invoke, builtin, h1, Builtin.len_, run_underlying hT.eq, goInt, hsz]
theorem q_len {T e : TypeId} {x : Operand} [hT : UN P T (.slice e)] {d : D} {cs : List D} {n : Nat} (ho : o.op = .call { callee := .builtin .len, args := #[x], argTypes := #[T] }) (hx : ρ x = d) (hd : slc d = some (cs, n)) : AQ P G wr o ρ S (i64 n) :=
  AQ.run fun g l _ w a _ _ _ h => by
    have hx0 := h x (by simp [ho, Op.operands, Call.operands])
    rw [hx] at hx0
    refine ⟨.int .i64 n, ?_, by simp [rep]⟩
    rcases rep_slc hd hx0 with ⟨h1, _, h2⟩ | ⟨b, oo, cap, h2, _⟩
    · simp [execOp, ho, resolve, invoke, builtin, h2, Builtin.len_, run_underlying hT.eq, goInt, h1]
    · simp [execOp, ho, resolve, invoke, builtin, h2, Builtin.len_, run_underlying hT.eq, goInt]
theorem q_lenMs {T e : TypeId} {x : Operand} [hT : UN P T (.slice e)] {id off n : Nat} (ho : o.op = .call { callee := .builtin .len, args := #[x], argTypes := #[T] }) (hx : ρ x = .ms id off n) : AQ P G wr o ρ S (i64 n) :=
  AQ.run fun g l _ w a _ _ _ h => by
    have hx0 := h x (by simp [ho, Op.operands, Call.operands])
    rw [hx] at hx0
    simp only [rep] at hx0
    obtain ⟨b, cap, _, h2, _⟩ := hx0
    exact ⟨.int .i64 n, by simp [execOp, ho, resolve, invoke, builtin, h2, Builtin.len_, run_underlying hT.eq, goInt], by simp [rep]⟩
/-! Parts of texts and slices. -/
theorem extract_str (l : List UInt8) (a b : Nat) : (⟨⟨l⟩⟩ : ByteArray).extract a b = ⟨⟨(l.take b).drop a⟩⟩ := by
  apply ByteArray.ext
  rw [ByteArray.data_extract]
  apply Array.ext'
  simp [List.drop_take]

theorem q_cutS {T : TypeId} {x : Operand} {lo hi : Option Operand} [hT : UN P T .string] {s : List UInt8} {a b : Nat} (ho : o.op = .slice T x lo hi none) (hx : ρ x = st s) (hlo : match lo with | none => a = 0 | some y => ∃ k i, ρ y = .sc (.int k i) ∧ 0 ≤ i ∧ i.toNat = a) (hhi : match hi with | none => b = s.length | some y => ∃ k i, ρ y = .sc (.int k i) ∧ 0 ≤ i ∧ i.toNat = b) (hab : a ≤ b) (hb : b ≤ s.length) : AQ P G wr o ρ S (st ((s.take b).drop a)) :=
  AQ.scal fun w ac h => by
    have h1 := h x (by simp [ho, Op.operands]) _ hx
    have hsz : (⟨⟨s⟩⟩ : ByteArray).size = s.length := rfl
    have hb' : ∀ (y : Nat) (i : Int), 0 ≤ i → i.toNat ≤ y → (0 ≤ i ∧ i ≤ (y : Int)) := fun y i h0 h1 => by omega
    cases lo with
    | none =>
      subst hlo
      cases hi with
      | none =>
        subst hhi
        simp [execOp, ho, h1, Instr.sliceAt, Instr.slice, run_underlying hT.eq, Instr.sliceBounds]
      | some y =>
        obtain ⟨k, i, h2, h3, h4⟩ := hhi
        have h5 := h y (by simp [ho, Op.operands]) _ h2
        subst h4
        simp [execOp, ho, h1, h5, Instr.sliceAt, Instr.slice, run_underlying hT.eq, Instr.sliceBounds, run_sliceBound_if, hsz, hb' _ _ h3 hb, extract_str]
    | some y =>
      obtain ⟨k, i, h2, h3, h4⟩ := hlo
      have h5 := h y (by simp [ho, Op.operands]) _ h2
      subst h4
      cases hi with
      | none =>
        subst hhi
        simp [execOp, ho, h1, h5, Instr.sliceAt, Instr.slice, run_underlying hT.eq, Instr.sliceBounds, run_sliceBound_if, hsz, hb' _ _ h3 hab, extract_str]
      | some z =>
        obtain ⟨k', j, h6, h7, h8⟩ := hhi
        have h9 := h z (by simp [ho, Op.operands]) _ h6
        subst h8
        have e : ¬ (max j 0 < i) := by omega
        simp [e, execOp, ho, h1, h5, h9, Instr.sliceAt, Instr.slice, run_underlying hT.eq, Instr.sliceBounds, run_sliceBound_if, hsz, hb' _ _ h3 hab, hb' _ _ h7 hb, extract_str]

end
end Go.Abs
namespace Go.Abs
set_option linter.unusedVariables false
set_option linter.unusedSimpArgs false

/-- A type's zero cells. -/
class ZV (P : Program) (T : TypeId) (bytes : outParam Nat) (zs : outParam (List Value)) : Prop where
  eq : ∃ i z, P.info? T = some i ∧ i.zero = some z ∧ z.cells = zs.toArray ∧ i.size = zs.length ∧ i.bytes = bytes
  one : zs.all (·.oneCell') = true

def splice (cs : List D) (off : Nat) (vs : List D) : List D := cs.take off ++ vs ++ cs.drop (off + vs.length)
def partsD : D → List D
  | .agg cs => cs
  | d => [d]

theorem length_splice {cs vs : List D} {off : Nat} (h : off + vs.length ≤ cs.length) : (splice cs off vs).length = cs.length := by
  simp [splice]; omega

section
variable {P : Program} {G : Nat → D} {g g' : Gh} {l l' : Lo} {A A' : AH} {wr : Bool} {Prot : Nat → Prop} {w w' : World} {N : Nat} {o : Oper} {ρ : Operand → D}

theorem rep_parts {d : D} {x : Value} (h : rep g l d x) (ho : oneL (partsD d) = true) : repL g l (partsD d) x.cells.toList ∧ ∀ v ∈ x.cells.toList, v.oneCell' = true := by
  have one : ∀ {d : D} {x : Value}, rep g l d x → oneD d = true → repL g l [d] x.cells.toList ∧ ∀ v ∈ x.cells.toList, v.oneCell' = true := fun {d x} h ho => by
    have h1 := one_of h ho
    have hc : x.cells = #[x] := by cases x <;> simp [Value.oneCell', Value.cells] at h1 ⊢
    rw [hc]
    exact ⟨by simp only [repL]; exact ⟨x, [], rfl, h, rfl⟩, by simpa using h1⟩
  have all : ∀ {cs : List D} {vs : List Value}, repL g l cs vs → oneL cs = true → ∀ v ∈ vs, v.oneCell' = true := by
    intro cs
    induction cs with
    | nil => intro vs h _ v hv; simp only [repL] at h; subst h; cases hv
    | cons c cs ih =>
      intro vs h ho v hv
      simp only [repL] at h
      obtain ⟨x, r, rfl, h1, h2⟩ := h
      simp only [oneL, List.all_cons, Bool.and_eq_true] at ho
      rcases List.mem_cons.1 hv with rfl | hv
      · exact one_of h1 ho.1
      · exact ih h2 ho.2 v hv
  cases d with
  | agg cs =>
    simp only [rep] at h
    obtain ⟨vs, rfl, h2⟩ := h
    simp only [partsD, Value.cells] at ho ⊢
    exact ⟨h2, all h2 ho⟩
  | _ => exact one h (by simpa [oneL, partsD] using ho)

theorem repL_take : ∀ {cs : List D} {vs : List Value} (_ : repL g l cs vs) (n : Nat), repL g l (cs.take n) (vs.take n)
  | [], _, h, n => by simp only [repL] at h; subst h; simp [repL]
  | c :: cs, _, h, 0 => by simp [repL]
  | c :: cs, _, h, n + 1 => by
    simp only [repL] at h
    obtain ⟨x, r, rfl, h1, h2⟩ := h
    simp only [List.take_succ_cons, repL]
    exact ⟨x, _, rfl, h1, repL_take h2 n⟩
theorem repL_drop : ∀ {cs : List D} {vs : List Value} (_ : repL g l cs vs) (n : Nat), repL g l (cs.drop n) (vs.drop n)
  | [], _, h, n => by simp only [repL] at h; subst h; simp [repL]
  | c :: cs, _, h, 0 => by simpa using h
  | c :: cs, _, h, n + 1 => by
    simp only [repL] at h
    obtain ⟨x, r, rfl, h1, h2⟩ := h
    simpa using repL_drop h2 n
theorem repL_splice {cs vs : List D} {xs ys : List Value} (h : repL g l cs xs) (h' : repL g l vs ys) (off : Nat) : repL g l (splice cs off vs) (xs.take off ++ ys ++ xs.drop (off + ys.length)) := by
  unfold splice
  rw [repL_length h']
  exact repL_append (repL_append (repL_take h off) h') (repL_drop h _)

theorem repL_sc : ∀ zs : List Value, repL g l (zs.map D.sc) zs
  | [] => by simp [repL]
  | z :: zs => by simp only [List.map_cons, repL]; exact ⟨z, zs, rfl, by simp [rep], repL_sc zs⟩

/-- Cells are written, none of them frozen. -/
theorem run_storeCells_into (b o : Nat) (t : TypeId) (fr : Nat × Nat) : ∀ (vs : List Value) (i : Nat) (cur : Array Value) (w : World), w.heap[b]? = some (.cells cur t fr) →
    (∀ j, o + i ≤ j → j < o + i + vs.length → ¬ (fr.1 ≤ j ∧ j < fr.2)) → o + i + vs.length ≤ cur.size → (∀ v ∈ vs, v.oneCell' = true) →
    (storeCells ⟨b, o, none⟩ vs i).run P w = .ok () (w.setRow b (cur.toList.take (o + i) ++ vs ++ cur.toList.drop (o + i + vs.length)).toArray)
  | [], i, cur, w, hg, _, _, _ => by
    simp only [storeCells, List.append_nil, List.length_nil, Nat.add_zero, List.take_append_drop, Array.toArray_toList]
    rw [setRow_self w b cur t fr hg]
    rfl
  | v :: rest, i, cur, w, hg, hfz, hl, h1 => by
    have hi : o + i < cur.size := by simp at hl; omega
    have hadd : (⟨b, o, none⟩ : Addr).add i = ⟨b, o + i, none⟩ := addr_add _ _ _
    have hcell : w.cell? ⟨b, o + i, none⟩ = some cur[o + i] := by simp [World.cell?, hg, hi]
    have hfro : w.frozen? ⟨b, o + i, none⟩ = false := by
      have := hfz (o + i) (Nat.le_refl _) (by simp)
      obtain ⟨lo, hi'⟩ := fr
      simp only [World.frozen?, hg, Bool.and_eq_false_iff, decide_eq_false_iff_not]
      simp only at this
      omega
    have hst : (store ((⟨b, o, none⟩ : Addr).add i) v).run P w = .ok () (w.setRow b (cur.setIfInBounds (o + i) v)) := by
      rw [hadd, run_store P w _ v _ (h1 v (by simp)), hcell]
      simp [hfro, setCell_eq_setRow w b (o + i) cur t fr v hg]
    have ih := run_storeCells_into b o t fr rest (i + 1) (cur.setIfInBounds (o + i) v) (w.setRow b (cur.setIfInBounds (o + i) v)) (setRow_heap w b cur _ t _ hg)
      (fun j h2 h3 => hfz j (by omega) (by simp; omega)) (by simp at hl ⊢; omega) (fun x hx => h1 x (by simp [hx]))
    simp only [storeCells, Sem.run_bind, hst, Result.andThen_ok, ih, setRow_setRow]
    congr 3
    have e := list_seg_step cur.toList (o + i) v rest (by simp at hl ⊢; omega)
    simpa [Array.toList_setIfInBounds, Nat.add_assoc] using e

theorem setRow_size (w : World) (b : Nat) (cs : Array Value) : (w.setRow b cs).heap.size = w.heap.size := by simp [World.setRow]

theorem sure_at (b o : Nat) : Instr.sureAddr (.pointer (some ⟨b, o, none⟩)) = (pure ⟨b, o, none⟩ : Sem Addr) := rfl

/-- A store to a local object. -/
theorem as_store {T : TypeId} {agg : Bool} {sz : Nat} [hT : TI P T agg sz] {x y : Operand} {id off : Nat} {d : D} {cs : List D} (ho : o.op = .store T x y) (hx : ρ x = .box id off) (hy : ρ y = d) (hA : A.o[id]? = some (.cells cs)) (hl : (partsD d).length = sz) (h1 : oneL (partsD d) = true) (hfit : off + sz ≤ cs.length) :
    AS P G wr o ρ A (.sc undef) (A.set id (.cells (splice cs off (partsD d)))) := by
  intro g l Prot w a hr hops K Q hk
  have hx0 := hops x (by simp [ho, Op.operands])
  have hy0 := hops y (by simp [ho, Op.operands])
  rw [hx] at hx0; rw [hy] at hy0
  simp only [rep] at hx0
  obtain ⟨b, hι, hxe⟩ := hx0
  obtain ⟨b', hι', hnp, hlt, hh⟩ := hr.loc id _ hA
  rw [hι] at hι'; cases hι'
  simp only [Holds] at hh
  obtain ⟨vs, sp, e, f, hb, hrl, hfro⟩ := hh
  obtain ⟨hp, hone⟩ := rep_parts hy0 h1
  have hlen := repL_length hp
  have hlen' := repL_length hrl
  have hcl : (a.eval y).cells.toList.length = sz := by omega
  have hst := run_storeCells_into (P := P) b off e f (a.eval y).cells.toList 0 (vs ++ sp).toArray w hb
    (fun j h2 h3 => hfro j (by omega)) (by simp at hcl ⊢; omega) hone
  have hcs : (a.eval y).cells.size = sz := by simpa using hcl
  unfold Oper.wp
  have hrun : (execOp a.eval o).run P w = .ok .skip (w.setRow b (((vs ++ sp).take off ++ (a.eval y).cells.toList ++ (vs ++ sp).drop (off + (a.eval y).cells.toList.length)).toArray)) := by
    simp only [execOp, ho, hxe, Instr.storeAt, sure_at, storeVar, Sem.run_bind, Sem.run_pure, Result.andThen_ok, hT.size, hcs, ne_eq, not_true_eq_false, if_false]
    simp only [Nat.add_zero] at hst
    rw [hst]
    rfl
  rw [hrun]
  have hsplit : (vs ++ sp).take off ++ (a.eval y).cells.toList ++ (vs ++ sp).drop (off + (a.eval y).cells.toList.length) = (vs.take off ++ (a.eval y).cells.toList ++ vs.drop (off + (a.eval y).cells.toList.length)) ++ sp := by
    rw [hcl, List.take_append_of_le_length (by omega), List.drop_append_of_le_length (by omega)]
    simp
  rw [hsplit]
  refine hk g l _ undef ⟨Gh.le.refl _, by rw [setRow_size]; exact Nat.le_refl _, fun b' hb' => setRow_other w b b' _ (fun e => hnp (e ▸ hb')), fun _ _ _ => rfl, fun _ _ _ h => h, rfl, rfl⟩ (Lo.le.refl _) ?_ (by simp [rep])
  refine hr.set_local (List.getElem?_eq_some_iff.1 hA).1 hι (setRow_size _ _ _) (fun b' hb' => setRow_other w b b' _ hb') ?_
  simp only [Holds]
  refine ⟨_, sp, e, f, setRow_heap w b _ _ e f hb, ?_, fun o' ho' => hfro o' (by rw [length_splice (by omega)] at ho'; exact ho')⟩
  exact repL_splice hrl hp off

/-- A store to a shared object. -/
theorem as_storeH {T : TypeId} {agg : Bool} {sz : Nat} [hT : TI P T agg sz] {x y : Operand} {k off : Nat} {d : D} {cs : List D} (ho : o.op = .store T x y) (hx : ρ x = .hp k off) (hy : ρ y = d) (hA : A.h k = some cs) (hl : (partsD d).length = sz) (h1 : oneL (partsD d) = true) (hext : ext d = true) (hfit : off + sz ≤ cs.length) :
    AS P G true o ρ A (.sc undef) (A.hset k (splice cs off (partsD d))) := by
  intro g l Prot w a hr hops K Q hk
  have hx0 := hops x (by simp [ho, Op.operands])
  have hy0 := hops y (by simp [ho, Op.operands])
  rw [hx] at hx0; rw [hy] at hy0
  simp only [rep] at hx0
  obtain ⟨b, hκ, hxe⟩ := hx0
  obtain ⟨b', vs, e, hκ', hnp, hb, hrl⟩ := hr.sh k _ hA
  rw [hκ] at hκ'; cases hκ'
  obtain ⟨hp, hone⟩ := rep_parts (rep_ext d hext hy0) h1
  have hlen := repL_length hp
  have hlen' := repL_length hrl
  have hcl : (a.eval y).cells.toList.length = sz := by omega
  have hst := run_storeCells_into (P := P) b off e (0, 0) (a.eval y).cells.toList 0 vs.toArray w hb
    (fun j h2 h3 => by simp) (by simp at hcl ⊢; omega) hone
  have hcs : (a.eval y).cells.size = sz := by simpa using hcl
  unfold Oper.wp
  have hrun : (execOp a.eval o).run P w = .ok .skip (w.setRow b ((vs.take off ++ (a.eval y).cells.toList ++ vs.drop (off + (a.eval y).cells.toList.length)).toArray)) := by
    simp only [execOp, ho, hxe, Instr.storeAt, sure_at, storeVar, Sem.run_bind, Sem.run_pure, Result.andThen_ok, hT.size, hcs, ne_eq, not_true_eq_false, if_false]
    simp only [Nat.add_zero] at hst
    rw [hst]
    rfl
  rw [hrun]
  have hset := hr.set_shared hA hκ (w' := w.setRow b ((vs.take off ++ (a.eval y).cells.toList ++ vs.drop (off + (a.eval y).cells.toList.length)).toArray)) (setRow_size _ _ _) (fun b' hb' => setRow_other w b b' _ hb') (setRow_heap w b _ _ e (0, 0) hb) (repL_splice hrl hp off)
  exact hk g l _ undef ⟨Gh.le.refl _, by rw [setRow_size]; exact Nat.le_refl _, fun b' hb' => setRow_other w b b' _ (fun e => hset.2 (e ▸ hb')), fun _ _ _ => rfl, fun _ _ _ h => h, rfl, rfl⟩ (Lo.le.refl _) hset.1 (by simp [rep])

/-- Loads. -/
theorem loadD_ext {agg : Bool} {sz : Nat} {d v : D} (h : loadD A agg sz d = some v) (he : ExtA A A') : loadD A' agg sz d = some v := by
  unfold loadD at h ⊢
  cases hc : cellsAt A d with
  | none => rw [hc] at h; cases h
  | some p =>
    have : cellsAt A' d = some p := by
      cases d <;> simp only [cellsAt] at hc ⊢ <;> first | (cases hc; done) | skip
      · rename_i id off
        cases ho : A.o[id]? with
        | none => rw [ho] at hc; cases hc
        | some ob => rw [he.o id ob ho]; rw [ho] at hc; exact hc
      · rw [he.h]; exact hc
      · exact hc
    rw [this]; rw [hc] at h; exact h

theorem q_load {T : TypeId} {agg : Bool} {sz : Nat} [hT : TI P T agg sz] {x : Operand} {d v : D} (ho : o.op = .load T x) (hx : ρ x = d) (h : loadD A agg sz d = some v) : AQ P G wr o ρ (ExtA A) v :=
  AQ.run fun g l _ w a A' he hr hops => by
    have hx0 := hops x (by simp [ho, Op.operands])
    rw [hx] at hx0
    obtain ⟨ad, cv, h1, h2, h3⟩ := run_load_agg (T := T) hr (loadD_ext h he) hx0
    refine ⟨cv, ?_, h3⟩
    have hsure : Instr.sureAddr (.pointer (some ad)) = (pure ad : Sem Addr) := rfl
    simp only [execOp, ho, h1, Instr.loadAt, hsure, Sem.run_bind, Sem.run_pure, Result.andThen_ok, h2]

theorem q_loadPin {S : AH → Prop} {T : TypeId} {agg : Bool} {sz : Nat} [hT : TI P T agg sz] {x : Operand} {cs : List D} {off : Nat} {v : D} (ho : o.op = .load T x) (hx : ρ x = .pin cs off) (h : takeAt agg sz cs off = some v) : AQ P G wr o ρ S v :=
  AQ.run fun g l _ w a A' he hr hops => by
    have hx0 := hops x (by simp [ho, Op.operands])
    rw [hx] at hx0
    obtain ⟨ad, cv, h1, h2, h3⟩ := run_load_agg (T := T) hr (show loadD A' agg sz (.pin cs off) = some v by simpa [loadD, cellsAt] using h) hx0
    refine ⟨cv, ?_, h3⟩
    have hsure : Instr.sureAddr (.pointer (some ad)) = (pure ad : Sem Addr) := rfl
    simp only [execOp, ho, h1, Instr.loadAt, hsure, Sem.run_bind, Sem.run_pure, Result.andThen_ok, h2]

/-- What stands for zero cells: the cells themselves, or growing rows yet to be. -/
def ZAs : List D → List Value → Prop
  | [], zs => zs = []
  | .sc v :: ds, zs => ∃ r, zs = v :: r ∧ ZAs ds r
  | .gs _ _ cs m :: ds, zs => ∃ r, zs = .slice none 0 0 :: r ∧ cs = [] ∧ m = 0 ∧ ZAs ds r
  | _ :: _, _ => False

theorem ZAs.rep : ∀ {ds : List D} {zs : List Value}, ZAs ds zs → repL g l ds zs
  | [], _, h => by simpa [repL, ZAs] using h
  | .sc v :: ds, _, h => by simp only [ZAs] at h; obtain ⟨r, rfl, h⟩ := h; simp only [repL]; exact ⟨v, r, rfl, by simp [Abs.rep], h.rep⟩
  | .gs _ _ _ _ :: ds, _, h => by simp only [ZAs] at h; obtain ⟨r, rfl, rfl, rfl, h⟩ := h; simp only [repL]; exact ⟨_, r, rfl, by simp [Abs.rep], h.rep⟩
  | .box _ _ :: _, _, h | .hp _ _ :: _, _, h | .pin _ _ :: _, _, h | .im _ _ :: _, _, h | .lit _ _ :: _, _, h | .ms _ _ _ :: _, _, h | .hs _ _ _ _ :: _, _, h | .agg _ :: _, _, h | .tup _ :: _, _, h | .ifc _ _ :: _, _, h | .fn _ _ _ :: _, _, h | .mp _ :: _, _, h => by simp [ZAs] at h

theorem ZAs.sc : ∀ zs : List Value, ZAs (zs.map D.sc) zs
  | [] => rfl
  | z :: zs => by simp only [List.map_cons, ZAs]; exact ⟨zs, rfl, ZAs.sc zs⟩

/-- New tags. -/
def AH.tags (A : AH) (k : Nat) : AH := { A with live := fun i => A.live i || (Nat.ble A.ln i && Nat.blt i (A.ln + k)), ln := A.ln + k }

theorem Rel.tags (h : Rel P G g l A wr Prot w) (k : Nat) : Rel P G g l (A.tags k) wr Prot w := by
  have key : ∀ {t r}, (A.tags k).live t = true → l.τ t = some r → A.live t = true := fun {t r} ht hr => by
    simp only [AH.tags, Bool.or_eq_true, Bool.and_eq_true] at ht
    rcases ht with ht | ⟨ht, _⟩
    · exact ht
    · rw [(h.tagN t (Nat.le_of_ble_eq_true ht)).1] at hr; cases hr
  refine ⟨h.glob, h.prot, h.sld, h.loc, h.locN, h.locInj, h.locFree, fun t r ht hr => h.tag t r (key ht hr) hr, fun t ht => ?_, fun t t' r r' ht ht' hr hr' => h.tagInj t t' r r' (key ht hr) (key ht' hr') hr hr', h.sh, h.shN, h.shInj, h.shLt⟩
  simp only [AH.tags] at ht
  have h1 := h.tagN t (by omega)
  refine ⟨h1.1, ?_⟩
  simp only [AH.tags, h1.2, Bool.false_or, Bool.and_eq_false_iff]
  right
  cases hb : Nat.blt t (A.ln + k) with
  | false => rfl
  | true => simp [Nat.blt_eq] at hb; omega

theorem zv_run {T : TypeId} {by_ : Nat} {zs : List Value} (hZ : ZV P T by_ zs) : ∃ z, z.cells = zs.toArray ∧ ∀ w, (zeroValue T).run P w = .ok z w := by
  obtain ⟨i, z, h1, h2, h3, _⟩ := hZ.eq
  exact ⟨z, h3, fun w => by simp [zeroValue, typeInfo, h1, h2]⟩

/-- A new variable. -/
theorem as_alloc {T : TypeId} {by_ : Nat} {zs : List Value} [hZ : ZV P T by_ zs] {k : Nat} {ds : List D} (ho : o.op = .alloc T) (hd : ZAs ds zs) :
    AS P G wr o ρ A (.box A.o.length 0) ((A.tags k).push (.cells ds)) := by
  intro g l Prot w a hr hops K Q hk
  obtain ⟨z, h1, h2⟩ := zv_run hZ
  unfold Oper.wp
  have hrun : (execOp a.eval o).run P w = .ok (.value (.pointer (some ⟨w.heap.size, 0, none⟩))) (w.alloc (.cells zs.toArray T)) := by
    simp [execOp, ho, Instr.alloc, h2, newVar, newRow, h1]
  rw [hrun]
  have hl := (hr.tags k).alloc_local (.cells zs.toArray T) (.cells ds) (by
    simp only [Holds]
    exact ⟨zs, [], T, (0, 0), by simpa using heap_alloc_at w _, hd.rep, fun _ _ => by simp⟩)
  exact hk g _ _ _ (Fr.alloc hr _) hl.2 hl.1 (by simp only [rep]; exact ⟨w.heap.size, by simp [Lo.push, AH.tags], rfl⟩)

theorem as_box {T : TypeId} {x : Operand} {d : D} (ho : o.op = .box T x) (hx : ρ x = d) (h1 : oneL (partsD d) = true) :
    AS P G wr o ρ A (.box A.o.length 0) (A.push (.cells (partsD d))) := by
  intro g l Prot w a hr hops K Q hk
  have hx0 := hops x (by simp [ho, Op.operands])
  rw [hx] at hx0
  obtain ⟨hp, _⟩ := rep_parts hx0 h1
  unfold Oper.wp
  have hrun : (execOp a.eval o).run P w = .ok (.value (.pointer (some ⟨w.heap.size, 0, none⟩))) (w.alloc (.cells (a.eval x).cells T)) := by
    simp [execOp, ho, Instr.box, newVar, newRow]
  rw [hrun]
  have hle : l.le (l.push A.o.length w.heap.size) := Lo.le_push (hr.locN _ (Nat.le_refl _))
  have hl := hr.alloc_local (.cells (a.eval x).cells T) (.cells (partsD d)) (by
    simp only [Holds]
    exact ⟨(a.eval x).cells.toList, [], T, (0, 0), by simpa using heap_alloc_at w _, repL_mono (Gh.le.refl _) _ hle hp, fun _ _ => by simp⟩)
  exact hk g _ _ _ (Fr.alloc hr _) hl.2 hl.1 (by simp only [rep]; exact ⟨w.heap.size, by simp [Lo.push], rfl⟩)

/-- The same among the shared objects: its number is any that is free. -/
theorem fresh_share (hr : Rel P G g l A wr Prot w) : ∃ k, g.κ k = none ∧ A.h k = none := by
  obtain ⟨n, hn⟩ := hr.shN
  refine ⟨n, hn n (Nat.le_refl _), ?_⟩
  cases h : A.h n with
  | none => rfl
  | some cs => obtain ⟨b, _, _, h1, _⟩ := hr.sh n cs h; rw [hn n (Nat.le_refl _)] at h1; cases h1

theorem ao_allocH {T : TypeId} {by_ : Nat} {zs : List Value} [hZ : ZV P T by_ zs] {Kv : D → AH → Prop} (ho : o.op = .alloc T) (hK : ∀ k, A.h k = none → Kv (.hp k 0) (A.hset k (zs.map .sc))) : AOp P G wr o ρ A Kv := by
  intro g l Prot w a hr hops K Q hk
  obtain ⟨z, h1, h2⟩ := zv_run hZ
  obtain ⟨k, h3, h4⟩ := fresh_share hr
  unfold Oper.wp
  have hrun : (execOp a.eval o).run P w = .ok (.value (.pointer (some ⟨w.heap.size, 0, none⟩))) (w.alloc (.cells zs.toArray T)) := by
    simp [execOp, ho, Instr.alloc, h2, newVar, newRow, h1]
  rw [hrun]
  have hs := hr.alloc_shared h3 zs T (zs.map .sc) (repL_sc zs)
  exact hk _ _ (g.share k w.heap.size) l _ _ (hK k h4) hs.2 (Lo.le.refl _) hs.1 (by simp only [rep]; exact ⟨w.heap.size, by simp [Gh.share], rfl⟩)

theorem ao_boxH {T : TypeId} {x : Operand} {d : D} {Kv : D → AH → Prop} (ho : o.op = .box T x) (hx : ρ x = d) (h1 : oneL (partsD d) = true) (he : ext d = true) (hK : ∀ k, A.h k = none → Kv (.hp k 0) (A.hset k (partsD d))) : AOp P G wr o ρ A Kv := by
  intro g l Prot w a hr hops K Q hk
  have hx0 := hops x (by simp [ho, Op.operands])
  rw [hx] at hx0
  obtain ⟨hp, _⟩ := rep_parts (rep_ext d he hx0) h1
  obtain ⟨k, h3, h4⟩ := fresh_share hr
  unfold Oper.wp
  have hrun : (execOp a.eval o).run P w = .ok (.value (.pointer (some ⟨w.heap.size, 0, none⟩))) (w.alloc (.cells (a.eval x).cells T)) := by
    simp [execOp, ho, Instr.box, newVar, newRow]
  rw [hrun]
  have hs := hr.alloc_shared h3 (a.eval x).cells.toList T (partsD d) (repL_mono (Gh.le_share h3) _ (Lo.le.refl _) hp)
  simp only [Array.toArray_toList] at hs
  exact hk _ _ (g.share k w.heap.size) l _ _ (hK k h4) hs.2 (Lo.le.refl _) hs.1 (by simp only [rep]; exact ⟨w.heap.size, by simp [Gh.share], rfl⟩)

/-- A nil slice, taken as a row that will grow. -/
theorem as_nil {x : Operand} {e : TypeId} (ho : o.op = .assign x ∨ o.op = .move x) (hx : ρ x = .sc (.slice none 0 0)) : AS P G wr o ρ A (.gs A.ln e [] 0) (A.tags 1) := by
  intro g l Prot w a hr hops K Q hk
  have hx0 := hops x (by rcases ho with ho | ho <;> simp [ho, Op.operands])
  rw [hx] at hx0
  simp only [rep] at hx0
  unfold Oper.wp
  have hrun : (execOp a.eval o).run P w = .ok (.value (.slice none 0 0)) w := by rcases ho with ho | ho <;> simp [execOp, ho, hx0]
  rw [hrun]
  exact hk g l w _ (Fr.refl _ _ _) (Lo.le.refl _) (hr.tags 1) (by simp [rep])

end
end Go.Abs
namespace Go.Abs
set_option linter.unusedVariables false
set_option linter.unusedSimpArgs false

/-- A struct's zero cells and the places of its fields. -/
class BL (P : Program) (T : TypeId) (zs : outParam (List Value)) (places : outParam (List (Nat × Nat))) : Prop where
  eq : ∃ it z fields, P.info? T = some it ∧ it.zero = some z ∧ z.cells = zs.toArray ∧ P.underlying T = some (.struct fields) ∧
    fields.toList.mapM (fun f => (P.info? f.type).map fun i => (f.offset, i.size)) = some places

/-- A field of a struct that is a value. -/
class FV (P : Program) (T : TypeId) (f : Nat) (off : outParam Nat) (agg : outParam Bool) (sz : outParam Nat) : Prop where
  run : ∀ (vs : Array Value) (w : World) (v : Value), (if agg then some (Value.agg (vs.extract off (off + sz))) else vs[off]?) = some v → (Instr.field T (.agg vs) f).run P w = .ok v w

def fillD (place : Nat → Option (Nat × Nat)) (cs : List D) : List (Nat × D) → Option (List D)
  | [] => some cs
  | (i, d) :: rest =>
    match place i with
    | none => none
    | some (off, size) => if oneL (partsD d) && (partsD d).length == size && decide (off + size ≤ cs.length) then fillD place (splice cs off (partsD d)) rest else none

section
variable {P : Program} {G : Nat → D} {g g' : Gh} {l l' : Lo} {A A' : AH} {wr : Bool} {Prot : Nat → Prop} {w w' : World} {N : Nat} {o : Oper} {ρ : Operand → D} {S : AH → Prop}

theorem set_fold (off : Nat) : ∀ (vs : List Value) (j : Nat) (cs : Array Value), off + j + vs.length ≤ cs.size →
    (((vs.zipIdx j).foldl (fun cs (p : Value × Nat) => cs.setIfInBounds (off + p.2) p.1) cs)).toList = cs.toList.take (off + j) ++ vs ++ cs.toList.drop (off + j + vs.length)
  | [], j, cs, _ => by simp
  | v :: vs, j, cs, h => by
    simp only [List.zipIdx_cons, List.foldl_cons]
    simp only [List.length_cons] at h
    rw [set_fold off vs (j + 1) _ (by simp; omega)]
    have e := list_seg_step cs.toList (off + j) v vs (by simp; omega)
    simpa [Array.toList_setIfInBounds, Nat.add_assoc] using e

theorem fill_rep (place : Nat → Option (Nat × Nat)) : ∀ (ps : List (Nat × D)) (cs : List D) (xs : Array Value) (out : List D) (vs : List (Nat × Value)), fillD place cs ps = some out → repL g l cs xs.toList →
    vs.map (·.1) = ps.map (·.1) → repL g l (ps.map (·.2)) (vs.map (·.2)) → ∃ ys : Array Value, Instr.fill place xs vs = some ys ∧ repL g l out ys.toList
  | [], cs, xs, out, vs, h, hr, hi, hv => by
    simp only [fillD] at h; cases h
    cases vs with
    | nil => exact ⟨xs, rfl, hr⟩
    | cons _ _ => simp at hi
  | (i, d) :: ps, cs, xs, out, vs, h, hr, hi, hv => by
    cases vs with
    | nil => simp at hi
    | cons p vs =>
      obtain ⟨i', v⟩ := p
      simp only [List.map_cons, List.cons.injEq] at hi
      obtain ⟨rfl, hi⟩ := hi
      simp only [List.map_cons, repL] at hv
      obtain ⟨v', r, e, hv1, hv2⟩ := hv
      cases e
      simp only [fillD] at h
      cases hp : place i' with
      | none => rw [hp] at h; cases h
      | some q =>
        obtain ⟨off, size⟩ := q
        rw [hp] at h
        simp only at h
        split at h
        · rename_i hc
          simp only [Bool.and_eq_true, beq_iff_eq, decide_eq_true_eq] at hc
          obtain ⟨⟨h1, h2⟩, h3⟩ := hc
          obtain ⟨h4, h5⟩ := rep_parts hv1 h1
          have h6 := repL_length h4
          have h7 := repL_length hr
          have hsz : v.cells.size = size := by simp at h6; omega
          have hxs : xs.size = cs.length := by simpa using h7
          have hf : (v.cells.zipIdx.foldl (fun cs (c, j) => cs.setIfInBounds (off + j) c) xs).toList = xs.toList.take off ++ v.cells.toList ++ xs.toList.drop (off + v.cells.toList.length) := by
            rw [← Array.foldl_toList, Array.toList_zipIdx]
            exact set_fold off v.cells.toList 0 xs (by simp; omega)
          obtain ⟨ys, h8, h9⟩ := fill_rep place ps _ (v.cells.zipIdx.foldl (fun cs (c, j) => cs.setIfInBounds (off + j) c) xs) out vs h (by rw [hf]; exact repL_splice hr h4 off) hi hv2
          refine ⟨ys, ?_, h9⟩
          simp only [Instr.fill, hp]
          rw [if_neg (by simp; omega)]
          exact h8
        · cases h

theorem parts_rep {a : Act} : ∀ (parts : List (Nat × Operand)), (∀ p ∈ parts, rep g l (ρ p.2) (a.eval p.2)) → repL g l ((parts.map fun p => (p.1, ρ p.2)).map (·.2)) ((parts.map fun p => (p.1, a.eval p.2)).map (·.2))
  | [], _ => by simp [repL]
  | p :: ps, h => by
    simp only [List.map_cons, repL]
    exact ⟨_, _, rfl, h p (by simp), parts_rep ps fun q hq => h q (by simp [hq])⟩

theorem q_build {T : TypeId} {parts : Array (Nat × Operand)} {zs : List Value} {places : List (Nat × Nat)} [hB : BL P T zs places] {ps : List (Nat × D)} {cs : List D} (ho : o.op = .build T parts) (hps : (parts.toList.map fun p => (p.1, ρ p.2)) = ps) (h : fillD (places[·]?) (zs.map .sc) ps = some cs) : AQ P G wr o ρ S (.agg cs) :=
  AQ.run fun g l _ w a _ _ _ hops => by
    obtain ⟨it, z, fields, h1, h2, h3, h4, h5⟩ := hB.eq
    subst hps
    obtain ⟨ys, h6, h7⟩ := fill_rep (g := g) (l := l) (places[·]?) _ (zs.map .sc) zs.toArray cs (parts.toList.map fun p => (p.1, a.eval p.2)) h (by simpa using repL_sc zs) (by simp [List.map_map, Function.comp_def])
      (parts_rep parts.toList fun p hp => hops p.2 (by simp [ho, Op.operands]; exact ⟨p.1, by simpa using hp⟩))
    refine ⟨.agg ys, ?_, by simp only [rep]; exact ⟨ys.toList, by simp, h7⟩⟩
    have hb : P.built T (parts.map fun (i, x) => (i, a.eval x)).toList = some ys := by
      unfold Program.built
      simp only [h1, h2, h4, h5, h3, Array.toList_map]
      have e : (fun x : Nat => (places.toArray[x]? : Option (Nat × Nat))) = (fun x : Nat => places[x]?) := by funext x; simp
      rw [e]
      exact h6
    simp only [execOp, ho, Sem.run_bind, run_build w T _ _ hb, Result.andThen_ok, Sem.run_pure]

/-- A slice literal. -/
theorem q_buildSlice {T e : TypeId} {by_ : Nat} {zs : List Value} {n : Nat} {parts : Array (Nat × Operand)} [hT : UN P T (.slice e)] [hZ : ZV P e by_ zs] {ps : List (Nat × D)} {cs : List D} (ho : o.op = .buildSlice T n parts) (hps : (parts.toList.map fun p => (p.1, ρ p.2)) = ps) (hn : 0 < n * zs.length) (hn' : n * zs.length ≤ 16777216) (h : fillD (fun i => some (i * zs.length, zs.length)) ((List.range (n * zs.length)).map fun i => .sc (zs.getD (i % zs.length) undef)) ps = some cs) (he : ext.extL (fzL cs) = true) (h1 : oneL cs = true) : AQ P G wr o ρ S (.lit (fzL cs) n) := by
  intro g l Prot w a A hS hr hops K Q hk
  obtain ⟨it, z, hi, hz, hzc, hsz, _⟩ := hZ.eq
  subst hps
  have h0 : ((Array.range (n * it.size)).map (z.cells[· % z.cells.size]!)).toList = (List.range (n * zs.length)).map fun i => zs.getD (i % zs.length) undef := by
    rw [hzc, hsz]
    simp only [Array.toList_map, Array.toList_range, List.size_toArray]
    apply List.map_congr_left
    intro i hi
    have hpos : 0 < zs.length := Nat.pos_of_ne_zero fun e => by rw [e] at hn; simp at hn
    have hlt : i % zs.length < zs.length := Nat.mod_lt _ hpos
    simp [hlt]
  obtain ⟨ys, h6, h7⟩ := fill_rep (g := g) (l := l) (fun i => some (i * zs.length, zs.length)) _ _ ((Array.range (n * it.size)).map (z.cells[· % z.cells.size]!)) cs (parts.toList.map fun p => (p.1, a.eval p.2)) h (by
      rw [h0]
      have := repL_sc (g := g) (l := l) ((List.range (n * zs.length)).map fun i => zs.getD (i % zs.length) undef)
      simpa [List.map_map, Function.comp_def] using this) (by simp [List.map_map, Function.comp_def])
      (parts_rep parts.toList fun p hp => hops p.2 (by simp [ho, Op.operands]; exact ⟨p.1, by simpa using hp⟩))
  have hrun : (execOp a.eval o).run P w = .ok (.value (.slice (some ⟨w.heap.size, 0, none⟩) n n)) (w.alloc (.cells ys e)) := by
    have := run_buildSlice (P := P) w T e n (parts.map fun (i, x) => (i, a.eval x)) ys it z hT.eq hi hz (by rw [hsz]; omega) (by rw [hsz]; omega) (by rw [hsz, Array.toList_map]; rw [hsz] at h6; exact h6)
    simp only [execOp, ho, Sem.run_bind, this, Result.andThen_ok, Sem.run_pure]
  unfold Oper.wp
  rw [hrun]
  obtain ⟨h2, h3⟩ := hr.alloc_sealed ys.toList [] e (0, 0)
  simp only [List.append_nil, Array.toArray_toList] at h2 h3
  have h8 : repL g Lo.none (fzL cs) ys.toList := repL_ext _ he (repL_fz _ h7)
  have hone : ∀ v ∈ ys.toList, v.oneCell' = true := by
    have h9 := (rep_parts (d := .agg cs) (x := .agg ys) (by simp only [rep]; exact ⟨ys.toList, by simp, h7⟩) h1).2
    simpa [Value.cells] using h9
  exact hk _ _ _ h3 h2 (by simp only [rep]; exact ⟨_, rfl, repS_sealed (repL_mono h3.le _ (Lo.le.refl _) h8) hone⟩)

/-! Rows that grow. -/
def AH.kill (A : AH) (t : Nat) : AH := { A with live := fun i => A.live i && !(Nat.beq i t) }
def AH.row (A : AH) : AH := { A with live := fun i => Nat.beq i A.ln || A.live i, ln := A.ln + 1 }
def AH.app (A : AH) (t : Nat) : AH := (A.kill t).row
def Lo.row (l : Lo) (t : Nat) (r : Row) : Lo := { l with τ := fun i => if i = t then some r else l.τ i }

theorem beq_false {i j : Nat} (h : i ≠ j) : Nat.beq i j = false := by
  cases hb : Nat.beq i j with
  | false => rfl
  | true => exact absurd (Nat.eq_of_beq_eq_true hb) h

/-- A growing row is written, outside its sealed part, and given up. -/
theorem Rel.kill_set (h : Rel P G g l A wr Prot w) {t : Nat} {r : Row} (ht : A.live t = true) (hr : l.τ t = some r) (hs : w'.heap.size = w.heap.size) (eb : ∀ b', b' ≠ r.b → w'.heap[b']? = w.heap[b']?)
    (hc : ∀ o v, g.σ r.b o = some v → w'.cell? ⟨r.b, o, none⟩ = some v) : Rel P G g l (A.kill t) wr Prot w' := by
  obtain ⟨cur, h2, h3, h4, h5, h6, h7, h8, h9⟩ := h.tag t r ht hr
  have lv : ∀ {i}, (A.kill t).live i = true → A.live i = true ∧ i ≠ t := fun {i} hi => by
    simp only [AH.kill, Bool.and_eq_true, Bool.not_eq_true'] at hi
    refine ⟨hi.1, fun e => ?_⟩
    rw [e] at hi
    simp at hi
  refine ⟨h.glob, fun b hb => by rw [hs]; exact h.prot b hb, fun b o v hv => ?_, fun id ob hi => ?_, h.locN, h.locInj, h.locFree, fun i r' hi hr' => ?_, fun i hi => ?_, fun i j r r' hi hj => h.tagInj i j r r' (lv hi).1 (lv hj).1,
    fun k cs hk => ?_, h.shN, h.shInj, fun k b hk => by rw [hs]; exact h.shLt k b hk⟩
  · by_cases e : b = r.b
    · subst e; exact hc o v hv
    · exact (cell?_block (eb b e)).trans (h.sld b o v hv)
  · obtain ⟨b, k1, k2, k3, k4⟩ := h.loc id ob hi
    exact ⟨b, k1, k2, by rw [hs]; exact k3, k4.of_block (eb b fun e => h8 id (e ▸ k1))⟩
  · obtain ⟨cur', k2, k3, k4, k5, k6, k7, k8, k9⟩ := h.tag i r' (lv hi).1 hr'
    exact ⟨cur', k2, (eb _ fun e => (lv hi).2 (h.tagInj i t r' r (lv hi).1 ht hr' hr e)).trans k3, k4, k5, k6, k7, k8, k9⟩
  · have := h.tagN i hi
    exact ⟨this.1, by simp [AH.kill, this.2]⟩
  · obtain ⟨b, vs, e, k1, k2, k3, k4⟩ := h.sh k cs hk
    exact ⟨b, vs, e, k1, k2, (eb _ fun e => h9 k (e ▸ k1)).trans k3, k4⟩

theorem Rel.kill (h : Rel P G g l A wr Prot w) (t : Nat) : Rel P G g l (A.kill t) wr Prot w := by
  have lv : ∀ {i}, (A.kill t).live i = true → A.live i = true := fun {i} hi => by
    simp only [AH.kill, Bool.and_eq_true] at hi; exact hi.1
  exact ⟨h.glob, h.prot, h.sld, h.loc, h.locN, h.locInj, h.locFree, fun i r hi => h.tag i r (lv hi), fun i hi => by have := h.tagN i hi; exact ⟨this.1, by simp [AH.kill, this.2]⟩,
    fun i j r r' hi hj => h.tagInj i j r r' (lv hi) (lv hj), h.sh, h.shN, h.shInj, h.shLt⟩

theorem Lo.le_row {t : Nat} {r : Row} (h : l.τ t = Option.none) : l.le (l.row t r) :=
  ⟨fun _ _ h => h, fun i r' hi => by
    simp only [Lo.row]
    by_cases e : i = t
    · subst e; rw [h] at hi; cases hi
    · rw [if_neg e]; exact hi⟩

theorem Rel.add_row (h : Rel P G g l A wr Prot w) {r : Row} {cur : Array Value} (h2 : ¬ Prot r.b) (h3 : w.heap[r.b]? = some (.cells cur r.e (0, 0))) (h4 : r.len ≤ r.cap) (h5 : r.cap ≤ maxLen) (h6 : cur.size = r.cap * P.cellsOf r.e)
    (h7 : ∀ o, r.len * P.cellsOf r.e ≤ o → g.σ r.b o = none) (h8 : ∀ id, l.ι id ≠ some r.b) (h9 : ∀ k, g.κ k ≠ some r.b) (h10 : ∀ t r', A.live t = true → l.τ t = some r' → r'.b ≠ r.b) :
    Rel P G g (l.row A.ln r) A.row wr Prot w ∧ l.le (l.row A.ln r) := by
  have hn := h.tagN A.ln (Nat.le_refl _)
  have hle : l.le (l.row A.ln r) := Lo.le_row hn.1
  have cs : ∀ {i r'}, A.row.live i = true → (l.row A.ln r).τ i = some r' → (i = A.ln ∧ r' = r) ∨ (A.live i = true ∧ l.τ i = some r') := fun {i r'} hi hr' => by
    simp only [Lo.row] at hr'
    by_cases e : i = A.ln
    · rw [if_pos e] at hr'; cases hr'; exact .inl ⟨e, rfl⟩
    · rw [if_neg e] at hr'
      simp only [AH.row, beq_false e, Bool.false_or] at hi
      exact .inr ⟨hi, hr'⟩
  refine ⟨⟨h.glob, h.prot, h.sld, fun id ob hi => ?_, h.locN, h.locInj, h.locFree, fun i r' hi hr' => ?_, fun i hi => ?_, fun i j r1 r2 hi hj h1 h2 e => ?_, h.sh, h.shN, h.shInj, h.shLt⟩, hle⟩
  · obtain ⟨b, k1, k2, k3, k4⟩ := h.loc id ob hi
    exact ⟨b, k1, k2, k3, k4.mono (Gh.le.refl _) hle⟩
  · rcases cs hi hr' with ⟨_, rfl⟩ | ⟨k1, k2⟩
    · exact ⟨cur, h2, h3, h4, h5, h6, h7, h8, h9⟩
    · exact h.tag i r' k1 k2
  · simp only [AH.row] at hi
    have := h.tagN i (by omega)
    exact ⟨by simp only [Lo.row]; rw [if_neg (by omega)]; exact this.1, by simp [AH.row, this.2, beq_false (show i ≠ A.ln by omega)]⟩
  · rcases cs hi h1 with ⟨k1, rfl⟩ | ⟨k1, k2⟩ <;> rcases cs hj h2 with ⟨k3, rfl⟩ | ⟨k3, k4⟩
    · omega
    · exact absurd e.symm (h10 j r2 k3 k4)
    · exact absurd e (h10 i r1 k1 k2)
    · exact h.tagInj i j r1 r2 k1 k3 k2 k4 e

theorem Rel.add_none (h : Rel P G g l A wr Prot w) : Rel P G g l A.row wr Prot w := by
  have h1 := h.tags 1
  have e : A.tags 1 = A.row := by
    simp only [AH.tags, AH.row]
    congr 1
    funext i
    by_cases hi : i = A.ln
    · subst hi; simp
    · have e1 : (Nat.ble A.ln i && Nat.blt i (A.ln + 1)) = false := by
        rw [Bool.and_eq_false_iff]
        rcases Nat.lt_or_ge i A.ln with h | h
        · left
          cases hb : Nat.ble A.ln i with
          | false => rfl
          | true => have := Nat.le_of_ble_eq_true hb; omega
        · right
          cases hb : Nat.blt i (A.ln + 1) with
          | false => rfl
          | true => simp [Nat.blt_eq] at hb; omega
      rw [e1, beq_false hi]; simp
  exact e ▸ h1

theorem repS_append : ∀ {as bs : List D} {b oo : Nat}, repS g as b oo → repS g bs b (oo + as.length) → repS g (as ++ bs) b oo
  | [], _, _, _, _, h => by simpa using h
  | a :: as, bs, b, oo, h, h' => by
    simp only [List.cons_append, repS] at h ⊢
    refine ⟨h.1, repS_append h.2 ?_⟩
    have e : oo + 1 + as.length = oo + (a :: as).length := by simp; omega
    rw [e]; exact h'

theorem repS_vals : ∀ {ds : List D} {b oo : Nat}, repS g ds b oo → ∃ vs : List Value, repL g Lo.none ds vs ∧ (∀ j u, vs[j]? = some u → g.σ b (oo + j) = some u) ∧ ∀ u ∈ vs, u.oneCell' = true
  | [], _, _, _ => ⟨[], by simp [repL], fun j u h => by simp at h, fun u h => by cases h⟩
  | d :: ds, b, oo, h => by
    simp only [repS] at h
    obtain ⟨⟨v, h1, h2, h3⟩, h4⟩ := h
    obtain ⟨vs, h5, h6, h7⟩ := repS_vals h4
    refine ⟨v :: vs, by simp only [repL]; exact ⟨v, vs, rfl, h3, h5⟩, fun j u hj => ?_, fun u hu => ?_⟩
    · cases j with
      | zero => simp at hj; subst hj; exact h1
      | succ j => simp at hj; rw [← h6 j u hj]; congr 1; omega
    · rcases List.mem_cons.1 hu with rfl | hu
      · exact h2
      · exact h7 u hu

theorem repS_of {ds : List D} {vs : List Value} {b oo : Nat} (h : repL g Lo.none ds vs) (hc : ∀ j u, vs[j]? = some u → g.σ b (oo + j) = some u) (h1 : ∀ u ∈ vs, u.oneCell' = true) : repS g ds b oo :=
  repS_mk fun i d e => by
    obtain ⟨v, hv, h2⟩ := repL_get h i d e
    exact ⟨v, hc i v hv, h1 v (List.mem_of_getElem? hv), h2⟩

/-- A new block becomes a growing row. -/
theorem Rel.new_row (h : Rel P G g l A wr Prot w) {vs sp : List Value} {e : TypeId} (hd : w'.heap = (w.alloc (.cells (vs ++ sp).toArray e (0, 0))).heap) (hos : w'.os = w.os ∧ w'.output = w.output) {n cap : Nat} (hn : vs.length = n * P.cellsOf e) (hc : n ≤ cap) (hm : cap ≤ maxLen) (hsz : (vs ++ sp).length = cap * P.cellsOf e) :
    Rel P G (g.sealing w.heap.size fun o => vs[o]?) (l.row A.ln ⟨w.heap.size, cap, n, e⟩) A.row wr Prot w' ∧ Fr Prot g (g.sealing w.heap.size fun o => vs[o]?) w w' ∧ l.le (l.row A.ln ⟨w.heap.size, cap, n, e⟩) := by
  obtain ⟨h1, h2⟩ := h.alloc_sealed vs sp e (0, 0)
  have h1' := h1.of_heap hd
  have h2' := h2.trans (Fr.of_heap (g := g.sealing w.heap.size fun o => vs[o]?) hd hos)
  have hb := heap_alloc_at w (.cells (vs ++ sp).toArray e (0, 0))
  have := h1'.add_row (r := ⟨w.heap.size, cap, n, e⟩) (cur := (vs ++ sp).toArray) (fun e => absurd (h.prot _ e) (Nat.lt_irrefl _)) (by rw [hd]; exact hb) hc hm (by simpa using hsz)
    (fun o ho => by simp only at ho; simp only [Gh.sealing, if_pos]; rw [List.getElem?_eq_none]; omega) (fun id e => absurd (h.ι_lt e).1 (Nat.lt_irrefl _)) (fun k e => absurd (h.κ_lt e) (Nat.lt_irrefl _))
    (fun t r' ht hr' e => by
      obtain ⟨cur, _, h3, _⟩ := h.tag t r' ht hr'
      have := (Array.getElem?_eq_some_iff.1 h3).1
      simp only at e
      omega)
  exact ⟨this.1, h2', this.2⟩

end
end Go.Abs
