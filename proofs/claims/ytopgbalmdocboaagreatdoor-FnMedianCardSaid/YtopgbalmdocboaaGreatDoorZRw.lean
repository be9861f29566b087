/- Walks of the functions, printed by program, and the logic behind them: each theorem says what one function or one step answers. -/
import Derived.Test.YtopgbalmdocboaaGreatDoorZAbs3
import Derived.ProofKit
import Derived.OpenShut
import Derived.LaidMore
import Derived.Lay
import Derived.SevenTiedAt
import Derived.Stop.Joined
import Derived.ChangeStays
import Derived.Deep.Strs
import Derived.Test.YtopgbalmdocboaaGreatDoorZLib
import Derived.Test.YtopgbalmdocboaaGreatDoorZSm
namespace Go.Abs
set_option linter.unusedVariables false
set_option linter.unusedSimpArgs false
open Go.ChangeShapes Go.WideShapes Go.ChangeAt Go.RowKit

/-- Globals, as they stand. -/
def glob0 (i : Nat) : D := .sc (.pointer (some ⟨i, 0, none⟩))
def gh0 : Gh := ⟨fun _ _ => none, fun _ => none⟩

/-- What a call leaves. -/
structure Left0 (W W' : World) : Prop where
  size : W.heap.size ≤ W'.heap.size
  heap : ∀ b, b < W.heap.size → W'.heap[b]? = W.heap[b]?
  os : W'.os = W.os ∧ W'.output = W.output

theorem Left0.kept {W W' : World} (h : Left0 W W') (may : MemPlace → Prop) : W.keptBut W' may := by
  refine ⟨h.os.1, h.os.2, fun i hi => ?_⟩
  rw [h.heap i hi]
  cases W.heap[i]? with
  | none => simp
  | some o => cases o <;> simp

end Go.Abs
namespace Go.Abs
set_option linter.unusedVariables false
set_option linter.unusedSimpArgs false
open Go.ChangeShapes Go.WideShapes Go.ChangeAt Go.RowKit

/-- All that is there at the call is sealed. -/
def gh1 (W : World) : Gh := ⟨fun b o => W.cell? ⟨b, o, none⟩, fun _ => none⟩

theorem rel1 (P : Program) (W : World) : Rel P glob0 (gh1 W) Lo.none (AH.start noHeap) true (fun b => b < W.heap.size) W :=
  ⟨fun i => by simp [glob0, rep], fun _ h => h, fun b o v h => h, fun id ob h => by simp [AH.start] at h, fun _ _ => rfl, fun i j b h => by simp [Lo.none] at h, fun id b h => by simp [Lo.none] at h,
    fun t r h => by simp [AH.start] at h, fun t _ => ⟨rfl, rfl⟩, fun t t' r r' h => by simp [AH.start] at h, fun k cs h => by simp [AH.start, noHeap] at h, ⟨0, fun _ _ => rfl⟩, fun i j b h => by simp [gh1] at h, fun k b h => by simp [gh1] at h⟩

theorem calls_trueS {P : Program} {f : FuncId} {ds : List D} (h : PF P glob0 f ds (bl true)) {W : World} {args : List Value} (ha : repL (gh1 W) Lo.none ds args) :
    Calls P f args.toArray W fun e W' => e = .returned (.bool true) ∧ Left0 W W' :=
  (h (gh1 W) _ W args (rel1 P W) ha).mono fun e W' ⟨cv, v, h', g', h1, h2, h3, _, h5⟩ => by
    subst h2
    refine ⟨by rw [h1]; simp only [rep] at h5; rw [h5], h3.size, h3.heap, h3.os⟩

theorem trodAll_stays {H : Type} {enc : TypeId × Value → H} {P : Program} {T : TypeId → Prop} (K : Kids P T) (hsz : ∀ {t e : TypeId}, T t → P.underlying t = some (.slice e) → 0 < P.cellsOf e) {W W' : World} {sp : Nat → Bool} :
    ∀ {ts : List TypeId} {vs : List Value} {ds : List (DataW H)} {p : List MemPlace}, (∀ t ∈ ts, T t) → DataW.TrodAll enc P W 0 (fun _ => true) true ts vs ds p → (∀ x ∈ p, W.sameAt W' x) → (∀ x ∈ p, sp x.block = true) → DataW.TrodAll enc P W' 0 sp true ts vs ds p
  | [], _, _, _, _, h, _, _ => by
    obtain ⟨rfl, rfl, rfl⟩ := trodAll_nil h
    exact rfl
  | t :: ts, _, _, _, hT, h, hs, hp => by
    obtain ⟨v, vs1, d, ds1, a, b, rfl, rfl, rfl, ⟨n, h1⟩, h2⟩ := trodAll_cons h
    refine ⟨a, b, ⟨n, DataW.trod_stays K hsz (fun h => by cases h) (hT t List.mem_cons_self) h1 (fun x hx => hs x (List.mem_append_left _ hx)) (fun x hx => hp x (List.mem_append_left _ hx))⟩, ?_, rfl⟩
    exact trodAll_stays K hsz (fun t ht => hT t (List.mem_cons_of_mem _ ht)) h2 (fun x hx => hs x (List.mem_append_right _ hx)) (fun x hx => hp x (List.mem_append_right _ hx))

/-- The answer's condition, where the arguments are read as they were. -/
theorem post_stay {H : Type} {enc : TypeId × Value → H} {P : Program} {f : Func} {s : ChangeSpec} {apart fresh handsOn again : Bool} {W W' : World} {args : Array Value} {v : Value} {ds gs : List (DataW H)} {before : List MemPlace} {T : TypeId → Prop}
    (K : Kids P T) (hsz : ∀ {t e : TypeId}, T t → P.underlying t = some (.slice e) → 0 < P.cellsOf e) (hT : ∀ t ∈ f.params.toList, T t) (hvars : s.vars = [])
    (hW : DataW.Whole enc P f.params.toList s.vars apart W args.toList ds gs before)
    (hfn : (s.fn H (ds ++ gs)).args = ds) (hfv : (s.fn H (ds ++ gs)).vars = [])
    (hres : ∀ (b : Nat) (sp : Nat → Bool) (hd : Bool), DataW.TrodAll enc P W' b sp hd f.resultTypes.toList (v.resultList f.resultTypes.size) (s.fn H (ds ++ gs)).results [])
    (hk : Left0 W W')
    (hok : ∀ (j : Nat) (t : TypeId) (r : Value), f.resultTypes[j]? = some t → (v.resultList f.resultTypes.size)[j]? = some r → Value.okWide P W' .any 0 t r) :
    s.post enc P f apart fresh handsOn again W args v W' := by
  have hlt : ∀ x ∈ before, x.block < W.heap.size := hW.lt
  have hsame : ∀ x ∈ before, W.sameAt W' x := fun x hx => by
    have h := hlt x hx
    cases x with
    | cell b off => simp only [World.sameAt, World.cell?]; rw [hk.heap b h]
    | map b => exact hk.heap b h
  have hold : ∀ x ∈ before, (fun b => decide (b < W.heap.size)) x.block = true := fun x hx => by simpa using hlt x hx
  have hW' := hW
  obtain ⟨p, q, hA, hV, hpq, hz, hn⟩ := hW'
  rw [hvars] at hV
  obtain ⟨hgs, hq⟩ := trodVars_none hV
  rw [hq, List.append_nil] at hpq
  subst hpq
  have hargs : ∀ sp : Nat → Bool, (∀ x ∈ before, sp x.block = true) → DataW.TrodAll enc P W' 0 sp true f.params.toList args.toList (s.fn H (ds ++ gs)).args before := fun sp hsp => by
    rw [hfn]; exact trodAll_stays K hsz hT hA hsame hsp
  have hvs : ∀ sp : Nat → Bool, DataW.TrodVars enc P W' sp s.vars (s.fn H (ds ++ gs)).vars [] := fun sp => by
    rw [hvars, hfv]; exact rfl
  refine ⟨ds, gs, before, [], before, [], hW, hres _ _ _, hargs _ hold, hvs _, hk.kept _, fun _ => ?_⟩
  refine ⟨hok, _, _, ([] ++ before) ++ [], ⟨[] ++ before, [], trodAll_append (hargs _ (fun _ _ => rfl)) (hres _ _ _), hvs _, rfl, ?_, ?_⟩, ?_⟩
  · intro b off hp
    have hp' : MemPlace.cell b off ∈ before := by simpa using hp
    have h1 := hz b off hp'
    simp only [World.frozen?] at h1 ⊢
    rw [hk.heap b (hlt _ hp')]; exact h1
  · intro ha
    simpa using hn ha
  · intro x hx _
    simpa using hx

/-- Numbers, texts and truths, as arguments. -/
theorem open_intR {P : Program} {W : World} {r : Reach} {t : TypeId} {k : IntKind} {base : Nat} {v : Value} (ht : P.underlying t = some (.int k)) (hok : Value.okWide P W r base t v) : ∃ n, k.has n ∧ rep (gh1 W) Lo.none (.sc (.int k n)) v := by
  simp only [Value.okWide, ht, Cell.okWide] at hok
  cases v <;> simp_all [Cell.ok, rep]
end Go.Abs
namespace Go.Abs
set_option linter.unusedVariables false
set_option linter.unusedSimpArgs false
open Go.ChangeShapes Go.WideShapes Go.ChangeAt Go.RowKit
theorem open_itemsR {H : Type} {enc : TypeId × Value → H} {P : Program} {W : World} {t e : TypeId} {f0 f1 f2 : Field} {base : Nat} {v : Value} {d : DataW H} {ps : List MemPlace} (ht : P.underlying t = some (.slice e)) (he : P.underlying e = some (.struct #[f0, f1, f2])) (hc : P.cellsOf e = 3)
    (o0 : f0.offset = 0) (o1 : f1.offset = 1) (o2 : f2.offset = 2) (c0 : P.cellsOf f0.type = 1) (c1 : P.cellsOf f1.type = 1) (c2 : P.cellsOf f2.type = 1)
    (u0 : P.underlying f0.type = some (.int .i64)) (u1 : P.underlying f1.type = some (.int .i64)) (u2 : P.underlying f2.type = some .string)
    (hok : Value.okWide P W .any base t v) (h : DataW.Trod enc P W 0 (fun _ => true) true t v d ps) :
    ∃ l : List It, l.length ≤ maxLen ∧ rep (gh1 W) Lo.none (itL l) v := by
  obtain ⟨a0, len0, cap0, rfl⟩ := okWide_slice ht hok
  obtain ⟨fuel, hf⟩ := h
  rcases Go.Deep.open_slice ht hf with ⟨hcs, _⟩ | ⟨a, len, cap, m, n, D, Pl, hcs, _, hl, hm, hz, _, hx⟩
  · simp [Value.cells] at hcs
    obtain ⟨rfl, rfl, rfl⟩ := hcs
    exact ⟨[], by simp, by simp [rep, itL]⟩
  · simp [Value.cells] at hcs
    obtain ⟨rfl, rfl, rfl⟩ := hcs
    have hsp : a.spot = none := by
      simp only [Value.okWide, ht, Cell.okWide, Cell.ok, World.has] at hok
      exact hok.2.2.2.1
    obtain ⟨b, o, s⟩ := a
    simp only at hsp; subst hsp
    have hz' : m = cap0 := by simpa using hz
    subst hz'
    have each : ∀ i, ∃ x : It, i < m → W.cell? ⟨b, o + i * 3, none⟩ = some (.int .i64 x.kind) ∧ W.cell? ⟨b, o + i * 3 + 1, none⟩ = some (.int .i64 x.num) ∧ W.cell? ⟨b, o + i * 3 + 2, none⟩ = some (.string ⟨⟨x.text⟩⟩) := by
      intro i
      by_cases hi : i < m
      · obtain ⟨cs', h1, h2⟩ := hx i hi
        rw [hc] at h1
        obtain ⟨_, hlen, hcell⟩ := World.cells?_some h1
        obtain ⟨xs, k, hk, hxy, _, hxl, hfl⟩ := DataW.trod_struct he h2
        match xs, hxl, cs', hlen with
        | [y0, y1, y2], _, [v0, v1, v2], _ =>
          have g0 := hfl 0 f0 rfl
          have g1 := hfl 1 f1 rfl
          have g2 := hfl 2 f2 rfl
          simp [o0, o1, o2, c0, c1, c2] at g0 g1 g2
          obtain ⟨n0, e0, _⟩ := DataW.trod_int u0 g0
          obtain ⟨n1, e1, _⟩ := DataW.trod_int u1 g1
          obtain ⟨s2, e2, _⟩ := DataW.trod_string u2 g2
          have k0 := hcell 0 (by omega)
          have k1 := hcell 1 (by omega)
          have k2 := hcell 2 (by omega)
          simp only [List.cons.injEq, and_true] at e0 e1 e2
          subst e0; subst e1; subst e2
          rw [addr_add, addr_add] at k0 k1 k2
          refine ⟨⟨n0, n1, s2.data.toList⟩, fun _ => ⟨by simpa using k0, by simpa [Nat.add_assoc] using k1, by simpa [Nat.add_assoc] using k2⟩⟩
      · exact ⟨⟨0, 0, []⟩, fun h => absurd h hi⟩
    obtain ⟨X, hX⟩ : ∃ X : Nat → It, ∀ i, i < m → W.cell? ⟨b, o + i * 3, none⟩ = some (.int .i64 (X i).kind) ∧ W.cell? ⟨b, o + i * 3 + 1, none⟩ = some (.int .i64 (X i).num) ∧ W.cell? ⟨b, o + i * 3 + 2, none⟩ = some (.string ⟨⟨(X i).text⟩⟩) := ⟨fun i => (each i).choose, fun i => (each i).choose_spec⟩
    refine ⟨(List.range len0).map X, by simp; omega, ?_⟩
    unfold itL
    simp only [List.length_map, List.length_range, rep]
    refine .inr ⟨b, o, m, rfl, hl, ?_⟩
    have key : ∀ (n i : Nat), i + n ≤ m → repS (gh1 W) (((List.range' i n).map X).flatMap It.c) b (o + i * 3) := by
      intro n
      induction n with
      | zero => intro i _; simp [repS]
      | succ n ih =>
        intro i hi
        rw [List.range'_succ, List.map_cons, List.flatMap_cons]
        obtain ⟨q0, q1, q2⟩ := hX i (by omega)
        show repS (gh1 W) (i64 (X i).kind :: i64 (X i).num :: st (X i).text :: _) b (o + i * 3)
        simp only [repS]
        refine ⟨⟨_, q0, rfl, by simp [rep]⟩, ⟨_, q1, rfl, by simp [rep]⟩, ⟨_, by rw [Nat.add_assoc]; exact q2, rfl, by simp [rep]⟩, ?_⟩
        have := ih (i + 1) (by omega)
        rw [show o + i * 3 + 1 + 1 + 1 = o + (i + 1) * 3 by omega]; exact this
    have := key len0 0 (by omega)
    rw [List.range_eq_range']
    simpa using this
end Go.Abs
