/- Walks of the functions, printed by program, and the logic behind them: each theorem says what one function or one step answers. -/
import Derived.Test.YtopgbalmdocboaaGreatDoorZAbs3
import Derived.ProofKit
import Derived.OpenShut
import Derived.LaidMore
import Derived.Lay
import Derived.SevenTiedAt
import Derived.Stop.Joined
import Derived.ChangeStays
import Derived.Deep.Strs
import Derived.Test.YtopgbalmdocboaaGreatDoorZLib
import Derived.Test.YtopgbalmdocboaaGreatDoorZSm
namespace Go.Abs
set_option linter.unusedVariables false
set_option linter.unusedSimpArgs false
open Go.ChangeShapes Go.WideShapes Go.ChangeAt Go.RowKit

/-- Globals, as they stand. -/
def glob0 (i : Nat) : D := .sc (.pointer (some ⟨i, 0, none⟩))
def gh0 : Gh := ⟨fun _ _ => none, fun _ => none⟩

/-- What a call leaves. -/
structure Left0 (W W' : World) : Prop where
  size : W.heap.size ≤ W'.heap.size
  heap : ∀ b, b < W.heap.size → W'.heap[b]? = W.heap[b]?
  os : W'.os = W.os ∧ W'.output = W.output

theorem Left0.kept {W W' : World} (h : Left0 W W') (may : MemPlace → Prop) : W.keptBut W' may := by
  refine ⟨h.os.1, h.os.2, fun i hi => ?_⟩
  rw [h.heap i hi]
  cases W.heap[i]? with
  | none => simp
  | some o => cases o <;> simp

end Go.Abs
namespace Go.Abs
set_option linter.unusedVariables false
set_option linter.unusedSimpArgs false
open Go.ChangeShapes Go.WideShapes Go.ChangeAt Go.RowKit

/-- All that is there at the call is sealed. -/
def gh1 (W : World) : Gh := ⟨fun b o => W.cell? ⟨b, o, none⟩, fun _ => none⟩

theorem rel1 (P : Program) (W : World) : Rel P glob0 (gh1 W) Lo.none (AH.start noHeap) true (fun b => b < W.heap.size) W :=
  ⟨fun i => by simp [glob0, rep], fun _ h => h, fun b o v h => h, fun id ob h => by simp [AH.start] at h, fun _ _ => rfl, fun i j b h => by simp [Lo.none] at h, fun id b h => by simp [Lo.none] at h,
    fun t r h => by simp [AH.start] at h, fun t _ => ⟨rfl, rfl⟩, fun t t' r r' h => by simp [AH.start] at h, fun k cs h => by simp [AH.start, noHeap] at h, ⟨0, fun _ _ => rfl⟩, fun i j b h => by simp [gh1] at h, fun k b h => by simp [gh1] at h⟩

theorem trodAll_stays {H : Type} {enc : TypeId × Value → H} {P : Program} {T : TypeId → Prop} (K : Kids P T) (hsz : ∀ {t e : TypeId}, T t → P.underlying t = some (.slice e) → 0 < P.cellsOf e) {W W' : World} {sp : Nat → Bool} :
    ∀ {ts : List TypeId} {vs : List Value} {ds : List (DataW H)} {p : List MemPlace}, (∀ t ∈ ts, T t) → DataW.TrodAll enc P W 0 (fun _ => true) true ts vs ds p → (∀ x ∈ p, W.sameAt W' x) → (∀ x ∈ p, sp x.block = true) → DataW.TrodAll enc P W' 0 sp true ts vs ds p
  | [], _, _, _, _, h, _, _ => by
    obtain ⟨rfl, rfl, rfl⟩ := trodAll_nil h
    exact rfl
  | t :: ts, _, _, _, hT, h, hs, hp => by
    obtain ⟨v, vs1, d, ds1, a, b, rfl, rfl, rfl, ⟨n, h1⟩, h2⟩ := trodAll_cons h
    refine ⟨a, b, ⟨n, DataW.trod_stays K hsz (fun h => by cases h) (hT t List.mem_cons_self) h1 (fun x hx => hs x (List.mem_append_left _ hx)) (fun x hx => hp x (List.mem_append_left _ hx))⟩, ?_, rfl⟩
    exact trodAll_stays K hsz (fun t ht => hT t (List.mem_cons_of_mem _ ht)) h2 (fun x hx => hs x (List.mem_append_right _ hx)) (fun x hx => hp x (List.mem_append_right _ hx))

/-- The answer's condition, where the arguments are read as they were. -/
theorem post_stay {H : Type} {enc : TypeId × Value → H} {P : Program} {f : Func} {s : ChangeSpec} {apart fresh handsOn again : Bool} {W W' : World} {args : Array Value} {v : Value} {ds gs : List (DataW H)} {before : List MemPlace} {T : TypeId → Prop}
    (K : Kids P T) (hsz : ∀ {t e : TypeId}, T t → P.underlying t = some (.slice e) → 0 < P.cellsOf e) (hT : ∀ t ∈ f.params.toList, T t) (hvars : s.vars = [])
    (hW : DataW.Whole enc P f.params.toList s.vars apart W args.toList ds gs before)
    (hfn : (s.fn H (ds ++ gs)).args = ds) (hfv : (s.fn H (ds ++ gs)).vars = [])
    (hres : ∀ (b : Nat) (sp : Nat → Bool) (hd : Bool), DataW.TrodAll enc P W' b sp hd f.resultTypes.toList (v.resultList f.resultTypes.size) (s.fn H (ds ++ gs)).results [])
    (hk : Left0 W W')
    (hok : ∀ (j : Nat) (t : TypeId) (r : Value), f.resultTypes[j]? = some t → (v.resultList f.resultTypes.size)[j]? = some r → Value.okWide P W' .any 0 t r) :
    s.post enc P f apart fresh handsOn again W args v W' := by
  have hlt : ∀ x ∈ before, x.block < W.heap.size := hW.lt
  have hsame : ∀ x ∈ before, W.sameAt W' x := fun x hx => by
    have h := hlt x hx
    cases x with
    | cell b off => simp only [World.sameAt, World.cell?]; rw [hk.heap b h]
    | map b => exact hk.heap b h
  have hold : ∀ x ∈ before, (fun b => decide (b < W.heap.size)) x.block = true := fun x hx => by simpa using hlt x hx
  have hW' := hW
  obtain ⟨p, q, hA, hV, hpq, hz, hn⟩ := hW'
  rw [hvars] at hV
  obtain ⟨hgs, hq⟩ := trodVars_none hV
  rw [hq, List.append_nil] at hpq
  subst hpq
  have hargs : ∀ sp : Nat → Bool, (∀ x ∈ before, sp x.block = true) → DataW.TrodAll enc P W' 0 sp true f.params.toList args.toList (s.fn H (ds ++ gs)).args before := fun sp hsp => by
    rw [hfn]; exact trodAll_stays K hsz hT hA hsame hsp
  have hvs : ∀ sp : Nat → Bool, DataW.TrodVars enc P W' sp s.vars (s.fn H (ds ++ gs)).vars [] := fun sp => by
    rw [hvars, hfv]; exact rfl
  refine ⟨ds, gs, before, [], before, [], hW, hres _ _ _, hargs _ hold, hvs _, hk.kept _, fun _ => ?_⟩
  refine ⟨hok, _, _, ([] ++ before) ++ [], ⟨[] ++ before, [], trodAll_append (hargs _ (fun _ _ => rfl)) (hres _ _ _), hvs _, rfl, ?_, ?_⟩, ?_⟩
  · intro b off hp
    have hp' : MemPlace.cell b off ∈ before := by simpa using hp
    have h1 := hz b off hp'
    simp only [World.frozen?] at h1 ⊢
    rw [hk.heap b (hlt _ hp')]; exact h1
  · intro ha
    simpa using hn ha
  · intro x hx _
    simpa using hx

/-- Numbers, texts and truths, as arguments. -/
theorem open_intR {P : Program} {W : World} {r : Reach} {t : TypeId} {k : IntKind} {base : Nat} {v : Value} (ht : P.underlying t = some (.int k)) (hok : Value.okWide P W r base t v) : ∃ n, k.has n ∧ rep (gh1 W) Lo.none (.sc (.int k n)) v := by
  simp only [Value.okWide, ht, Cell.okWide] at hok
  cases v <;> simp_all [Cell.ok, rep]
theorem open_strR {P : Program} {W : World} {r : Reach} {t : TypeId} {base : Nat} {v : Value} (ht : P.underlying t = some .string) (hok : Value.okWide P W r base t v) : ∃ s : List UInt8, (s.length : Int) ≤ IntKind.i64.max ∧ rep (gh1 W) Lo.none (st s) v := by
  obtain ⟨s, rfl⟩ := okWide_string ht hok
  simp only [Value.okWide, ht, Cell.okWide, Cell.ok] at hok
  exact ⟨s.data.toList, hok, by simp [rep, st]⟩
end Go.Abs
namespace Go.Abs
set_option linter.unusedVariables false
set_option linter.unusedSimpArgs false
open Go.ChangeShapes Go.WideShapes Go.ChangeAt Go.RowKit

theorem laid_at {P : Program} {w : World} : ∀ {laid : List (String × DataW Unit)} {ps : List MemPlace}, DataW.LaidVars P w laid ps → ∀ (i : Nat) (nm : String) (d : DataW Unit), laid[i]? = some (nm, d) →
    ∃ g t cs fuel p, P.globalNamed nm = some g ∧ (P.globals[g]?).map (·.type) = some t ∧ w.var? P nm = some cs ∧ DataW.trod (fun _ => ()) P w 0 (fun _ => true) false fuel t cs.toList = some (d, p)
  | [], _, _, i, nm, d, e => by simp at e
  | (n, dd) :: r, ps, h, i, nm, d, e => by
    obtain ⟨g, t, cs, fuel, p, q, h1, h2, h3, h4, h5, _⟩ := h
    cases i with
    | zero =>
      simp only [List.getElem?_cons_zero, Option.some.injEq, Prod.mk.injEq] at e
      obtain ⟨rfl, rfl⟩ := e
      exact ⟨g, t, cs, fuel, p, h1, h2, h3, h4⟩
    | succ i => exact laid_at h5 i nm d (by simpa using e)

/-- The cells of a table of words, and of a table of pairs of words. -/
def wordsV (zs : List Int) : List Value := zs.map fun z => .int .u64 z
def pairsV (rows : List (Nat × Nat)) : List Value := rows.flatMap fun x => [.int .u64 x.1, .int .u64 x.2]
theorem flat2_at {α β : Type} {f g : α → β} : ∀ {l : List α} {i : Nat} {x : α}, l[i]? = some x → (l.flatMap fun x => [f x, g x])[i * 2]? = some (f x) ∧ (l.flatMap fun x => [f x, g x])[i * 2 + 1]? = some (g x)
  | [], _, _, h => by simp at h
  | a :: l, 0, x, h => by
    simp at h; subst h; exact ⟨rfl, rfl⟩
  | a :: l, i + 1, x, h => by
    have := flat2_at (f := f) (g := g) (l := l) (i := i) (x := x) (by simpa using h)
    rw [List.flatMap_cons, show (i + 1) * 2 = i * 2 + 2 by omega]
    exact this
theorem words_cells {P : Program} {W : World} {fuel : Nat} {t e : TypeId} {n : Nat} {cs : List Value} {zs : List Int} {p : List MemPlace}
    (ht : P.underlying t = some (.array n e)) (he : P.underlying e = some (.int .u64)) (hce : P.cellsOf e = 1) (hct : P.cellsOf t = n)
    (h : DataW.trod (fun _ => ()) P W 0 (fun _ => true) false fuel t cs = some (.agg (zs.map fun z => .lit (.int .u64 z)), p)) : cs = wordsV zs := by
  obtain ⟨xs, m, _, ex, hl, hn, hel⟩ := DataW.trod_array ht h
  have hx : (zs.map fun z => (DataW.lit (.int .u64 z) : DataW Unit)) = xs.map (·.1) := DataW.agg.inj (Prod.mk.inj ex).1
  have hzl : zs.length = n := by have := congrArg List.length hx; simp at this; omega
  apply List.ext_getElem?
  intro i
  by_cases hi : i < n
  · have hE := hel i hi
    rw [hce, Nat.mul_one, List.getElem?_eq_getElem (by omega)] at hE
    obtain ⟨z, e1, e2, _⟩ := DataW.trod_int he hE
    have e3 : (xs.map (·.1))[i]? = some (DataW.lit (.int .u64 z)) := by rw [List.getElem?_map, List.getElem?_eq_getElem (by omega : i < xs.length), e2]; rfl
    rw [← hx, List.getElem?_map] at e3
    obtain ⟨z', hz', hzz⟩ := Option.map_eq_some_iff.1 e3
    have h0 : ((cs.drop i).take 1)[0]? = some (.int .u64 z) := by rw [e1]; rfl
    have h1 : cs[i]? = some (.int .u64 z) := by simpa using h0
    have hzz' : z' = z := by injection hzz with hzz; injection hzz
    unfold wordsV
    rw [h1, List.getElem?_map, hz', Option.map_some, hzz']
  · rw [List.getElem?_eq_none (by omega), List.getElem?_eq_none (by unfold wordsV; simp; omega)]
theorem pairs_cells {P : Program} {W : World} {fuel : Nat} {t e e0 : TypeId} {n : Nat} {f0 f1 : Field} {cs : List Value} {rows : List (Nat × Nat)} {p : List MemPlace}
    (ht : P.underlying t = some (.array n e)) (he : P.underlying e = some (.struct #[f0, f1])) (h0 : f0.type = e0 ∧ f0.offset = 0) (h1 : f1.type = e0 ∧ f1.offset = 1) (hw : P.underlying e0 = some (.int .u64)) (hc0 : P.cellsOf e0 = 1) (hce : P.cellsOf e = 2) (hct : P.cellsOf t = n * 2)
    (h : DataW.trod (fun _ => ()) P W 0 (fun _ => true) false fuel t cs = some (.agg (rows.map fun x => .agg [.lit (.int .u64 x.1), .lit (.int .u64 x.2)]), p)) : cs = pairsV rows := by
  obtain ⟨xs, m, _, ex, hl, hn, hel⟩ := DataW.trod_array ht h
  have hx : (rows.map fun x => (DataW.agg [.lit (.int .u64 x.1), .lit (.int .u64 x.2)] : DataW Unit)) = xs.map (·.1) := DataW.agg.inj (Prod.mk.inj ex).1
  have hzl : rows.length = n := by have := congrArg List.length hx; simp at this; omega
  have key : ∀ i (hi : i < n), ∃ x, rows[i]? = some x ∧ cs[i * 2]? = some (.int .u64 x.1) ∧ cs[i * 2 + 1]? = some (.int .u64 x.2) := by
    intro i hi
    have hE := hel i hi
    rw [hce, List.getElem?_eq_getElem (by omega)] at hE
    obtain ⟨y0, y1, k, e2, e3, e4, e5⟩ := ChangeShapes.trod_struct2 he hE
    rw [h0.1, h0.2, hc0] at e4
    rw [h1.1, h1.2, hc0] at e5
    obtain ⟨z0, a1, a2, _⟩ := DataW.trod_int hw e4
    obtain ⟨z1, b1, b2, _⟩ := DataW.trod_int hw e5
    have e6 : (xs.map (·.1))[i]? = some (DataW.agg [.lit (.int .u64 z0), .lit (.int .u64 z1)]) := by rw [List.getElem?_map, List.getElem?_eq_getElem (by omega : i < xs.length), e2, a2, b2]; rfl
    rw [← hx, List.getElem?_map] at e6
    obtain ⟨x, hx1, hx2⟩ := Option.map_eq_some_iff.1 e6
    injection hx2 with hx2
    injection hx2 with g1 g2
    injection g2 with g2 _
    injection g1 with g1; injection g1 with _ g1
    injection g2 with g2; injection g2 with _ g2
    refine ⟨x, hx1, ?_, ?_⟩
    · have h9 : ((((cs.drop (i * 2)).take 2).drop 0).take 1)[0]? = some (.int .u64 z0) := by rw [a1]; rfl
      rw [g1]; simpa using h9
    · have h9 : ((((cs.drop (i * 2)).take 2).drop 1).take 1)[0]? = some (.int .u64 z1) := by rw [b1]; rfl
      rw [g2]
      simpa [List.getElem?_take, List.getElem?_drop] using h9
  have hpl : (pairsV rows).length = rows.length * 2 := by
    unfold pairsV
    rw [List.length_flatMap]
    simp [List.map_const', Nat.mul_comm]
  apply List.ext_getElem?
  intro j
  by_cases hj : j < n * 2
  · obtain ⟨x, k1, k2, k3⟩ := key (j / 2) (by omega)
    obtain ⟨k4, k5⟩ := flat2_at (f := fun x : Nat × Nat => Value.int .u64 x.1) (g := fun x => Value.int .u64 x.2) k1
    rcases Nat.mod_two_eq_zero_or_one j with hm | hm
    · have e : j / 2 * 2 = j := by omega
      rw [e] at k2 k4
      rw [k2]; exact k4.symm
    · have e : j / 2 * 2 + 1 = j := by omega
      rw [e] at k3 k5
      rw [k3]; exact k5.symm
  · rw [List.getElem?_eq_none (by omega), List.getElem?_eq_none (by omega)]
theorem repS_cells {g : Gh} {b : Nat} : ∀ {vs : List Value} {o : Nat}, (∀ k v, vs[k]? = some v → g.σ b (o + k) = some v ∧ v.oneCell' = true) → repS g (vs.map .sc) b o
  | [], _, _ => by simp [repS]
  | v :: vs, o, h => by
    simp only [List.map_cons, repS]
    refine ⟨⟨v, (h 0 v rfl).1, (h 0 v rfl).2, by simp [rep]⟩, repS_cells fun k u hk => ?_⟩
    have := h (k + 1) u (by simpa using hk)
    rw [show o + 1 + k = o + (k + 1) by omega]
    exact this
theorem relG {P : Program} {W : World} {G : Nat → D} (hG : ∀ i, G i = glob0 i ∨ ∃ vs : List Value, G i = .pin (vs.map .sc) 0 ∧ ∀ k v, vs[k]? = some v → W.cell? ⟨i, k, none⟩ = some v ∧ v.oneCell' = true) : Rel P G (gh1 W) Lo.none (AH.start noHeap) true (fun b => b < W.heap.size) W :=
  have hg : ∀ i, rep (gh1 W) Lo.none (G i) (.pointer (some ⟨i, 0, none⟩)) := fun i => by
    rcases hG i with e | ⟨vs, e, h⟩
    · rw [e]; exact (rel1 P W).glob i
    · rw [e]
      simp only [rep]
      refine ⟨i, 0, rfl, repS_cells fun k v hk => ?_⟩
      rw [Nat.zero_add]
      exact h k v hk
  { rel1 P W with glob := hg }
theorem calls_trueG {P : Program} {f : FuncId} {ds : List D} {G : Nat → D} {W : World} (hG : ∀ i, G i = glob0 i ∨ ∃ vs : List Value, G i = .pin (vs.map .sc) 0 ∧ ∀ k v, vs[k]? = some v → W.cell? ⟨i, k, none⟩ = some v ∧ v.oneCell' = true) (h : PF P G f ds (bl true)) {args : List Value} (ha : repL (gh1 W) Lo.none ds args) :
    Calls P f args.toArray W fun e W' => e = .returned (.bool true) ∧ Left0 W W' :=
  (h (gh1 W) _ W args (relG hG) ha).mono fun e W' ⟨cv, v, h', g', h1, h2, h3, _, h5⟩ => by
    subst h2
    refine ⟨by rw [h1]; simp only [rep] at h5; rw [h5], h3.size, h3.heap, h3.os⟩
/-- Two tables; of all else the address alone. -/
def tabG (a : Nat) (va : List Value) (b : Nat) (vb : List Value) (i : Nat) : D := if i = a then .pin (va.map .sc) 0 else if i = b then .pin (vb.map .sc) 0 else glob0 i
theorem tabG_ok {W : World} {a b : Nat} {va vb : List Value} (ha : ∀ k v, va[k]? = some v → W.cell? ⟨a, k, none⟩ = some v ∧ v.oneCell' = true) (hb : ∀ k v, vb[k]? = some v → W.cell? ⟨b, k, none⟩ = some v ∧ v.oneCell' = true) (i : Nat) :
    tabG a va b vb i = glob0 i ∨ ∃ vs : List Value, tabG a va b vb i = .pin (vs.map .sc) 0 ∧ ∀ k v, vs[k]? = some v → W.cell? ⟨i, k, none⟩ = some v ∧ v.oneCell' = true := by
  unfold tabG
  by_cases h1 : i = a
  · subst h1; rw [if_pos rfl]; exact .inr ⟨va, rfl, ha⟩
  · rw [if_neg h1]
    by_cases h2 : i = b
    · subst h2; rw [if_pos rfl]; exact .inr ⟨vb, rfl, hb⟩
    · rw [if_neg h2]; exact .inl rfl
theorem words_one {zs : List Int} {k : Nat} {v : Value} (h : (wordsV zs)[k]? = some v) : v.oneCell' = true := by
  unfold wordsV at h
  rw [List.getElem?_map] at h
  obtain ⟨z, _, rfl⟩ := Option.map_eq_some_iff.1 h
  rfl
theorem pairs_one {rows : List (Nat × Nat)} {k : Nat} {v : Value} (h : (pairsV rows)[k]? = some v) : v.oneCell' = true := by
  have hm := List.mem_of_getElem? h
  unfold pairsV at hm
  obtain ⟨x, _, hx⟩ := List.mem_flatMap.1 hm
  simp only [List.mem_cons, List.mem_nil_iff, or_false] at hx
  rcases hx with rfl | rfl <;> rfl
end Go.Abs
namespace Go.Abs
set_option linter.unusedVariables false
set_option linter.unusedSimpArgs false
open Go.ChangeShapes Go.WideShapes Go.ChangeAt Go.RowKit
end Go.Abs
