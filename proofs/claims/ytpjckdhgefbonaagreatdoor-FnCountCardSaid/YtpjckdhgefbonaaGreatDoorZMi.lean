/- Walks of the functions, printed by program, and the logic behind them: each theorem says what one function or one step answers. -/
import Derived.Test.YtpjckdhgefbonaaGreatDoorZAbs3
import Derived.WideMake
import Derived.Test.YtpjckdhgefbonaaGreatDoorZExt
namespace Go.Abs
set_option linter.unusedVariables false
set_option linter.unusedSimpArgs false

def keyIs (s : List UInt8) : D → Bool
  | .sc (.string b) => b.data.toList == s
  | _ => false
def keyStr : D → Bool
  | .sc (.string _) => true
  | _ => false

section
variable {P : Program} {G : Nat → D} {g g' : Gh} {l l' : Lo} {A A' : AH} {wr : Bool} {Prot : Nat → Prop} {w w' : World} {o : Oper} {ρ : Operand → D} {S : AH → Prop}

theorem findNow_es (s : List UInt8) : ∀ (es : List (D × D)) (ms : List MapEntry) (i : Nat), repL g l (es.map (·.1)) (ms.map (·.key)) → repL g l (es.map (·.2)) (ms.map (·.val)) → es.all (fun p => keyStr p.1) = true →
    (es.find? (fun p => keyIs s p.1) = none → Instr.findNow .string (str s) ms i = some none) ∧ (∀ p, es.find? (fun p => keyIs s p.1) = some p → ∃ j v, Instr.findNow .string (str s) ms i = some (some (j, v)) ∧ rep g l p.2 v)
  | [], ms, i, h1, _, _ => by
    simp only [List.map_nil, repL] at h1
    have : ms = [] := by simpa using h1
    subst this
    exact ⟨fun _ => rfl, fun p hp => by simp at hp⟩
  | (k, d) :: es, [], i, h1, _, _ => by simp only [List.map_cons, List.map_nil, repL] at h1; obtain ⟨v, r, h, _⟩ := h1; cases h
  | (k, d) :: es, m :: ms, i, h1, h2, h3 => by
    simp only [List.map_cons, repL] at h1 h2
    obtain ⟨v1, r1, e1, k1, k2⟩ := h1
    obtain ⟨v2, r2, e2, k3, k4⟩ := h2
    cases e1; cases e2
    simp only [List.all_cons, Bool.and_eq_true] at h3
    obtain ⟨b, rfl⟩ : ∃ b, k = .sc (.string b) := by
      cases k with
      | sc v => cases v <;> first | exact ⟨_, rfl⟩ | (simp [keyStr] at h3)
      | _ => simp [keyStr] at h3
    have hkey : m.key = .string b := by simpa [rep] using k1
    have ih := findNow_es s es ms (i + 1) k2 k4 h3.2
    obtain ⟨r, hr, hrr⟩ := MapKept.sameNow_of_keys (d := .string) (a := str s) (b := m.key) (by simp [MapKept.IsKey]) (by rw [hkey]; simp [MapKept.IsKey])
    have hb : (b.data.toList == s) = r := by
      rw [hkey] at hrr
      cases r with
      | true =>
        have := hrr.1 rfl
        simp only [str, Value.string.injEq] at this
        subst this; simp
      | false =>
        rw [beq_eq_false_iff_ne]
        intro e
        have : (false = true) := hrr.2 (by rw [← e])
        cases this
    constructor
    · intro hf
      rw [List.find?_cons] at hf
      simp only [keyIs] at hf
      rw [hb] at hf
      cases r with
      | true => simp at hf
      | false => simp only [Instr.findNow, hr]; exact ih.1 hf
    · intro p hp
      rw [List.find?_cons] at hp
      simp only [keyIs] at hp
      rw [hb] at hp
      cases r with
      | true => simp at hp; subst hp; exact ⟨i, m.val, by simp only [Instr.findNow, hr], k3⟩
      | false => simp only [Instr.findNow, hr]; exact ih.2 p hp

theorem as_makeMap {T : TypeId} {id : Nat} (ho : o.op = .makeMap T none) (hid : A.o.length = id) : AS P G wr o ρ A (.mp id) (A.push (.map [])) := by
  subst hid
  intro g l Prot w a hr hops K Q hk
  unfold Oper.wp
  have hrun : (execOp a.eval o).run P w = .ok (.value (.map (some w.heap.size))) (w.alloc (.map #[] 0)) := by
    simp only [execOp, ho, Option.map_none, Sem.run_bind, run_makeMap_plain, Result.andThen_ok, Sem.run_pure]
  rw [hrun]
  have := hr.alloc_local (.map #[] 0) (.map []) (by
    simp only [Holds]
    exact ⟨[], 0, heap_alloc_at _ _, by simp [repL], by simp [repL]⟩)
  exact hk g _ _ _ (Fr.alloc hr _) this.2 this.1 (by simp only [rep]; exact ⟨w.heap.size, by simp [Lo.push], rfl⟩)

theorem as_mapSet {T kt et : TypeId} [hT : UN P T (.map kt et)] [hK : UN P kt .string] {m x y : Operand} {id : Nat} {s : List UInt8} {d : D} {es es' : List (D × D)} (ho : o.op = .mapUpdate T m x y) (hm : ρ m = .mp id) (hx : ρ x = st s) (hy : ρ y = d) (hA : A.o[id]? = some (.map es))
    (hs : es.all (fun p => keyStr p.1) = true) (hn : es.find? (fun p => keyIs s p.1) = none) (he : es ++ [(st s, d)] = es') : AS P G wr o ρ A (.sc undef) (A.set id (.map es')) := by
  subst he
  intro g l Prot w a hr hops K Q hk
  have hm0 := hops m (by simp [ho, Op.operands])
  have hx0 := hops x (by simp [ho, Op.operands])
  have hy0 := hops y (by simp [ho, Op.operands])
  rw [hm] at hm0; rw [hx] at hx0; rw [hy] at hy0
  simp only [rep] at hm0 hx0
  obtain ⟨b, hι, hme⟩ := hm0
  obtain ⟨b', hι', hnp, hlt, hh⟩ := hr.loc id _ hA
  rw [hι] at hι'; cases hι'
  simp only [Holds] at hh
  obtain ⟨ms, clock, hb, hk1, hk2⟩ := hh
  have hf := (findNow_es s es ms 0 hk1 hk2 hs).1 hn
  have hc : (Instr.checkKey false 10000 kt (str s)).run P w = .ok () w := MapKept.run_checkKey (k := str s) hK.eq (by simp [MapKept.IsKey]) false 9999
  have hrun : (execOp a.eval o).run P w = .ok .skip { w with heap := w.heap.setIfInBounds b (.map (ms ++ [({ key := str s, val := a.eval y, born := clock } : MapEntry)]).toArray (clock + 1)) } := by
    simp only [execOp, ho, hme, hx0, Instr.mapUpdate, Sem.run_bind, run_underlying hT.eq, Result.andThen_ok, MapKept.run_getObj_map hb, hc, MapKept.run_findKey hK.eq hf]
    rw [MapKept.run_setObj_map _ hb]
    simp
  unfold Oper.wp
  rw [hrun]
  have hs' := MapKept.heap_set (o' := .map (ms ++ [({ key := str s, val := a.eval y, born := clock } : MapEntry)]).toArray (clock + 1)) hb
  refine hk g l _ undef ⟨Gh.le.refl _, by simp, fun b' hb' => hs'.2 b' (fun e => hnp (e ▸ hb')), fun _ _ _ => rfl, fun _ _ _ h => h, rfl, rfl⟩ (Lo.le.refl _) ?_ (by simp [rep])
  refine hr.set_local (List.getElem?_eq_some_iff.1 hA).1 hι (by simp) (fun b' hb' => hs'.2 b' hb') ?_
  simp only [Holds]
  refine ⟨_, _, hs'.1, ?_, ?_⟩
  · rw [List.map_append, List.map_append]
    exact repL_append hk1 (by simp only [List.map_cons, List.map_nil, repL]; exact ⟨_, [], rfl, by simp [rep], rfl⟩)
  · rw [List.map_append, List.map_append]
    exact repL_append hk2 (by simp only [List.map_cons, List.map_nil, repL]; exact ⟨_, [], rfl, hy0, rfl⟩)

theorem as_insert {T kt et : TypeId} [hT : UN P T (.map kt et)] [hK : UN P kt .string] {m x y : Operand} {id : Nat} {s : List UInt8} {d : D} {es es' : List (D × D)} (ho : o.op = .insert T m x y) (hm : ρ m = .mp id) (hx : ρ x = st s) (hy : ρ y = d) (hA : A.o[id]? = some (.map es))
    (hs : es.all (fun p => keyStr p.1) = true) (hn : es.find? (fun p => keyIs s p.1) = none) (he : es ++ [(st s, d)] = es') : AS P G wr o ρ A (.sc undef) (A.set id (.map es')) := by
  subst he
  intro g l Prot w a hr hops K Q hk
  have hm0 := hops m (by simp [ho, Op.operands])
  have hx0 := hops x (by simp [ho, Op.operands])
  have hy0 := hops y (by simp [ho, Op.operands])
  rw [hm] at hm0; rw [hx] at hx0; rw [hy] at hy0
  simp only [rep] at hm0 hx0
  obtain ⟨b, hι, hme⟩ := hm0
  obtain ⟨b', hι', hnp, hlt, hh⟩ := hr.loc id _ hA
  rw [hι] at hι'; cases hι'
  simp only [Holds] at hh
  obtain ⟨ms, clock, hb, hk1, hk2⟩ := hh
  have hf := (findNow_es s es ms 0 hk1 hk2 hs).1 hn
  have hc : (Instr.checkKey false 10000 kt (str s)).run P w = .ok () w := MapKept.run_checkKey (k := str s) hK.eq (by simp [MapKept.IsKey]) false 9999
  have hrun : (execOp a.eval o).run P w = .ok .skip { w with heap := w.heap.setIfInBounds b (.map (ms ++ [({ key := str s, val := a.eval y, born := clock } : MapEntry)]).toArray (clock + 1)) } := by
    simp only [execOp, ho, hme, hx0, Instr.mapUpdate, Sem.run_bind, run_underlying hT.eq, Result.andThen_ok, MapKept.run_getObj_map hb, hc, MapKept.run_findKey hK.eq hf]
    rw [MapKept.run_setObj_map _ hb]
    simp
  unfold Oper.wp
  rw [hrun]
  have hs' := MapKept.heap_set (o' := .map (ms ++ [({ key := str s, val := a.eval y, born := clock } : MapEntry)]).toArray (clock + 1)) hb
  refine hk g l _ undef ⟨Gh.le.refl _, by simp, fun b' hb' => hs'.2 b' (fun e => hnp (e ▸ hb')), fun _ _ _ => rfl, fun _ _ _ h => h, rfl, rfl⟩ (Lo.le.refl _) ?_ (by simp [rep])
  refine hr.set_local (List.getElem?_eq_some_iff.1 hA).1 hι (by simp) (fun b' hb' => hs'.2 b' hb') ?_
  simp only [Holds]
  refine ⟨_, _, hs'.1, ?_, ?_⟩
  · rw [List.map_append, List.map_append]
    exact repL_append hk1 (by simp only [List.map_cons, List.map_nil, repL]; exact ⟨_, [], rfl, by simp [rep], rfl⟩)
  · rw [List.map_append, List.map_append]
    exact repL_append hk2 (by simp only [List.map_cons, List.map_nil, repL]; exact ⟨_, [], rfl, hy0, rfl⟩)

theorem q_mapGet {T kt et : TypeId} [hT : UN P T (.map kt et)] [hK : UN P kt .string] {m x : Operand} {id : Nat} {s : List UInt8} {p : D × D} {es : List (D × D)} (ho : o.op = .lookup T m x false) (hm : ρ m = .mp id) (hx : ρ x = st s) (hA : A.o[id]? = some (.map es))
    (hs : es.all (fun p => keyStr p.1) = true) (hf : es.find? (fun p => keyIs s p.1) = some p) : AQ P G wr o ρ (ExtA A) p.2 :=
  AQ.run fun g l Prot w a A' hS hr h => by
    have hm0 := h m (by simp [ho, Op.operands])
    have hx0 := h x (by simp [ho, Op.operands])
    rw [hm] at hm0; rw [hx] at hx0
    simp only [rep] at hm0 hx0
    obtain ⟨b, hι, hme⟩ := hm0
    have hA' : A'.o[id]? = some (.map es) := hS.o _ _ hA
    obtain ⟨b', hι', hnp, hlt, hh⟩ := hr.loc id _ hA'
    rw [hι] at hι'; cases hι'
    simp only [Holds] at hh
    obtain ⟨ms, clock, hb, hk1, hk2⟩ := hh
    obtain ⟨j, v, hj, hv⟩ := (findNow_es s es ms 0 hk1 hk2 hs).2 p hf
    have hc : (Instr.checkKey ms.toArray.isEmpty 10000 kt (str s)).run P w = .ok () w := MapKept.run_checkKey (k := str s) hK.eq (by simp [MapKept.IsKey]) _ 9999
    refine ⟨v, ?_, hv⟩
    simp only [execOp, ho, hme, hx0, Instr.lookup, Sem.run_bind, run_underlying hT.eq, Result.andThen_ok, MapKept.run_getObj_map hb, Sem.run_pure, hc, MapKept.run_findKey hK.eq hj]
    simp
end
end Go.Abs
namespace Go.Abs
set_option linter.unusedVariables false
set_option linter.unusedSimpArgs false
theorem fcmp_lss0 {b : Nat} {n : Int} (h : Fx b (n * (unit : Nat))) : fcmp .lss .f64 b 0 = decide (n < 0) := by
  rw [(fcmp_lt h fx_zero).1]
  apply decide_eq_decide.2
  have := unit_lt (a := n) (b := 0)
  rw [Int.zero_mul] at this
  rw [this]
theorem fcmp_gtrM {b : Nat} {n : Int} (h : Fx b (n * (unit : Nat))) : fcmp .gtr .f64 b 4823355200913801184 = decide (281474976710655 < n) := by
  rw [(fcmp_lt h fx_max48).2.2.1]
  apply decide_eq_decide.2
  rw [unit_lt]
end Go.Abs
