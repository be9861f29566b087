/-
  From a contract to a row.
-/
import Derived.Test.YtjobmjfdlkjaoaaGreatDoorZAbsL
import Derived.ProofKit
import Derived.OpenShut
import Derived.LaidMore
import Derived.Lay
import Derived.SevenTiedAt
import Derived.Stop.Joined
namespace Go.Abs
set_option linter.unusedVariables false
set_option linter.unusedSimpArgs false
open Go.ChangeShapes Go.WideShapes Go.ChangeAt Go.RowKit

/-- Globals, as they stand. -/
def glob0 (i : Nat) : D := .sc (.pointer (some ⟨i, 0, none⟩))
def gh0 : Gh := ⟨fun _ _ => none, fun _ => none⟩

theorem rel0 (P : Program) (W : World) : Rel P glob0 gh0 Lo.none (AH.start noHeap) true (fun b => b < W.heap.size) W :=
  ⟨fun i => by simp [glob0, rep], fun _ h => h, fun b o v h => by simp [gh0] at h, fun id ob h => by simp [AH.start] at h, fun _ _ => rfl, fun i j b h => by simp [Lo.none] at h, fun id b h => by simp [Lo.none] at h,
    fun t r h => by simp [AH.start] at h, fun t _ => ⟨rfl, rfl⟩, fun t t' r r' h => by simp [AH.start] at h, fun k cs h => by simp [AH.start, noHeap] at h, ⟨0, fun _ _ => rfl⟩, fun i j b h => by simp [gh0] at h, fun k b h => by simp [gh0] at h⟩

/-- What a call leaves. -/
structure Left0 (W W' : World) : Prop where
  size : W.heap.size ≤ W'.heap.size
  heap : ∀ b, b < W.heap.size → W'.heap[b]? = W.heap[b]?
  os : W'.os = W.os ∧ W'.output = W.output

theorem calls_true {P : Program} {f : FuncId} {ds : List D} (h : PF P glob0 f ds (bl true)) {W : World} {args : List Value} (ha : repL gh0 Lo.none ds args) :
    Calls P f args.toArray W fun e W' => e = .returned (.bool true) ∧ Left0 W W' :=
  (h gh0 _ W args (rel0 P W) ha).mono fun e W' ⟨cv, v, h', g', h1, h2, h3, _, h5⟩ => by
    subst h2
    refine ⟨by rw [h1]; simp only [rep] at h5; rw [h5], h3.size, h3.heap, h3.os⟩

theorem Left0.kept {W W' : World} (h : Left0 W W') (may : MemPlace → Prop) : W.keptBut W' may := by
  refine ⟨h.os.1, h.os.2, fun i hi => ?_⟩
  rw [h.heap i hi]
  cases W.heap[i]? with
  | none => simp
  | some o => cases o <;> simp

/-- The answer's condition, where no argument leads to memory. -/
theorem post_left {H : Type} {enc : TypeId × Value → H} {P : Program} {f : Func} {s : ChangeSpec} {apart fresh handsOn again : Bool} {W W' : World} {args : Array Value} {v : Value} {ds gs : List (DataW H)}
    (hW : DataW.Whole enc P f.params.toList s.vars apart W args.toList ds gs [])
    (hres : ∀ (b : Nat) (sp : Nat → Bool) (hd : Bool), DataW.TrodAll enc P W' b sp hd f.resultTypes.toList (v.resultList f.resultTypes.size) (s.fn H (ds ++ gs)).results [])
    (hargs : ∀ sp : Nat → Bool, DataW.TrodAll enc P W' 0 sp true f.params.toList args.toList (s.fn H (ds ++ gs)).args [])
    (hvars : ∀ sp : Nat → Bool, DataW.TrodVars enc P W' sp s.vars (s.fn H (ds ++ gs)).vars [])
    (hk : Left0 W W')
    (hok : ∀ (j : Nat) (t : TypeId) (r : Value), f.resultTypes[j]? = some t → (v.resultList f.resultTypes.size)[j]? = some r → Value.okWide P W' .any 0 t r) :
    s.post enc P f apart fresh handsOn again W args v W' := by
  refine ⟨ds, gs, [], [], [], [], hW, hres _ _ _, hargs _, hvars _, hk.kept _, fun _ => ?_⟩
  obtain ⟨_, _, _, _, _, hz, hn⟩ := hW
  exact ⟨hok, _, _, [], ⟨[], [], trodAll_append (hargs _) (hres _ _ _), hvars _, rfl, fun b off hp => (by cases hp), fun _ => List.nodup_nil⟩, fun p hp => (by cases hp)⟩
end Go.Abs
