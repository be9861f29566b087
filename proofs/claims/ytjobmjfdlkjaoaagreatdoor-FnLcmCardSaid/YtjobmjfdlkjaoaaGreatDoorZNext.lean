/-
  Where a walk along a list stands.
-/
import Derived.Test.YtjobmjfdlkjaoaaGreatDoorZListB
import Derived.Test.YtjobmjfdlkjaoaaGreatDoorZExt
namespace Go.Abs
set_option linter.unusedVariables false
set_option linter.unusedSimpArgs false
def ptrAt (es : List (Nat × D)) (i : Nat) : D := if h : i < es.length then .hp es[i].1 0 else .sc (.pointer none)
theorem ptrAt_lt {es : List (Nat × D)} {i : Nat} (h : i < es.length) : ptrAt es i = .hp es[i].1 0 := dif_pos h
theorem ptrAt_ge {es : List (Nat × D)} {i : Nat} (h : ¬ i < es.length) : ptrAt es i = .sc (.pointer none) := dif_neg h
theorem ring_ne {h : Heap} {k : Nat} {es : List (Nat × D)} (H : IsList h k es) {i : Nat} (hi : i + 1 < es.length) : ring k (es.map (·.1)) (i + 2) = es[i + 1].1 ∧ ¬ es[i + 1].1 = k := by
  have h1 : i + 1 < (es.map (·.1)).length := by simpa using hi
  refine ⟨by rw [ring_at h1, List.getElem_map], fun e => ?_⟩
  have hn := H.nodup
  rw [List.nodup_cons] at hn
  exact hn.1 (List.mem_map.2 ⟨es[i + 1], List.getElem_mem hi, e⟩)
theorem isSome_of_len {h : Heap} {k n : Nat} (hk : Heap.len h k = some n) : (h k).isSome = true := by
  unfold Heap.len at hk
  cases hh : h k with
  | none => rw [hh] at hk; simp at hk
  | some _ => rfl
section
variable {P : Program} {G : Nat → D} {wr : Bool} {A : AH} {o : Oper} {ρ : Operand → D} {S : AH → Prop}
/-- Where a walk stands, held against nil. -/
theorem q_ptrAt {T U te : TypeId} {x y : Operand} [hT : UN P T (.pointer te)] {es : List (Nat × D)} {i : Nat} (ho : o.op = .binOp .neq T x y U) (hx : ρ x = ptrAt es i) (hy : ρ y = .sc (.pointer none)) : AQ P G wr o ρ S (bl (decide (i < es.length))) := by
  by_cases h : i < es.length
  · rw [decide_eq_true h]; rw [ptrAt_lt h] at hx; exact q_ptrNilN ho hx rfl hy
  · rw [decide_eq_false h]; rw [ptrAt_ge h] at hx; exact q_nilNil (.inr rfl) ho hx hy
end
/-- How many elements a row has. -/
def lenG : D → Nat
  | .gs _ _ _ n => n
  | _ => 0

end Go.Abs
