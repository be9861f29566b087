/- Walks of the functions, printed by program, and the logic behind them: each theorem says what one function or one step answers. -/
import Derived.Test.YtopgbalmdocboaaGreatDoorZTe
import Derived.Test.YtopgbalmdocboaaGreatDoorZExt
import Derived.Test.YtopgbalmdocboaaGreatDoorZBy
import Derived.WideLaws
import Derived.Lib.Case
import Derived.Laws.IdiomStrings
import Derived.Laws.Cover4
import Derived.Test.YtopgbalmdocboaaGreatDoorZLi
namespace Go.Abs
set_option linter.unusedVariables false
set_option linter.unusedSimpArgs false
def iBool (b : Nat) : IV := ⟨3, b, [], []⟩
/-- A value of the reference as an argument of the program. -/
def inV (v : V) : IV := if v.kind = 2 then iStr v.text else if v.kind = 4 then iErr v.text else if v.kind = 3 then iBool (FloatKind.f64.nearest v.num) else iNum (qV v)
/-- An argument inside the program. -/
def innF (v : IV) : F := if v.kind = 2 then fStr v.text else if v.kind = 4 then fErr v.text v.text else if v.kind = 3 then fBool (fcmp .neq .f64 v.num 0) else fNum (clean v.num)
/-! Lists with a few elements. -/
/-! The smaller one of two numbers. -/
section
variable {P : Program} {G : Nat → D} {wr : Bool} {o : Oper} {ρ : Operand → D} {S : AH → Prop}
end
open Ieee
def minF (x y : Nat) : Nat :=
  if (FloatKind.f64.decode x == .infinity true || FloatKind.f64.decode y == .infinity true) = true then FloatKind.f64.encode (.infinity true)
  else if ((FloatKind.f64.decode x).isNaN || (FloatKind.f64.decode y).isNaN) = true then 0x7FF8000000000001
  else if ((FloatKind.f64.decode x).isZero && (FloatKind.f64.decode y).isZero) = true then (if ((FloatKind.f64.decode x).neg == true) = true then x else y)
  else if ((FloatKind.f64.decode x).order (FloatKind.f64.decode y) == some .lt) = true then x else y
end Go.Abs
namespace Go.Abs
set_option linter.unusedVariables false
set_option linter.unusedSimpArgs false
def errsL : List (List UInt8) := [[35, 78, 85, 76, 76, 33], [35, 68, 73, 86, 47, 48, 33], [35, 86, 65, 76, 85, 69, 33], [35, 82, 69, 70, 33], [35, 78, 65, 77, 69, 63], [35, 78, 85, 77, 33], [35, 78, 47, 65]]
def errI (n : Int) : Nat := ((IntKind.u64.wrap n).tmod 7).toNat
theorem errI_lt (n : Int) : errI n < 7 := by
  unfold errI
  have h : 0 ≤ IntKind.u64.wrap n := by simp [IntKind.wrap, IntKind.signed]; omega
  rw [Int.tmod_eq_emod_of_nonneg h]
  omega
def madeV (a n : Int) (s : List UInt8) : V :=
  if a.tmod 6 = 0 then noV else if a.tmod 6 = 1 then intV n else if a.tmod 6 = 2 then strV s else if a.tmod 6 = 3 then boolV (decide (¬ n.tmod 2 = 0)) else if a.tmod 6 = 4 then errV (errsL[errI n]'(errI_lt n)) else sixV (clampI n)
def V.u (v : V) : U := ⟨v.kind, v.num, v.den, v.text⟩
theorem u_v {v : V} (h : v.rows = []) : v.u.v = v := by cases v; simp only at h; subst h; rfl
/-- A single value that the laws make: a text; a number that a float holds; or something else. -/
inductive Sort1 : V → Prop
  | txt (s : List UInt8) : Sort1 (strV s)
  | num (n d : Int) (x : Int) (hq : floatBits .quo .f64 (FloatKind.f64.nearest n) (FloatKind.f64.nearest d) = some (qV (num n d))) (hx : Fx (qV (Go.Abs.num n d)) x) : Sort1 (Go.Abs.num n d)
  | other (v : V) (h : ¬ v.kind = 1 ∧ ¬ v.kind = 2 ∧ ¬ v.kind = 5) (hr : v.rows = []) : Sort1 v
theorem sort_int (n : Int) : Sort1 (intV n) := by
  by_cases h : 99999999999 < n ∨ n < -99999999999
  · rw [intV_doubt h]; exact .other _ (by simp [doubt]) rfl
  · rw [intV_num h]; exact .num n 1 _ (qV_whole h).1 (qV_whole h).2.1
theorem sort_six (n : Int) : Sort1 (sixV n) := by
  rcases sixV_cases n with h | ⟨m, d, h, hs⟩
  · rw [h]; exact .other _ (by simp [doubt]) rfl
  · rw [h]
    obtain ⟨h1, ⟨x, h2, _⟩, _⟩ := qV_six hs
    exact .num m d x h1 h2
theorem Sort1.rows {v : V} (h : Sort1 v) : v.rows = [] := by cases h <;> first | rfl | assumption
theorem Sort1.five {v : V} (h : Sort1 v) : ¬ v.kind = 5 := by
  cases h with
  | txt => simp [strV]
  | num => simp [Go.Abs.num]
  | other _ h => exact h.2.2
end Go.Abs
namespace Go.Abs
set_option linter.unusedVariables false
set_option linter.unusedSimpArgs false
/-- An interface type. -/
class IFT (P : Program) (T : TypeId) : Prop where
  eq : P.underlying T = some (.interface (P.methodsAt T))
section
variable {P : Program} {G : Nat → D} {g g' : Gh} {l l' : Lo} {A A' : AH} {wr : Bool} {Prot : Nat → Prop} {w w' : World} {o : Oper} {ρ : Operand → D} {S : AH → Prop}
end
end Go.Abs
namespace Go.Abs
set_option linter.unusedVariables false
set_option linter.unusedSimpArgs false
/-- The runes of a text of plain bytes: as cells, and as values. -/
def rc (s : List UInt8) : List D := s.map fun b => .sc (.int .i32 (b.toNat : Int))
def rv (s : List UInt8) : List Value := s.map fun b => .int .i32 (b.toNat : Int)
section
variable {P : Program} {G : Nat → D} {g g' : Gh} {l l' : Lo} {A A' : AH} {wr : Bool} {Prot : Nat → Prop} {w w' : World} {o : Oper} {ρ : Operand → D} {S : AH → Prop}

end
end Go.Abs
namespace Go.Abs
set_option linter.unusedVariables false
set_option linter.unusedSimpArgs false
def ptrAt (es : List (Nat × D)) (i : Nat) : D := if h : i < es.length then .hp es[i].1 0 else .sc (.pointer none)
theorem ptrAt_lt {es : List (Nat × D)} {i : Nat} (h : i < es.length) : ptrAt es i = .hp es[i].1 0 := dif_pos h
theorem ptrAt_ge {es : List (Nat × D)} {i : Nat} (h : ¬ i < es.length) : ptrAt es i = .sc (.pointer none) := dif_neg h
theorem ring_ne {h : Heap} {k : Nat} {es : List (Nat × D)} (H : IsList h k es) {i : Nat} (hi : i + 1 < es.length) : ring k (es.map (·.1)) (i + 2) = es[i + 1].1 ∧ ¬ es[i + 1].1 = k := by
  have h1 : i + 1 < (es.map (·.1)).length := by simpa using hi
  refine ⟨by rw [ring_at h1, List.getElem_map], fun e => ?_⟩
  have hn := H.nodup
  rw [List.nodup_cons] at hn
  exact hn.1 (List.mem_map.2 ⟨es[i + 1], List.getElem_mem hi, e⟩)
theorem isSome_of_len {h : Heap} {k n : Nat} (hk : Heap.len h k = some n) : (h k).isSome = true := by
  unfold Heap.len at hk
  cases hh : h k with
  | none => rw [hh] at hk; simp at hk
  | some _ => rfl
section
variable {P : Program} {G : Nat → D} {wr : Bool} {A : AH} {o : Oper} {ρ : Operand → D} {S : AH → Prop}
/-- Where a walk stands, held against nil. -/
theorem q_ptrAt {T U te : TypeId} {x y : Operand} [hT : UN P T (.pointer te)] {es : List (Nat × D)} {i : Nat} (ho : o.op = .binOp .neq T x y U) (hx : ρ x = ptrAt es i) (hy : ρ y = .sc (.pointer none)) : AQ P G wr o ρ S (bl (decide (i < es.length))) := by
  by_cases h : i < es.length
  · rw [decide_eq_true h]; rw [ptrAt_lt h] at hx; exact q_ptrNilN ho hx rfl hy
  · rw [decide_eq_false h]; rw [ptrAt_ge h] at hx; exact q_nilNil (.inr rfl) ho hx hy
end
/-- How many elements a row has. -/
def lenG : D → Nat
  | .gs _ _ _ n => n
  | _ => 0

end Go.Abs
namespace Go.Abs
set_option linter.unusedVariables false
set_option linter.unusedSimpArgs false
/-- A byte with its small letter's bit. -/
def lowO (c : UInt8) : Nat := c.toNat ||| 32
end Go.Abs
