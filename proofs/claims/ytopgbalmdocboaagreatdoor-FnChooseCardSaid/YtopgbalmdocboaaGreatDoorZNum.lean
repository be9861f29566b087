/-
  What the numeric functions come to, in plain Lean.
-/
import Derived.Test.YtopgbalmdocboaaGreatDoorZFlw
import Derived.Test.YtopgbalmdocboaaGreatDoorZQ
namespace Go.Abs
set_option linter.unusedVariables false
set_option linter.unusedSimpArgs false
open Ieee

theorem bits_lt {op : BinOp} {a b r : Nat} (h : floatBits op .f64 a b = some r) : r < 2 ^ 64 := by
  have := floatBits_wf h
  simpa [Lit.wf] using this
theorem clean_lt {b : Nat} (h : b < 2 ^ 64) : clean b < 2 ^ 64 := by unfold clean; split <;> omega
theorem fy_one : Fy 0 4607182418800017408 1 := by
  have := Fy.nearest (n := 1) (by decide)
  have e : FloatKind.f64.nearest 1 = 4607182418800017408 := by decide
  rw [e] at this; exact this
/-- A number of the reference as a float. -/
theorem ofSix {v n d : Int} (h : Six v n d) : ∃ q, floatBits .quo .f64 (FloatKind.f64.nearest n) (FloatKind.f64.nearest d) = some q ∧ Fy 4 q v := by
  have h1 := h.bound
  have h2 := h.lo
  have h3 := h.hi
  have h4 := h.pos
  have e16 : ((2 ^ 4 : Nat) : Int) = 16 := rfl
  have e1 : ((2 ^ 0 : Nat) : Int) = 1 := rfl
  refine Fy.div (k := 0) (l := 0) (j := 4) (n := n) (m := d) (q := v) (by omega) (by omega) (by omega) (Fy.nearest (by omega)) (Fy.nearest (by omega)) (by omega) (by rw [e1, e16]; have := h.eq; omega) (by omega)
theorem Fy.six {b : Nat} {n : Int} (h : Fy 0 b n) : Fy 4 b (n * 16) := h.up 4
/-! A number of the reference as the program's. -/
def qV (v : V) : Nat := (floatBits .quo .f64 (FloatKind.f64.nearest v.num) (FloatKind.f64.nearest v.den)).getD 0
theorem qV_six {v n d : Int} (h : Six v n d) : floatBits .quo .f64 (FloatKind.f64.nearest n) (FloatKind.f64.nearest d) = some (qV (num n d)) ∧ Fy 4 (qV (num n d)) v ∧ qV (num n d) < 2 ^ 64 := by
  obtain ⟨q, h1, h2⟩ := ofSix h
  have e : qV (num n d) = q := by show (floatBits .quo .f64 (FloatKind.f64.nearest n) (FloatKind.f64.nearest d)).getD 0 = q; rw [h1]; rfl
  rw [e]; exact ⟨h1, h2, bits_lt h1⟩
theorem qV_whole {n : Int} (h : ¬ (99999999999 < n ∨ n < -99999999999)) : floatBits .quo .f64 (FloatKind.f64.nearest n) (FloatKind.f64.nearest 1) = some (qV (num n 1)) ∧ Fx (qV (num n 1)) (n * (unit : Nat)) ∧ qV (num n 1) < 2 ^ 64 := by
  obtain ⟨q, h1, h2⟩ := ofNum (n := n) (by omega)
  have e : qV (num n 1) = q := by show (floatBits .quo .f64 (FloatKind.f64.nearest n) (FloatKind.f64.nearest 1)).getD 0 = q; rw [h1]; rfl
  rw [e]; exact ⟨h1, h2, bits_lt h1⟩
theorem sameE (s : List UInt8) : sameI ⟨4, 0, s, []⟩ ⟨4, 0, s, []⟩ = true := by
  simp [sameI, fcmp_eq fx_zero fx_zero]
end Go.Abs
