/-
  Comparisons of floats that stand for whole numbers.
-/
import Derived.Test.YtjobmjfdlkjaoaaGreatDoorZExt
namespace Go.Abs
set_option linter.unusedVariables false
set_option linter.unusedSimpArgs false
theorem fcmp_lss0 {b : Nat} {n : Int} (h : Fx b (n * (unit : Nat))) : fcmp .lss .f64 b 0 = decide (n < 0) := by
  rw [(fcmp_lt h fx_zero).1]
  apply decide_eq_decide.2
  have := unit_lt (a := n) (b := 0)
  rw [Int.zero_mul] at this
  rw [this]
theorem fcmp_gtrM {b : Nat} {n : Int} (h : Fx b (n * (unit : Nat))) : fcmp .gtr .f64 b 4823355200913801184 = decide (281474976710655 < n) := by
  rw [(fcmp_lt h fx_max48).2.2.1]
  apply decide_eq_decide.2
  rw [unit_lt]
end Go.Abs
