/-
  Floats as exact numbers, fourth part: words by their bits: the part ahead of the point, the sign.
-/
import Derived.Test.YtopgbalmdocboaaGreatDoorZFl
namespace Go.Abs
set_option linter.unusedVariables false
set_option linter.unusedSimpArgs false
open Ieee

theorem read_parts {b : Nat} (hb : b < 2 ^ 64) {s : Bool} {m : Nat} {e : Int} (h : double.read b = .number s m e) : s = (b / 2 ^ 63 == 1) ∧ b % 2 ^ 63 < 2047 * 4503599627370496 ∧
    ((b % 2 ^ 63 < 4503599627370496 ∧ m = b % 2 ^ 63 ∧ e = -1074) ∨ (4503599627370496 ≤ b % 2 ^ 63 ∧ m = 4503599627370496 + b % 2 ^ 63 % 4503599627370496 ∧ e = -1074 + (b % 2 ^ 63 / 4503599627370496 - 1 : Nat))) := by
  have e0 : double.signWeight = 2 ^ 63 := rfl
  unfold Format.read at h
  simp only [e0, bin, infr, lp] at h
  have h2 : b / 2 ^ 63 % 2 = b / 2 ^ 63 := by omega
  rw [h2] at h
  split at h
  · rename_i h3
    cases h
    exact ⟨rfl, by omega, .inl ⟨h3, rfl, rfl⟩⟩
  · split at h
    · rename_i h3 h4
      cases h
      exact ⟨rfl, h4, .inr ⟨by omega, rfl, rfl⟩⟩
    · split at h <;> cases h
theorem signed_abs' (s : Bool) (m up : Nat) : signed false m up = (signed s m up).natAbs := by
  rw [signed_abs, sgn_val]; rfl
/-- The sign of a number that is not nothing. -/
theorem fx_sign {b : Nat} {x : Int} (hb : b < 2 ^ 64) (h : Fx b x) (hx : x ≠ 0) : (b / 2 ^ 63 = 1) = (x < 0) := by
  obtain ⟨s, m, e, h1, h2, h3⟩ := h
  have hs := (read_parts hb h1).1
  have := signed_neg s m (e + 1074).toNat (by rw [h3]; exact hx)
  rw [h3, hs] at this
  apply propext
  by_cases hh : x < 0
  · simp [hh] at this; simp [hh, ← this]
  · simp only [hh, decide_false] at this
    have h4 : ¬ b / 2 ^ 63 = 1 := by intro h5; rw [h5] at this; simp at this
    simp [hh, h4]
/-- The part ahead of the point, as a word. -/
def truncW (b : Nat) : Nat :=
  if b % 2 ^ 63 / 4503599627370496 < 1023 then b / 2 ^ 63 * 2 ^ 63
  else if b % 2 ^ 63 / 4503599627370496 < 1075 then b / 2 ^ (1075 - b % 2 ^ 63 / 4503599627370496) * 2 ^ (1075 - b % 2 ^ 63 / 4503599627370496) else b
end Go.Abs
