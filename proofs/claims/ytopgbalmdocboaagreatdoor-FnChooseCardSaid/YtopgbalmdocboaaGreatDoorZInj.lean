/-
  A number that is not 0 has one word.
-/
import Derived.Test.YtopgbalmdocboaaGreatDoorZNum
namespace Go.Abs
set_option linter.unusedVariables false
set_option linter.unusedSimpArgs false
open Ieee
theorem mag_inj {B f f' k k' : Nat} (hf : f < B) (h : (B + f) * 2 ^ k = (B + f') * 2 ^ k') : ¬ k < k' := fun hk => by
  obtain ⟨d, rfl⟩ := Nat.exists_eq_add_of_lt hk
  have e : (B + f') * 2 ^ (k + d + 1) = ((B + f') * (2 * 2 ^ d)) * 2 ^ k := by
    rw [Nat.pow_succ, Nat.pow_add]
    simp only [Nat.mul_assoc, Nat.mul_comm, Nat.mul_left_comm]
  rw [e] at h
  have h1 := Nat.eq_of_mul_eq_mul_right (Nat.two_pow_pos k) h
  have h2 : (B + f') * 2 ≤ (B + f') * (2 * 2 ^ d) := Nat.mul_le_mul_left _ (by have := Nat.two_pow_pos d; omega)
  omega
theorem mag_eq {B f f' k k' : Nat} (hf : f < B) (hf' : f' < B) (h : (B + f) * 2 ^ k = (B + f') * 2 ^ k') : k = k' ∧ f = f' := by
  have h1 := mag_inj hf h
  have h2 := mag_inj hf' h.symm
  obtain rfl : k = k' := by omega
  have := Nat.eq_of_mul_eq_mul_right (Nat.two_pow_pos k) h
  exact ⟨rfl, by omega⟩
end Go.Abs
