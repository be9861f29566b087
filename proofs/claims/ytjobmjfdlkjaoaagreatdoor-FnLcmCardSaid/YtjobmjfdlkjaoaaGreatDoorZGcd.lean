/-
  gcd and lcm of whole floats.
-/
import Derived.Test.YtjobmjfdlkjaoaaGreatDoorZLcm
import Derived.Test.YtjobmjfdlkjaoaaGreatDoorZExt
namespace Go.Abs
set_option linter.unusedVariables false
set_option linter.unusedSimpArgs false
theorem fy_trunc {b : Nat} {n : Int} (h : Fy 0 b n) : Fy 0 (truncF b) n := by
  have h1 := fx_truncF h.whole
  have hu := unit_pos
  rw [Int.mul_tdiv_cancel _ (by omega)] at h1
  exact Fy.of h1
open Classical in
/-- The whole number that a float is. -/
noncomputable def valF (b : Nat) : Nat := if h : ∃ n : Nat, Fy 0 b (n : Int) then h.choose else 0
theorem valF_eq {b n : Nat} (h : Fy 0 b (n : Int)) : valF b = n := by
  have hx : ∃ n : Nat, Fy 0 b (n : Int) := ⟨n, h⟩
  unfold valF
  rw [dif_pos hx]
  have := Fy.inj hx.choose_spec h
  omega
noncomputable def ctrF : D → Nat
  | .sc (.float _ b) => valF b
  | _ => 0
theorem gcd_sub {x y : Nat} (h : y ≤ x) : Nat.gcd (x - y) y = Nat.gcd x y := by
  obtain ⟨z, rfl⟩ := Nat.exists_eq_add_of_le h
  rw [Nat.add_sub_cancel_left]
  simp
theorem gcd_sub' {x y : Nat} (h : x ≤ y) : Nat.gcd x (y - x) = Nat.gcd x y := by
  rw [Nat.gcd_comm, gcd_sub h, Nat.gcd_comm]
theorem lcm_mul (a b : Nat) : a / Nat.gcd a b * b * Nat.gcd a b = a * b := by
  rw [Nat.mul_assoc, Nat.mul_comm b, ← Nat.mul_assoc, Nat.div_mul_cancel (Nat.gcd_dvd_left a b)]
end Go.Abs
