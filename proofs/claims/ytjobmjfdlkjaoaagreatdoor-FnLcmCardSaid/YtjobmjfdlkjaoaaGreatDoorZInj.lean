/-
  A number that is not 0 has one word.
-/
import Derived.Test.YtjobmjfdlkjaoaaGreatDoorZNum
namespace Go.Abs
set_option linter.unusedVariables false
set_option linter.unusedSimpArgs false
open Ieee
theorem mag_inj {B f f' k k' : Nat} (hf : f < B) (h : (B + f) * 2 ^ k = (B + f') * 2 ^ k') : ¬ k < k' := fun hk => by
  obtain ⟨d, rfl⟩ := Nat.exists_eq_add_of_lt hk
  have e : (B + f') * 2 ^ (k + d + 1) = ((B + f') * (2 * 2 ^ d)) * 2 ^ k := by
    rw [Nat.pow_succ, Nat.pow_add]
    simp only [Nat.mul_assoc, Nat.mul_comm, Nat.mul_left_comm]
  rw [e] at h
  have h1 := Nat.eq_of_mul_eq_mul_right (Nat.two_pow_pos k) h
  have h2 : (B + f') * 2 ≤ (B + f') * (2 * 2 ^ d) := Nat.mul_le_mul_left _ (by have := Nat.two_pow_pos d; omega)
  omega
theorem mag_eq {B f f' k k' : Nat} (hf : f < B) (hf' : f' < B) (h : (B + f) * 2 ^ k = (B + f') * 2 ^ k') : k = k' ∧ f = f' := by
  have h1 := mag_inj hf h
  have h2 := mag_inj hf' h.symm
  obtain rfl : k = k' := by omega
  have := Nat.eq_of_mul_eq_mul_right (Nat.two_pow_pos k) h
  exact ⟨rfl, by omega⟩
theorem rung_eq {r r' m m' : Nat} {e e' : Int} (h1 : (r < 4503599627370496 ∧ m = r ∧ e = -1074) ∨ (4503599627370496 ≤ r ∧ m = 4503599627370496 + r % 4503599627370496 ∧ e = -1074 + (r / 4503599627370496 - 1 : Nat)))
    (h2 : (r' < 4503599627370496 ∧ m' = r' ∧ e' = -1074) ∨ (4503599627370496 ≤ r' ∧ m' = 4503599627370496 + r' % 4503599627370496 ∧ e' = -1074 + (r' / 4503599627370496 - 1 : Nat)))
    (h : m * 2 ^ (e + 1074).toNat = m' * 2 ^ (e' + 1074).toNat) : r = r' := by
  rcases h1 with ⟨a1, a2, a3⟩ | ⟨a1, a2, a3⟩ <;> rcases h2 with ⟨b1, b2, b3⟩ | ⟨b1, b2, b3⟩
  · rw [a3, b3] at h; simp at h; omega
  · rw [show (e + 1074).toNat = 0 by omega, Nat.pow_zero, Nat.mul_one] at h
    have := Nat.le_mul_of_pos_right m' (Nat.two_pow_pos (e' + 1074).toNat)
    omega
  · rw [show (e' + 1074).toNat = 0 by omega, Nat.pow_zero, Nat.mul_one] at h
    have := Nat.le_mul_of_pos_right m (Nat.two_pow_pos (e + 1074).toNat)
    omega
  · rw [show (e + 1074).toNat = r / 4503599627370496 - 1 by omega, show (e' + 1074).toNat = r' / 4503599627370496 - 1 by omega, a2, b2] at h
    obtain ⟨h3, h4⟩ := mag_eq (Nat.mod_lt _ (by decide)) (Nat.mod_lt _ (by decide)) h
    omega
theorem fx_inj {a b : Nat} {x : Int} (ha : a < 2 ^ 64) (hb : b < 2 ^ 64) (h : Fx a x) (h' : Fx b x) (hx : x ≠ 0) : a = b := by
  have s1 := fx_sign ha h hx
  have s2 := fx_sign hb h' hx
  obtain ⟨s, m, e, r1, _, v1⟩ := h
  obtain ⟨s', m', e', r2, _, v2⟩ := h'
  obtain ⟨_, _, p1⟩ := read_parts ha r1
  obtain ⟨_, _, p2⟩ := read_parts hb r2
  have g1 := signed_abs' s m (e + 1074).toNat
  have g2 := signed_abs' s' m' (e' + 1074).toNat
  rw [v1] at g1; rw [v2] at g2
  have hm : m * 2 ^ (e + 1074).toNat = m' * 2 ^ (e' + 1074).toNat := by
    have h3 : signed false m (e + 1074).toNat = signed false m' (e' + 1074).toNat := g1.trans g2.symm
    have h4 : (m : Int) <<< (e + 1074).toNat = (m' : Int) <<< (e' + 1074).toNat := by simpa [signed] using h3
    rw [Int.shiftLeft_eq, Int.shiftLeft_eq] at h4
    generalize (e + 1074).toNat = u at h4 ⊢
    generalize (e' + 1074).toNat = u' at h4 ⊢
    have h5 : ((m * 2 ^ u : Nat) : Int) = ((m' * 2 ^ u' : Nat) : Int) := by rw [Int.natCast_mul, Int.natCast_mul, Int.natCast_pow, Int.natCast_pow]; exact h4
    exact Int.ofNat.inj h5
  have h4 := rung_eq p1 p2 hm
  have h5 : (a / 2 ^ 63 = 1) = (b / 2 ^ 63 = 1) := s1.trans s2.symm
  have h6 : (a / 2 ^ 63 = 1) ↔ (b / 2 ^ 63 = 1) := by rw [h5]
  omega
theorem fy_inj {a b : Nat} {n : Int} (ha : a < 2 ^ 64) (hb : b < 2 ^ 64) (h : Fy 0 a n) (h' : Fy 0 b n) (hn : n ≠ 0) : a = b :=
  fx_inj ha hb h.whole h'.whole (Int.mul_ne_zero hn (by have := unit_pos; omega))
end Go.Abs
