/- Walks of the functions, printed by program, and the logic behind them: each theorem says what one function or one step answers. -/
import Derived.Test.YtopgbalmdocboaaGreatDoorZFl
import Derived.Test.YtopgbalmdocboaaGreatDoorZQ
namespace Go.Abs
set_option linter.unusedVariables false
set_option linter.unusedSimpArgs false
open Ieee

theorem read_parts {b : Nat} (hb : b < 2 ^ 64) {s : Bool} {m : Nat} {e : Int} (h : double.read b = .number s m e) : s = (b / 2 ^ 63 == 1) ∧ b % 2 ^ 63 < 2047 * 4503599627370496 ∧
    ((b % 2 ^ 63 < 4503599627370496 ∧ m = b % 2 ^ 63 ∧ e = -1074) ∨ (4503599627370496 ≤ b % 2 ^ 63 ∧ m = 4503599627370496 + b % 2 ^ 63 % 4503599627370496 ∧ e = -1074 + (b % 2 ^ 63 / 4503599627370496 - 1 : Nat))) := by
  have e0 : double.signWeight = 2 ^ 63 := rfl
  unfold Format.read at h
  simp only [e0, bin, infr, lp] at h
  have h2 : b / 2 ^ 63 % 2 = b / 2 ^ 63 := by omega
  rw [h2] at h
  split at h
  · rename_i h3
    cases h
    exact ⟨rfl, by omega, .inl ⟨h3, rfl, rfl⟩⟩
  · split at h
    · rename_i h3 h4
      cases h
      exact ⟨rfl, h4, .inr ⟨by omega, rfl, rfl⟩⟩
    · split at h <;> cases h
theorem signed_abs' (s : Bool) (m up : Nat) : signed false m up = (signed s m up).natAbs := by
  rw [signed_abs, sgn_val]; rfl
/-- The sign of a number that is not nothing. -/
theorem fx_sign {b : Nat} {x : Int} (hb : b < 2 ^ 64) (h : Fx b x) (hx : x ≠ 0) : (b / 2 ^ 63 = 1) = (x < 0) := by
  obtain ⟨s, m, e, h1, h2, h3⟩ := h
  have hs := (read_parts hb h1).1
  have := signed_neg s m (e + 1074).toNat (by rw [h3]; exact hx)
  rw [h3, hs] at this
  apply propext
  by_cases hh : x < 0
  · simp [hh] at this; simp [hh, ← this]
  · simp only [hh, decide_false] at this
    have h4 : ¬ b / 2 ^ 63 = 1 := by intro h5; rw [h5] at this; simp at this
    simp [hh, h4]
/-- The part ahead of the point, as a word. -/
def truncW (b : Nat) : Nat :=
  if b % 2 ^ 63 / 4503599627370496 < 1023 then b / 2 ^ 63 * 2 ^ 63
  else if b % 2 ^ 63 / 4503599627370496 < 1075 then b / 2 ^ (1075 - b % 2 ^ 63 / 4503599627370496) * 2 ^ (1075 - b % 2 ^ 63 / 4503599627370496) else b
end Go.Abs
namespace Go.Abs
set_option linter.unusedVariables false
set_option linter.unusedSimpArgs false
open Ieee

theorem bits_lt {op : BinOp} {a b r : Nat} (h : floatBits op .f64 a b = some r) : r < 2 ^ 64 := by
  have := floatBits_wf h
  simpa [Lit.wf] using this
theorem clean_lt {b : Nat} (h : b < 2 ^ 64) : clean b < 2 ^ 64 := by unfold clean; split <;> omega
theorem fy_two : Fy 0 4611686018427387904 2 := by
  have := Fy.nearest (n := 2) (by decide)
  have e : FloatKind.f64.nearest 2 = 4611686018427387904 := by decide
  rw [e] at this; exact this

/-- A number of the reference as a float. -/
theorem ofSix {v n d : Int} (h : Six v n d) : ∃ q, floatBits .quo .f64 (FloatKind.f64.nearest n) (FloatKind.f64.nearest d) = some q ∧ Fy 4 q v := by
  have h1 := h.bound
  have h2 := h.lo
  have h3 := h.hi
  have h4 := h.pos
  have e16 : ((2 ^ 4 : Nat) : Int) = 16 := rfl
  have e1 : ((2 ^ 0 : Nat) : Int) = 1 := rfl
  refine Fy.div (k := 0) (l := 0) (j := 4) (n := n) (m := d) (q := v) (by omega) (by omega) (by omega) (Fy.nearest (by omega)) (Fy.nearest (by omega)) (by omega) (by rw [e1, e16]; have := h.eq; omega) (by omega)
theorem sixWhole {n : Int} (h : -99999999999 ≤ n ∧ n ≤ 99999999999) : Six (n * 16) n 1 := ⟨.inl rfl, by omega, h.1, h.2, .inl rfl⟩
/-- The same number. -/
theorem same_six {r q : Nat} {v : Int} (hr : Fy 4 r v) (hq : Fy 4 q v) : sameI ⟨1, r, [], []⟩ ⟨1, q, [], []⟩ = true := by
  simp [sameI, (Fy.cmp hr hq).1]

/-! A number of the reference as the program's. -/
def qV (v : V) : Nat := (floatBits .quo .f64 (FloatKind.f64.nearest v.num) (FloatKind.f64.nearest v.den)).getD 0
theorem qV_six {v n d : Int} (h : Six v n d) : floatBits .quo .f64 (FloatKind.f64.nearest n) (FloatKind.f64.nearest d) = some (qV (num n d)) ∧ Fy 4 (qV (num n d)) v ∧ qV (num n d) < 2 ^ 64 := by
  obtain ⟨q, h1, h2⟩ := ofSix h
  have e : qV (num n d) = q := by show (floatBits .quo .f64 (FloatKind.f64.nearest n) (FloatKind.f64.nearest d)).getD 0 = q; rw [h1]; rfl
  rw [e]; exact ⟨h1, h2, bits_lt h1⟩
theorem qV_whole {n : Int} (h : ¬ (99999999999 < n ∨ n < -99999999999)) : floatBits .quo .f64 (FloatKind.f64.nearest n) (FloatKind.f64.nearest 1) = some (qV (num n 1)) ∧ Fx (qV (num n 1)) (n * (unit : Nat)) ∧ qV (num n 1) < 2 ^ 64 := by
  obtain ⟨q, h1, h2⟩ := ofNum (n := n) (by omega)
  have e : qV (num n 1) = q := by show (floatBits .quo .f64 (FloatKind.f64.nearest n) (FloatKind.f64.nearest 1)).getD 0 = q; rw [h1]; rfl
  rw [e]; exact ⟨h1, h2, bits_lt h1⟩
theorem sameE (s : List UInt8) : sameI ⟨4, 0, s, []⟩ ⟨4, 0, s, []⟩ = true := by
  simp [sameI, fcmp_eq fx_zero fx_zero]
end Go.Abs
namespace Go.Abs
set_option linter.unusedVariables false
set_option linter.unusedSimpArgs false
open Ieee
theorem mag_inj {B f f' k k' : Nat} (hf : f < B) (h : (B + f) * 2 ^ k = (B + f') * 2 ^ k') : ¬ k < k' := fun hk => by
  obtain ⟨d, rfl⟩ := Nat.exists_eq_add_of_lt hk
  have e : (B + f') * 2 ^ (k + d + 1) = ((B + f') * (2 * 2 ^ d)) * 2 ^ k := by
    rw [Nat.pow_succ, Nat.pow_add]
    simp only [Nat.mul_assoc, Nat.mul_comm, Nat.mul_left_comm]
  rw [e] at h
  have h1 := Nat.eq_of_mul_eq_mul_right (Nat.two_pow_pos k) h
  have h2 : (B + f') * 2 ≤ (B + f') * (2 * 2 ^ d) := Nat.mul_le_mul_left _ (by have := Nat.two_pow_pos d; omega)
  omega
theorem mag_eq {B f f' k k' : Nat} (hf : f < B) (hf' : f' < B) (h : (B + f) * 2 ^ k = (B + f') * 2 ^ k') : k = k' ∧ f = f' := by
  have h1 := mag_inj hf h
  have h2 := mag_inj hf' h.symm
  obtain rfl : k = k' := by omega
  have := Nat.eq_of_mul_eq_mul_right (Nat.two_pow_pos k) h
  exact ⟨rfl, by omega⟩
theorem rung_eq {r r' m m' : Nat} {e e' : Int} (h1 : (r < 4503599627370496 ∧ m = r ∧ e = -1074) ∨ (4503599627370496 ≤ r ∧ m = 4503599627370496 + r % 4503599627370496 ∧ e = -1074 + (r / 4503599627370496 - 1 : Nat)))
    (h2 : (r' < 4503599627370496 ∧ m' = r' ∧ e' = -1074) ∨ (4503599627370496 ≤ r' ∧ m' = 4503599627370496 + r' % 4503599627370496 ∧ e' = -1074 + (r' / 4503599627370496 - 1 : Nat)))
    (h : m * 2 ^ (e + 1074).toNat = m' * 2 ^ (e' + 1074).toNat) : r = r' := by
  rcases h1 with ⟨a1, a2, a3⟩ | ⟨a1, a2, a3⟩ <;> rcases h2 with ⟨b1, b2, b3⟩ | ⟨b1, b2, b3⟩
  · rw [a3, b3] at h; simp at h; omega
  · rw [show (e + 1074).toNat = 0 by omega, Nat.pow_zero, Nat.mul_one] at h
    have := Nat.le_mul_of_pos_right m' (Nat.two_pow_pos (e' + 1074).toNat)
    omega
  · rw [show (e' + 1074).toNat = 0 by omega, Nat.pow_zero, Nat.mul_one] at h
    have := Nat.le_mul_of_pos_right m (Nat.two_pow_pos (e + 1074).toNat)
    omega
  · rw [show (e + 1074).toNat = r / 4503599627370496 - 1 by omega, show (e' + 1074).toNat = r' / 4503599627370496 - 1 by omega, a2, b2] at h
    obtain ⟨h3, h4⟩ := mag_eq (Nat.mod_lt _ (by decide)) (Nat.mod_lt _ (by decide)) h
    omega
theorem fx_inj {a b : Nat} {x : Int} (ha : a < 2 ^ 64) (hb : b < 2 ^ 64) (h : Fx a x) (h' : Fx b x) (hx : x ≠ 0) : a = b := by
  have s1 := fx_sign ha h hx
  have s2 := fx_sign hb h' hx
  obtain ⟨s, m, e, r1, _, v1⟩ := h
  obtain ⟨s', m', e', r2, _, v2⟩ := h'
  obtain ⟨_, _, p1⟩ := read_parts ha r1
  obtain ⟨_, _, p2⟩ := read_parts hb r2
  have g1 := signed_abs' s m (e + 1074).toNat
  have g2 := signed_abs' s' m' (e' + 1074).toNat
  rw [v1] at g1; rw [v2] at g2
  have hm : m * 2 ^ (e + 1074).toNat = m' * 2 ^ (e' + 1074).toNat := by
    have h3 : signed false m (e + 1074).toNat = signed false m' (e' + 1074).toNat := g1.trans g2.symm
    have h4 : (m : Int) <<< (e + 1074).toNat = (m' : Int) <<< (e' + 1074).toNat := by simpa [signed] using h3
    rw [Int.shiftLeft_eq, Int.shiftLeft_eq] at h4
    generalize (e + 1074).toNat = u at h4 ⊢
    generalize (e' + 1074).toNat = u' at h4 ⊢
    have h5 : ((m * 2 ^ u : Nat) : Int) = ((m' * 2 ^ u' : Nat) : Int) := by rw [Int.natCast_mul, Int.natCast_mul, Int.natCast_pow, Int.natCast_pow]; exact h4
    exact Int.ofNat.inj h5
  have h4 := rung_eq p1 p2 hm
  have h5 : (a / 2 ^ 63 = 1) = (b / 2 ^ 63 = 1) := s1.trans s2.symm
  have h6 : (a / 2 ^ 63 = 1) ↔ (b / 2 ^ 63 = 1) := by rw [h5]
  omega
end Go.Abs
