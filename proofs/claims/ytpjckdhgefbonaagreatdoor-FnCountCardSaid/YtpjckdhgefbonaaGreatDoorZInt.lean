/-
  What the reference makes of two whole numbers.
-/
import Derived.Test.YtpjckdhgefbonaaGreatDoorZQ
namespace Go.Abs
set_option linter.unusedVariables false
set_option linter.unusedSimpArgs false
def modI (n k : Int) : Int := if k < 0 then -(-n - -k * (-n / -k)) else n - k * (n / k)
def modV (n k : Int) : V := if 1000000000 < n ∨ n < -1000000000 ∨ 1000000000 < k ∨ k < -1000000000 then doubt else if k = 0 then errV [35, 68, 73, 86, 47, 48, 33] else if k < 0 then intV (-(-n - -k * (-n / -k))) else intV (n - k * (n / k))
theorem modI_spec {n k : Int} (h : k ≠ 0) : (k < 0 → k < modI n k ∧ modI n k ≤ 0) ∧ (0 < k → 0 ≤ modI n k ∧ modI n k < k) := by
  unfold modI
  constructor
  · intro hk
    have e1 := Int.mul_ediv_add_emod (-n) (-k)
    have e2 := Int.emod_nonneg (-n) (show -k ≠ 0 by omega)
    have e3 := Int.emod_lt_of_pos (-n) (show 0 < -k by omega)
    rw [if_pos hk]
    generalize -k * (-n / -k) = z at *
    omega
  · intro hk
    have e1 := Int.mul_ediv_add_emod n k
    have e2 := Int.emod_nonneg n (show k ≠ 0 by omega)
    have e3 := Int.emod_lt_of_pos n hk
    rw [if_neg (by omega)]
    generalize k * (n / k) = z at *
    omega
/-- The whole part, and one less where something is left on the other side. -/
theorem modI_eq {n k : Int} (h : k ≠ 0) : modI n k = n - k * (if ¬ n.tmod k = 0 ∧ (n < 0 ↔ ¬ k < 0) then n.tdiv k - 1 else n.tdiv k) := by
  have e0 := Int.tmod_add_mul_tdiv n k
  by_cases hk : k < 0
  · have hm : modI n k = -(-n - -k * (-n / -k)) := if_pos hk
    have ef := tdiv_floor (n := -n) (d := -k) (by omega)
    rw [Int.neg_tdiv_neg, Int.neg_tmod, Int.tmod_neg] at ef
    rw [hm]
    by_cases hc : ¬ n.tmod k = 0 ∧ (n < 0 ↔ ¬ k < 0)
    · rw [if_pos hc]
      have hn : 0 ≤ n := by have := hc.2; omega
      have h1 := Int.tmod_nonneg k hn
      have := ef.1 (by omega)
      rw [← this]
      have e3 : -k * (n.tdiv k - 1) = -(k * n.tdiv k) + k := by rw [Int.mul_sub, Int.neg_mul]; omega
      have e4 : k * (n.tdiv k - 1) = k * n.tdiv k - k := by rw [Int.mul_sub]; omega
      rw [e3, e4]; omega
    · rw [if_neg hc]
      have h2 : ¬ -(n.tmod k) < 0 := by
        rcases Int.lt_or_le n 0 with hn | hn
        · obtain ⟨y, rfl⟩ : ∃ y, n = -y := ⟨-n, by omega⟩
          rw [Int.neg_tmod]
          have := Int.tmod_nonneg k (show 0 ≤ y by omega)
          omega
        · have : n.tmod k = 0 := by
            by_cases e : n.tmod k = 0
            · exact e
            · exact absurd ⟨e, by omega⟩ hc
          omega
      have := ef.2 h2
      rw [← this]
      have e3 : -k * n.tdiv k = -(k * n.tdiv k) := Int.neg_mul _ _
      rw [e3]; omega
  · have hk' : 0 < k := by omega
    have hm : modI n k = n - k * (n / k) := if_neg hk
    have ef := tdiv_floor (n := n) hk'
    rw [hm]
    by_cases hc : ¬ n.tmod k = 0 ∧ (n < 0 ↔ ¬ k < 0)
    · rw [if_pos hc]
      have hn : n < 0 := by have := hc.2; omega
      have h1 : n.tmod k < 0 := by
        obtain ⟨y, rfl⟩ : ∃ y, n = -y := ⟨-n, by omega⟩
        have := Int.tmod_nonneg k (show 0 ≤ y by omega)
        have h3 := hc.1
        rw [Int.neg_tmod] at h3 ⊢
        omega
      rw [ef.1 h1]
    · rw [if_neg hc]
      have h2 : ¬ n.tmod k < 0 := by
        rcases Int.lt_or_le n 0 with hn | hn
        · have : n.tmod k = 0 := by
            by_cases e : n.tmod k = 0
            · exact e
            · exact absurd ⟨e, by omega⟩ hc
          omega
        · have := Int.tmod_nonneg k hn; omega
      rw [ef.2 h2]
theorem floor_bound {n k : Int} (h : k ≠ 0) (hn : -1000000000 ≤ n ∧ n ≤ 1000000000) : (n.tdiv k).natAbs ≤ 1000000000 := by
  have := Int.natAbs_tdiv_le_natAbs n k
  omega

def andI (n k : Int) : Int := IntKind.i64.wrap ((BitVec.ofInt 64 n &&& BitVec.ofInt 64 k).toNat : Int)
def bitV (n k : Int) : V := if n < 0 then errV [35, 78, 85, 77, 33] else if k < 0 then errV [35, 78, 85, 77, 33] else intV (andI n k)
theorem andI_spec {n k : Int} (h1 : 0 ≤ n ∧ n ≤ 99999999999) (h2 : 0 ≤ k ∧ k ≤ 99999999999) : 0 ≤ andI n k ∧ andI n k ≤ 99999999999 := by
  have h : (BitVec.ofInt 64 n &&& BitVec.ofInt 64 k).toNat ≤ n.toNat := by
    rw [BitVec.toNat_and]
    refine Nat.le_trans Nat.and_le_left ?_
    rw [BitVec.toNat_ofInt]
    have : n % ((2 ^ 64 : Nat) : Int) = n := Int.emod_eq_of_lt h1.1 (by have : ((2 ^ 64 : Nat) : Int) = 18446744073709551616 := rfl; omega)
    rw [this]; exact Nat.le_refl _
  unfold andI
  rw [wrap_id (by omega) (by omega)]
  omega
def shlI (n k : Int) : Int := IntKind.i64.wrap (n * 2 ^ min k.toNat 64)
def shlV (n k : Int) : V := if n < 0 then errV [35, 78, 85, 77, 33] else intV (shlI n k)
theorem shlI_spec {n k : Int} (h : 0 ≤ n) (h2 : n ≤ 1048576) (h3 : 0 ≤ k) (h4 : k ≤ 20) : 0 ≤ shlI n k ∧ shlI n k ≤ 1099511627776 := by
  obtain ⟨m, rfl⟩ : ∃ m : Nat, k = m := ⟨k.toNat, by omega⟩
  have hm : min (m : Int).toNat 64 = m := by omega
  have hp : (2 : Int) ^ m ≤ 1048576 := by
    have t : (2 : Nat) ^ m ≤ 2 ^ 20 := Nat.pow_le_pow_right (by omega) (by omega)
    have h5 := Int.ofNat_le.2 t
    rw [Int.natCast_pow] at h5
    exact h5
  have hp0 : (0 : Int) < 2 ^ m := Int.pow_pos (by omega)
  have h6 : n * 2 ^ m ≤ 1048576 * 1048576 := Int.mul_le_mul h2 hp (Int.le_of_lt hp0) (by omega)
  have h7 : 0 ≤ n * 2 ^ m := Int.mul_nonneg h (Int.le_of_lt hp0)
  unfold shlI
  rw [hm, wrap_id (by omega) (by omega)]
  omega
end Go.Abs
