/-
  What the numeric functions come to, in plain Lean.
-/
import Derived.Test.YtpjckdhgefbonaaGreatDoorZFlw
import Derived.Test.YtpjckdhgefbonaaGreatDoorZQ
namespace Go.Abs
set_option linter.unusedVariables false
set_option linter.unusedSimpArgs false
open Ieee

theorem bits_lt {op : BinOp} {a b r : Nat} (h : floatBits op .f64 a b = some r) : r < 2 ^ 64 := by
  have := floatBits_wf h
  simpa [Lit.wf] using this
theorem clean_lt {b : Nat} (h : b < 2 ^ 64) : clean b < 2 ^ 64 := by unfold clean; split <;> omega
theorem near_lt (n : Int) : FloatKind.f64.nearest n < 2 ^ 64 := by
  have := floatOfInt_wf .f64 n
  have h2 : floatOfInt .f64 n < 2 ^ 64 := by simpa [Lit.wf] using this
  exact h2

theorem fy_one : Fy 0 4607182418800017408 1 := by
  have := Fy.nearest (n := 1) (by decide)
  have e : FloatKind.f64.nearest 1 = 4607182418800017408 := by decide
  rw [e] at this; exact this
theorem fy_two : Fy 0 4611686018427387904 2 := by
  have := Fy.nearest (n := 2) (by decide)
  have e : FloatKind.f64.nearest 2 = 4611686018427387904 := by decide
  rw [e] at this; exact this

/-- A number of the reference as a float. -/
theorem ofSix {v n d : Int} (h : Six v n d) : ∃ q, floatBits .quo .f64 (FloatKind.f64.nearest n) (FloatKind.f64.nearest d) = some q ∧ Fy 4 q v := by
  have h1 := h.bound
  have h2 := h.lo
  have h3 := h.hi
  have h4 := h.pos
  have e16 : ((2 ^ 4 : Nat) : Int) = 16 := rfl
  have e1 : ((2 ^ 0 : Nat) : Int) = 1 := rfl
  refine Fy.div (k := 0) (l := 0) (j := 4) (n := n) (m := d) (q := v) (by omega) (by omega) (by omega) (Fy.nearest (by omega)) (Fy.nearest (by omega)) (by omega) (by rw [e1, e16]; have := h.eq; omega) (by omega)
theorem sixWhole {n : Int} (h : -99999999999 ≤ n ∧ n ≤ 99999999999) : Six (n * 16) n 1 := ⟨.inl rfl, by omega, h.1, h.2, .inl rfl⟩
theorem Fy.six {b : Nat} {n : Int} (h : Fy 0 b n) : Fy 4 b (n * 16) := h.up 4
/-- The same number. -/
theorem same_six {r q : Nat} {v : Int} (hr : Fy 4 r v) (hq : Fy 4 q v) : sameI ⟨1, r, [], []⟩ ⟨1, q, [], []⟩ = true := by
  simp [sameI, (Fy.cmp hr hq).1]

/-- The part behind the point can be written. -/
theorem rp_frac_k (p : Nat) (hp : p = 1074) (hup : unit = 2 ^ p) {b : Nat} {x : Int} (hb : b < 2 ^ 64) (h : Fx b x) : Rp (x - x.tdiv unit * unit) := by
  have hu : ((unit : Nat) : Int) = (2 ^ p : Nat) := by rw [hup]
  obtain ⟨s, m, e, h1, h2, h3⟩ := h
  obtain ⟨hs, hr, hh⟩ := read_parts hb h1
  have hm := read_lt h1
  obtain ⟨c, hc⟩ : ∃ c : Nat, (e + 1074).toNat = c := ⟨_, rfl⟩
  have hcb : c ≤ 2045 := by
    rcases hh with ⟨_, _, h6⟩ | ⟨_, _, h6⟩ <;> omega
  rw [hc] at h3
  rcases Nat.lt_or_ge c p with hlt | hge
  · obtain ⟨k, hk⟩ : ∃ k, p = c + k := ⟨p - c, by omega⟩
    rw [tdiv_val hu h3 hk]
    refine ⟨m % 2 ^ k, c, ?_, Nat.lt_of_le_of_lt (Nat.mod_le _ _) hm, fun h0 => ?_⟩
    · rw [← h3, sgn_val, sgn_val]
      have e1 := Nat.div_add_mod m (2 ^ k)
      have e2 : m * 2 ^ c = m / 2 ^ k * 2 ^ k * 2 ^ c + m % 2 ^ k * 2 ^ c := by
        rw [← Nat.add_mul, Nat.mul_comm (m / 2 ^ k), e1]
      generalize m * 2 ^ c = X at *
      generalize m / 2 ^ k * 2 ^ k * 2 ^ c = Y at *
      generalize m % 2 ^ k * 2 ^ c = Z at *
      cases s <;> simp only [Bool.false_eq_true, if_false, if_true] <;> omega
    · have h9 : m % 2 ^ k < 2 ^ 53 := Nat.lt_of_le_of_lt (Nat.mod_le _ _) hm
      have := (Nat.log2_lt h0).2 h9
      omega
  · have hx : x.tdiv unit * unit = x := by
      obtain ⟨j, hj⟩ : ∃ j, c = j + p := ⟨c - p, by omega⟩
      rw [hj, signed_up] at h3
      rw [← h3, hu, Int.mul_tdiv_cancel _ (pow_ne p)]
    rw [hx, Int.sub_self]
    exact ⟨0, 0, by simp, by decide, fun h => absurd rfl h⟩
theorem rp_frac {b : Nat} {x : Int} (hb : b < 2 ^ 64) (h : Fx b x) : Rp (x - x.tdiv unit * unit) := rp_frac_k 1074 rfl unit.eq_1 hb h

/-- The parts of a number ahead of the point and behind it. -/
theorem modf {b : Nat} {x : Int} (hb : b < 2 ^ 64) (h : Fx b x) : ∃ r, floatBits .sub .f64 b (truncW b) = some r ∧ Fx (b / 2 ^ 63 * 2 ^ 63 + r % 2 ^ 63) (x - x.tdiv unit * unit) := by
  have ht := fx_trunc hb h
  obtain ⟨r, h1, h2⟩ := fx_sub h ht (rp_frac hb h)
  refine ⟨r, h1, fx_copysign (bits_lt h1) hb h2 fun h0 => ?_⟩
  have hx : x ≠ 0 := fun e => by rw [e] at h0; simp at h0
  rw [fx_sign hb h hx]
  have hu := unit_pos
  apply propext
  rcases Int.lt_or_le x 0 with h6 | h6
  · obtain ⟨y, rfl⟩ : ∃ y, x = -y := ⟨-x, by omega⟩
    rw [Int.neg_tdiv, Int.neg_mul] at h0 ⊢
    rw [Int.tdiv_eq_ediv_of_nonneg (by omega)] at h0 ⊢
    have := Int.ediv_mul_le y (show (unit : Int) ≠ 0 by omega)
    generalize y / (unit : Int) * unit = t at *
    omega
  · rw [Int.tdiv_eq_ediv_of_nonneg h6] at h0 ⊢
    have := Int.ediv_mul_le x (show (unit : Int) ≠ 0 by omega)
    generalize x / (unit : Int) * unit = t at *
    omega

theorem tdiv_abs (x y : Int) : x.tdiv y = (if (x < 0 ↔ ¬ y < 0) then -((x.natAbs / y.natAbs : Nat) : Int) else ((x.natAbs / y.natAbs : Nat) : Int)) := by
  rcases Int.lt_or_le x 0 with hx | hx <;> rcases Int.lt_or_le y 0 with hy | hy
  · obtain ⟨X, rfl⟩ : ∃ X : Nat, x = -X := ⟨x.natAbs, by omega⟩
    obtain ⟨Y, rfl⟩ : ∃ Y : Nat, y = -Y := ⟨y.natAbs, by omega⟩
    rw [if_neg (by omega), Int.neg_tdiv_neg]
    simp only [Int.natAbs_neg, Int.natAbs_natCast]; exact (Int.ofNat_tdiv X Y).symm
  · obtain ⟨X, rfl⟩ : ∃ X : Nat, x = -X := ⟨x.natAbs, by omega⟩
    obtain ⟨Y, rfl⟩ : ∃ Y : Nat, y = Y := ⟨y.natAbs, by omega⟩
    rw [if_pos (by omega), Int.neg_tdiv]
    simp only [Int.natAbs_neg, Int.natAbs_natCast]; rw [Int.ofNat_tdiv X Y]
  · obtain ⟨X, rfl⟩ : ∃ X : Nat, x = X := ⟨x.natAbs, by omega⟩
    obtain ⟨Y, rfl⟩ : ∃ Y : Nat, y = -Y := ⟨y.natAbs, by omega⟩
    rw [if_pos (by omega), Int.tdiv_neg]
    simp only [Int.natAbs_neg, Int.natAbs_natCast]; rw [Int.ofNat_tdiv X Y]
  · obtain ⟨X, rfl⟩ : ∃ X : Nat, x = X := ⟨x.natAbs, by omega⟩
    obtain ⟨Y, rfl⟩ : ∃ Y : Nat, y = Y := ⟨y.natAbs, by omega⟩
    rw [if_neg (by omega)]
    simp only [Int.natAbs_natCast]; exact (Int.ofNat_tdiv X Y).symm
theorem tmod_sign {x y : Int} (hy : 0 < y) (h : x.tmod y ≠ 0) : x.tmod y < 0 ↔ x < 0 := by
  rcases Int.lt_or_le x 0 with h7 | h7
  · obtain ⟨z, rfl⟩ : ∃ z, x = -z := ⟨-x, by omega⟩
    rw [Int.neg_tmod, Int.tmod_eq_emod_of_nonneg (show 0 ≤ z by omega)] at h ⊢
    have := Int.emod_nonneg z (show y ≠ 0 by omega)
    constructor <;> intro _ <;> omega
  · rw [Int.tmod_eq_emod_of_nonneg h7] at h ⊢
    have := Int.emod_nonneg x (show y ≠ 0 by omega)
    constructor <;> intro _ <;> omega
/-- The whole part of a quotient of small whole numbers. -/
theorem quo_whole {a b : Nat} {n k : Int} (ha : Fx a (n * (unit : Nat))) (hb : Fx b (k * (unit : Nat))) (hk : k ≠ 0) (hn' : -1000000000 ≤ n ∧ n ≤ 1000000000) (hk' : -1000000000 ≤ k ∧ k ≤ 1000000000) :
    ∃ q v, floatBits .quo .f64 a b = some q ∧ Fx q v ∧ v.tdiv unit = n.tdiv k ∧ (v - v.tdiv unit * unit < 0 ↔ ¬ n.tmod k = 0 ∧ (n < 0 ↔ ¬ k < 0)) := by
  have hu := unit_pos
  by_cases hd : n.tmod k = 0
  · -- exact
    have hn : n = n.tdiv k * k := by have := Int.tmod_add_mul_tdiv n k; rw [hd] at this; rw [Int.mul_comm] at this; omega
    have hle : (n.tdiv k).natAbs ≤ n.natAbs := Int.natAbs_tdiv_le_natAbs n k
    obtain ⟨q, h1, h2⟩ := Fy.div (k := 0) (l := 0) (j := 0) (n := n) (m := k) (q := n.tdiv k) (by omega) (by omega) (by omega) (Fy.of ha) (Fy.of hb) hk (by rw [show ((2 ^ 0 : Nat) : Int) = 1 from rfl]; omega) (by omega)
    refine ⟨q, _, h1, h2.whole, Int.mul_tdiv_cancel _ (by omega), ?_⟩
    rw [Int.mul_tdiv_cancel _ (by omega)]
    constructor
    · intro h; omega
    · intro h; exact absurd hd h.1
  · have hn : n ≠ 0 := fun e => by rw [e] at hd; simp at hd
    obtain ⟨q, v, h1, h2, h3, h4, h5, h6⟩ := fx_quo ha hb hn hk (by omega) (by omega)
    have hK0 : 0 < k.natAbs := by omega
    have hmod : ¬ n.natAbs % k.natAbs = 0 := fun e => hd (by
      have : k ∣ n := Int.natAbs_dvd_natAbs.1 (Nat.dvd_of_mod_eq_zero e)
      exact Int.tmod_eq_zero_of_dvd this)
    have hu' : 0 < unit := by exact_mod_cast hu
    obtain ⟨b1, b2⟩ := quo_between hu' (by omega) (by omega) hK0 hmod h5 h6
    have hV : v.natAbs / unit = n.natAbs / k.natAbs := by
      refine (Nat.div_eq_iff hu').2 ?_
      have : (n.natAbs / k.natAbs + 1) * unit = n.natAbs / k.natAbs * unit + unit := by rw [Nat.add_mul, Nat.one_mul]
      omega
    have hVr : ¬ v.natAbs % unit = 0 := fun e => by
      have := Nat.div_add_mod v.natAbs unit
      rw [e, hV, Nat.mul_comm] at this
      omega
    refine ⟨q, v, h1, h2, ?_, ?_⟩
    · -- signs
      rw [tdiv_abs v unit, tdiv_abs n k, Int.natAbs_natCast, hV]
      have e1 : (v < 0 ↔ ¬ ((unit : Nat) : Int) < 0) = (n < 0 ↔ ¬ k < 0) := by
        have : ¬ ((unit : Nat) : Int) < 0 := by omega
        simp only [this, not_false_eq_true, iff_true]
        apply propext
        by_cases a1 : v < 0 <;> by_cases a2 : n < 0 <;> by_cases a3 : k < 0 <;> simp [a1, a2, a3] at h4 ⊢
      simp only [e1]
    · have key : v - v.tdiv unit * unit = v.tmod unit := by have := Int.tmod_add_mul_tdiv v unit; rw [Int.mul_comm] at this; omega
      rw [key]
      have hne : v.tmod unit ≠ 0 := fun e => hVr (by
        have : (unit : Int) ∣ v := Int.dvd_of_tmod_eq_zero e
        have := Int.natAbs_dvd_natAbs.2 this
        rw [Int.natAbs_natCast] at this
        exact Nat.mod_eq_zero_of_dvd this)
      have hs : v.tmod unit < 0 ↔ v < 0 := tmod_sign hu hne
      rw [hs]
      by_cases a1 : v < 0 <;> by_cases a2 : n < 0 <;> by_cases a3 : k < 0 <;> simp [a1, a2, a3] at h4 ⊢ <;> exact hd

/-! A number of the reference as the program's. -/
def qV (v : V) : Nat := (floatBits .quo .f64 (FloatKind.f64.nearest v.num) (FloatKind.f64.nearest v.den)).getD 0
theorem qV_six {v n d : Int} (h : Six v n d) : floatBits .quo .f64 (FloatKind.f64.nearest n) (FloatKind.f64.nearest d) = some (qV (num n d)) ∧ Fy 4 (qV (num n d)) v ∧ qV (num n d) < 2 ^ 64 := by
  obtain ⟨q, h1, h2⟩ := ofSix h
  have e : qV (num n d) = q := by show (floatBits .quo .f64 (FloatKind.f64.nearest n) (FloatKind.f64.nearest d)).getD 0 = q; rw [h1]; rfl
  rw [e]; exact ⟨h1, h2, bits_lt h1⟩
theorem qV_whole {n : Int} (h : ¬ (99999999999 < n ∨ n < -99999999999)) : floatBits .quo .f64 (FloatKind.f64.nearest n) (FloatKind.f64.nearest 1) = some (qV (num n 1)) ∧ Fx (qV (num n 1)) (n * (unit : Nat)) ∧ qV (num n 1) < 2 ^ 64 := by
  obtain ⟨q, h1, h2⟩ := ofNum (n := n) (by omega)
  have e : qV (num n 1) = q := by show (floatBits .quo .f64 (FloatKind.f64.nearest n) (FloatKind.f64.nearest 1)).getD 0 = q; rw [h1]; rfl
  rw [e]; exact ⟨h1, h2, bits_lt h1⟩
theorem same_whole {r q : Nat} {n : Int} (hr : Fx r (n * (unit : Nat))) (hq : Fx q (n * (unit : Nat))) : sameI ⟨1, r, [], []⟩ ⟨1, q, [], []⟩ = true := by
  simp [sameI, fcmp_eq hr hq]
theorem sameE (s : List UInt8) : sameI ⟨4, 0, s, []⟩ ⟨4, 0, s, []⟩ = true := by
  simp [sameI, fcmp_eq fx_zero fx_zero]
end Go.Abs
