/-
  Floats as exact numbers: a word's value in units of 2^-1074, and the operations whose result is exact.
-/
import Derived.Laws.FloatArith
namespace Go.Abs
set_option linter.unusedVariables false
set_option linter.unusedSimpArgs false
open Ieee

/-- A word stands for v units. -/
def Fx (w : Nat) (v : Int) : Prop := ∃ s m e, double.read w = .number s m e ∧ -1074 ≤ e ∧ signed s m (e + 1074).toNat = v

def unit : Nat := 2 ^ 1074

theorem lp : double.leastPlace = -1074 := by decide
theorem bin : double.binade = 4503599627370496 := by decide
theorem infr : double.infRung = 2047 * 4503599627370496 := by decide
theorem sw : double.signWeight = 9223372036854775808 := by decide

theorem read_word (s : Bool) (r : Nat) (h : r < 2047 * 4503599627370496) : double.read (double.word s r) =
    if r < 4503599627370496 then .number s r (-1074) else .number s (4503599627370496 + r % 4503599627370496) (-1074 + (r / 4503599627370496 - 1 : Nat)) := by
  have h1 : double.word s r / double.signWeight % 2 = s.toNat ∧ double.word s r % double.signWeight = r := by
    unfold Format.word
    rw [sw]
    cases s <;> simp <;> omega
  unfold Format.read
  simp only [h1.1, h1.2, lp, bin, infr]
  have hs : (s.toNat == 1) = s := by cases s <;> rfl
  rw [hs]
  split
  · rfl
  · first | rfl | rw [if_pos h]

theorem even_exact (neg : Bool) (n d : Nat) (h : n % 2 ^ d = 0) (hd : d ≤ n.log2 + 2) : Toward.even.cut neg n d = n / 2 ^ d := by
  unfold Toward.cut
  rw [Nat.min_eq_left hd]
  simp only [Nat.shiftLeft_eq, Nat.one_mul, h]
  have h1 : ¬ 2 ^ d < 2 * 0 := by omega
  simp

theorem log2_mul_pow {m : Nat} (h : m ≠ 0) (k : Nat) : (m * 2 ^ k).log2 = m.log2 + k := by
  rw [Nat.log2_eq_iff (by have := Nat.two_pow_pos k; exact Nat.mul_ne_zero h (by omega))]
  have h1 := Nat.log2_self_le h
  have h2 := Nat.lt_log2_self (n := m)
  constructor
  · rw [Nat.pow_add]; exact Nat.mul_le_mul_right _ h1
  · rw [show m.log2 + k + 1 = (m.log2 + 1) + k by omega, Nat.pow_add]; exact Nat.mul_lt_mul_of_pos_right h2 (Nat.two_pow_pos k)

/-- The place of the last digit that a number of m0 <<< k units in the place e has. -/
def lastOf (m0 : Nat) (e : Int) : Int := max (e + m0.log2 - 52) (-1074)

theorem nearest_exact (s : Bool) {m0 : Nat} (k : Nat) (e : Int) (h0 : m0 ≠ 0) (h53 : m0 < 2 ^ 53) (he : -1074 ≤ e) (hk : e + m0.log2 ≤ 1023) :
    ∃ m' e', double.read (double.nearest s (m0 * 2 ^ k) (e - k)) = .number s m' e' ∧ -1074 ≤ e' ∧ m' * 2 ^ (e' + 1074).toNat = m0 * 2 ^ (e + 1074).toNat := by
  have hL : m0.log2 ≤ 52 := by
    have := (Nat.log2_lt h0).2 h53
    omega
  have hlast : lastOf m0 e ≤ e ∧ -1074 ≤ lastOf m0 e := by unfold lastOf; omega
  have hm : m0 * 2 ^ k ≠ 0 := Nat.mul_ne_zero h0 (by have := Nat.two_pow_pos k; omega)
  have hlog : (m0 * 2 ^ k).log2 = m0.log2 + k := log2_mul_pow h0 k
  have hl : max ((e - k) + ((m0 * 2 ^ k).log2 : Nat) - (52 : Nat)) (-1074) = lastOf m0 e := by
    rw [hlog]; unfold lastOf; omega
  obtain ⟨a, ha⟩ : ∃ a : Nat, e = lastOf m0 e + a := ⟨(e - lastOf m0 e).toNat, by omega⟩
  have hkept : Toward.even.cut s ((m0 * 2 ^ k) <<< ((e - k) - lastOf m0 e).toNat) (lastOf m0 e - (e - k)).toNat = m0 * 2 ^ a := by
    rcases Nat.le_total k a with h | h
    · have e1 : ((e - k) - lastOf m0 e).toNat = a - k := by omega
      have e2 : (lastOf m0 e - (e - k)).toNat = 0 := by omega
      rw [e1, e2, even_exact _ _ _ (by simp [Nat.mod_one]) (by omega), Nat.shiftLeft_eq, Nat.mul_assoc, ← Nat.pow_add]
      simp
      congr 2; omega
    · have e1 : ((e - k) - lastOf m0 e).toNat = 0 := by omega
      have e2 : (lastOf m0 e - (e - k)).toNat = k - a := by omega
      have e3 : m0 * 2 ^ k = (m0 * 2 ^ a) * 2 ^ (k - a) := by rw [Nat.mul_assoc, ← Nat.pow_add]; congr 2; omega
      rw [e1, e2, Nat.shiftLeft_zero, even_exact _ _ _ (by rw [e3]; exact Nat.mul_mod_left _ _) (by rw [hlog]; omega), e3]
      exact Nat.mul_div_cancel _ (Nat.two_pow_pos _)
  have hw : double.nearest s (m0 * 2 ^ k) (e - k) = double.word s (min ((lastOf m0 e + 1074).toNat * 4503599627370496 + m0 * 2 ^ a) (2047 * 4503599627370496)) := by
    unfold Format.nearest
    rw [if_neg hm]
    have hfb : double.fractionBits = 52 := rfl
    dsimp only
    rw [hfb, lp, hl, hkept, infr, bin, show lastOf m0 e - (-1074) = lastOf m0 e + 1074 by omega]
  -- the digits kept
  have hk53 : m0 * 2 ^ a < 9007199254740992 := by
    have h1 : a ≤ 52 - m0.log2 := by unfold lastOf at ha; omega
    have h2 := Nat.lt_log2_self (n := m0)
    have h3 : m0 * 2 ^ a < 2 ^ (m0.log2 + 1) * 2 ^ a := Nat.mul_lt_mul_of_pos_right h2 (Nat.two_pow_pos a)
    rw [← Nat.pow_add] at h3
    have h4 : (2 : Nat) ^ (m0.log2 + 1 + a) ≤ 2 ^ 53 := Nat.pow_le_pow_right (by omega) (by omega)
    omega
  have hnorm : lastOf m0 e ≠ -1074 → 4503599627370496 ≤ m0 * 2 ^ a := by
    intro hne
    have h1 : a = 52 - m0.log2 := by unfold lastOf at ha hne; omega
    have h2 := Nat.log2_self_le h0
    have h3 : 2 ^ m0.log2 * 2 ^ a ≤ m0 * 2 ^ a := Nat.mul_le_mul_right _ h2
    rw [← Nat.pow_add, show m0.log2 + a = 52 by omega] at h3
    exact h3
  have hval : m0 * 2 ^ (e + 1074).toNat = (m0 * 2 ^ a) * 2 ^ (lastOf m0 e + 1074).toNat := by
    rw [Nat.mul_assoc, ← Nat.pow_add]; congr 2; omega
  generalize hq : m0 * 2 ^ a = q at *
  generalize hla : lastOf m0 e = la at *
  have hr : (la + 1074).toNat * 4503599627370496 + q < 2047 * 4503599627370496 := by
    have : la ≤ 971 := by rw [← hla]; unfold lastOf; omega
    omega
  rw [hw, Nat.min_eq_left (by omega), read_word s _ hr]
  by_cases hc : la = -1074
  · subst hc
    simp only [show ((-1074 : Int) + 1074).toNat = 0 from rfl, Nat.zero_mul, Nat.zero_add, Nat.pow_zero, Nat.mul_one] at hval ⊢
    by_cases hs : q < 4503599627370496
    · rw [if_pos hs]; exact ⟨q, -1074, rfl, by omega, by simp [hval]⟩
    · rw [if_neg hs]
      refine ⟨_, _, rfl, by omega, ?_⟩
      have : q / 4503599627370496 = 1 := by omega
      rw [this, hval]
      simp
      omega
  · have hge := hnorm hc
    have hpos : 0 < (la + 1074).toNat := by omega
    rw [if_neg (by omega)]
    refine ⟨_, _, rfl, by omega, ?_⟩
    have e1 : ((la + 1074).toNat * 4503599627370496 + q) % 4503599627370496 = q - 4503599627370496 := by omega
    have e2 : ((la + 1074).toNat * 4503599627370496 + q) / 4503599627370496 = (la + 1074).toNat + 1 := by omega
    rw [e1, e2, hval, show 4503599627370496 + (q - 4503599627370496) = q by omega]
    congr 2
    omega

/-- What can be written exactly, in units of 2^-1074. -/
def Rp (v : Int) : Prop := ∃ m0 k : Nat, v.natAbs = m0 * 2 ^ k ∧ m0 < 2 ^ 53 ∧ (m0 ≠ 0 → k + m0.log2 ≤ 2097)

theorem signed_abs (s : Bool) (m up : Nat) : (signed s m up).natAbs = m * 2 ^ up := by
  unfold signed; rw [Nat.shiftLeft_eq]
  cases s
  · simp only [Bool.false_eq_true, if_false, Int.natAbs_natCast]
  · simp only [if_true, Int.natAbs_neg, Int.natAbs_natCast]
theorem signed_neg (s : Bool) (m up : Nat) (h : signed s m up ≠ 0) : decide (signed s m up < 0) = s := by
  unfold signed at h ⊢
  rw [Nat.shiftLeft_eq] at h ⊢
  generalize m * 2 ^ up = q at *
  cases s
  · simp
  · simp only [if_true] at h ⊢
    simp; omega

/-- A datum's exact value is written and read again. -/
theorem write_fv (s : Bool) (m : Nat) (e : Int) (v : Int) (he : e ≤ -1074 → ∃ j : Nat, e = -1074 - j ∧ (m : Int) = (v.natAbs * 2 ^ j : Nat)) (he' : -1074 ≤ e → m * 2 ^ (e + 1074).toNat = v.natAbs) (hs : v ≠ 0 → s = decide (v < 0)) (hv : Rp v) :
    Fx (double.write (.number s m e)) v := by
  obtain ⟨m0, k, h1, h2, h3⟩ := hv
  by_cases hz : v = 0
  · subst hz
    have hm : m = 0 := by
      rcases Int.le_total e (-1074) with h | h
      · obtain ⟨j, _, hj⟩ := he h; simpa using hj
      · rcases Nat.mul_eq_zero.1 (he' h) with h | h
        · exact h
        · have := Nat.two_pow_pos (e + 1074).toNat; omega
    subst hm
    refine ⟨s, 0, -1074, ?_, by omega, by unfold signed; cases s <;> simp⟩
    have : double.write (.number s 0 e) = double.word s 0 := by simp [Format.write, Format.nearest]
    rw [this, read_word s 0 (by omega)]
    simp
  · have hm0 : m0 ≠ 0 := fun e => by subst e; simp at h1; exact hz h1
    have hs' := hs hz
    -- bring the datum to m0 * 2 ^ i in the place (k - 1074) - i, or scale it up
    have key : ∃ i : Int, True := ⟨0, trivial⟩
    have out : ∀ w, (∃ m' e', double.read w = .number s m' e' ∧ -1074 ≤ e' ∧ m' * 2 ^ (e' + 1074).toNat = m0 * 2 ^ ((k : Int) - 1074 + 1074).toNat) → Fx w v := fun w ⟨m', e', r1, r2, r3⟩ => by
      refine ⟨s, m', e', r1, r2, ?_⟩
      have e1 : ((k : Int) - 1074 + 1074).toNat = k := by omega
      rw [e1, ← h1] at r3
      unfold signed
      rw [Nat.shiftLeft_eq, r3, hs']
      by_cases hn : v < 0
      · simp [hn]; omega
      · simp [hn]; omega
    have go : ∀ i : Nat, Fx (double.nearest s (m0 * 2 ^ i) ((k : Int) - 1074 - i)) v := fun i => out _ (nearest_exact s i ((k : Int) - 1074) hm0 h2 (by omega) (by have := h3 hm0; omega))
    show Fx (double.nearest s m e) v
    rcases Int.le_total e (-1074) with h | h
    · obtain ⟨j, hj, hmj⟩ := he h
      have : m = m0 * 2 ^ (k + j) := by
        have : m = v.natAbs * 2 ^ j := by exact_mod_cast hmj
        rw [this, h1, Nat.mul_assoc, ← Nat.pow_add]
      have := go (k + j)
      rw [show (k : Int) - 1074 - ((k + j : Nat) : Int) = e by omega] at this
      rw [‹m = m0 * 2 ^ (k + j)›]; exact this
    · have hv := he' h
      -- m * 2 ^ t = m0 * 2 ^ k
      obtain ⟨t, ht⟩ : ∃ t : Nat, e + 1074 = t := ⟨(e + 1074).toNat, by omega⟩
      have hte : (e + 1074).toNat = t := by omega
      rw [hte, h1] at hv
      rcases Nat.le_total t k with htk | htk
      · have hm : m = m0 * 2 ^ (k - t) := by
          have : m * 2 ^ t = (m0 * 2 ^ (k - t)) * 2 ^ t := by rw [hv, Nat.mul_assoc, ← Nat.pow_add]; congr 2; omega
          exact Nat.eq_of_mul_eq_mul_right (Nat.two_pow_pos t) this
        have := go (k - t)
        rw [show (k : Int) - 1074 - ((k - t : Nat) : Int) = e by omega] at this
        rw [hm]; exact this
      · -- m0 = m * 2 ^ (t - k)
        have hm : m0 = m * 2 ^ (t - k) := by
          have : m0 * 2 ^ k = (m * 2 ^ (t - k)) * 2 ^ k := by rw [← hv, Nat.mul_assoc, ← Nat.pow_add]; congr 2; omega
          exact Nat.eq_of_mul_eq_mul_right (Nat.two_pow_pos k) this
        have hmne : m ≠ 0 := fun e => by subst e; simp at hm; exact hm0 hm
        have hlog : m0.log2 = m.log2 + (t - k) := by rw [hm, log2_mul_pow hmne]
        have hlt : m < 2 ^ 53 := by
          have : m ≤ m0 := by rw [hm]; exact Nat.le_mul_of_pos_right m (Nat.two_pow_pos _)
          omega
        have hx := nearest_exact s 0 e hmne hlt h (by have := h3 hm0; omega)
        simp only [Nat.pow_zero, Nat.mul_one] at hx
        rw [show e - ((0 : Nat) : Int) = e by omega] at hx
        obtain ⟨m', e', r1, r2, r3⟩ := hx
        refine out _ ⟨m', e', r1, r2, ?_⟩
        rw [r3, hte, show ((k : Int) - 1074 + 1074).toNat = k by omega, hv]


theorem sgn_val {s : Bool} {m up : Nat} : signed s m up = if s then -((m * 2 ^ up : Nat) : Int) else ((m * 2 ^ up : Nat) : Int) := by unfold signed; rw [Nat.shiftLeft_eq]

/-- A sign and a number from a signed one. -/
theorem signed_up {s : Bool} {m a b : Nat} : signed s m (a + b) = signed s m a * (2 ^ b : Nat) := by
  rw [sgn_val, sgn_val, Nat.pow_add, ← Nat.mul_assoc]
  cases s
  · simp
  · simp [Int.neg_mul]

theorem fv_nearest_k (k : Nat) (hk : k = 1074) (hq : unit = 2 ^ k) {n : Int} (h : n.natAbs < 2 ^ 53) : Fx (FloatKind.f64.nearest n) (n * unit) := by
  have e : FloatKind.f64.nearest n = double.write (.number (n < 0) n.natAbs 0) := rfl
  rw [e]
  have hu : (n * (unit : Nat)).natAbs = n.natAbs * 2 ^ k := by rw [Int.natAbs_mul, Int.natAbs_natCast, hq]
  have hp : 0 < 2 ^ k := Nat.two_pow_pos k
  refine write_fv _ _ _ _ (fun h => absurd h (by decide)) (fun _ => ?_) (fun hne => ?_) ⟨n.natAbs, k, hu, h, fun h0 => ?_⟩
  · rw [hu, show ((0 : Int) + 1074).toNat = k by omega]
  · have h2 : (0 : Int) < (unit : Nat) := by rw [hq]; exact_mod_cast hp
    have : (n * (unit : Nat) < 0) = (n < 0) := by
      apply propext
      constructor
      · intro h3
        rcases Int.lt_or_le n 0 with h4 | h4
        · exact h4
        · have := Int.mul_nonneg h4 (Int.le_of_lt h2); omega
      · intro h3; exact Int.mul_neg_of_neg_of_pos h3 h2
    simp only [this]
  · have := (Nat.log2_lt h0).2 h; omega

theorem fv_nearest {n : Int} (h : n.natAbs < 2 ^ 53) : Fx (FloatKind.f64.nearest n) (n * unit) := fv_nearest_k 1074 rfl unit.eq_1 h

theorem fv_order {a b : Nat} {x y : Int} (ha : Fx a x) (hb : Fx b y) : double.order a b = some (compare x y) := by
  obtain ⟨s, m, i, h1, h2, rfl⟩ := ha
  obtain ⟨t, n, j, h3, h4, rfl⟩ := hb
  unfold Format.order
  rw [h1, h3]
  simp only [Datum.order]
  congr 1
  obtain ⟨c, hc⟩ : ∃ c : Nat, min i j = -1074 + c := ⟨(min i j + 1074).toNat, by omega⟩
  have e1 : (i + 1074).toNat = (i - min i j).toNat + c := by omega
  have e2 : (j + 1074).toNat = (j - min i j).toNat + c := by omega
  rw [e1, e2, signed_up, signed_up]
  have hp : (0 : Int) < (2 ^ c : Nat) := by exact_mod_cast Nat.two_pow_pos c
  generalize ((2 ^ c : Nat) : Int) = q at *
  generalize signed s m (i - min i j).toNat = x at *
  generalize signed t n (j - min i j).toNat = y at *
  show compare x y = compare (x * q) (y * q)
  simp only [compare, compareOfLessAndEq]
  have h1 : (x * q < y * q) = (x < y) := propext ⟨fun h => Int.lt_of_mul_lt_mul_right h (Int.le_of_lt hp), fun h => Int.mul_lt_mul_of_pos_right h hp⟩
  have h2 : (x * q = y * q) = (x = y) := propext ⟨fun h => Int.eq_of_mul_eq_mul_right (by omega) h, fun h => by rw [h]⟩
  simp only [h1, h2]


end Go.Abs
