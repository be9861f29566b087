/-
  Floats as exact numbers, fourth part: words by their bits: the part ahead of the point, the sign.
-/
import Derived.Test.YtpjckdhgefbonaaGreatDoorZFl
namespace Go.Abs
set_option linter.unusedVariables false
set_option linter.unusedSimpArgs false
open Ieee

theorem and_sign (a : Nat) (ha : a < 2 ^ 64) : (BitVec.ofNat 64 a &&& BitVec.ofNat 64 (2 ^ 63)).toNat = a / 2 ^ 63 * 2 ^ 63 := by
  apply Nat.eq_of_testBit_eq
  intro i
  rw [Nat.testBit_mul_two_pow, Nat.testBit_div_two_pow, BitVec.toNat_and, Nat.testBit_and, BitVec.toNat_ofNat, BitVec.toNat_ofNat, Nat.mod_eq_of_lt ha, Nat.mod_eq_of_lt (by decide), Nat.testBit_two_pow]
  by_cases hi : 63 = i
  · subst hi; simp
  · by_cases h2 : 63 ≤ i
    · have : a.testBit i = false := Nat.testBit_lt_two_pow (Nat.lt_of_lt_of_le ha (Nat.pow_le_pow_right (by omega) (by omega)))
      simp [hi, show i - 63 + 63 = i by omega, this]
    · simp [hi, h2]
theorem andNot_sign (a : Nat) (ha : a < 2 ^ 64) : (BitVec.ofNat 64 a &&& ~~~ BitVec.ofNat 64 (2 ^ 63)).toNat = a % 2 ^ 63 := by
  apply Nat.eq_of_testBit_eq
  intro i
  rw [Nat.testBit_mod_two_pow, BitVec.toNat_and, Nat.testBit_and, BitVec.toNat_ofNat, Nat.mod_eq_of_lt ha]
  have e : (~~~ BitVec.ofNat 64 (2 ^ 63)).toNat = 2 ^ 63 - 1 := by decide
  rw [e, Nat.testBit_two_pow_sub_one, Bool.and_comm]
theorem or_sign (a b : Nat) (ha : a < 2 ^ 63) (hb : b < 2 ^ 64) : (BitVec.ofNat 64 a ||| BitVec.ofNat 64 (b / 2 ^ 63 * 2 ^ 63)).toNat = b / 2 ^ 63 * 2 ^ 63 + a := by
  have h1 : b / 2 ^ 63 ≤ 1 := by omega
  rw [BitVec.toNat_or, BitVec.toNat_ofNat, BitVec.toNat_ofNat, Nat.mod_eq_of_lt (by omega), Nat.mod_eq_of_lt (by omega), Nat.or_comm, Nat.mul_comm, Nat.two_pow_add_eq_or_of_lt ha]

/-- A word of a sign and a rung. -/
theorem word_parts {b : Nat} (hb : b < 2 ^ 64) : b = double.word (b / 2 ^ 63 == 1) (b % 2 ^ 63) := by
  unfold Format.word
  rw [sw]
  by_cases h : b / 2 ^ 63 = 1
  · rw [h]; simp; omega
  · simp [h]; omega
theorem read_parts {b : Nat} (hb : b < 2 ^ 64) {s : Bool} {m : Nat} {e : Int} (h : double.read b = .number s m e) : s = (b / 2 ^ 63 == 1) ∧ b % 2 ^ 63 < 2047 * 4503599627370496 ∧
    ((b % 2 ^ 63 < 4503599627370496 ∧ m = b % 2 ^ 63 ∧ e = -1074) ∨ (4503599627370496 ≤ b % 2 ^ 63 ∧ m = 4503599627370496 + b % 2 ^ 63 % 4503599627370496 ∧ e = -1074 + (b % 2 ^ 63 / 4503599627370496 - 1 : Nat))) := by
  have e0 : double.signWeight = 2 ^ 63 := rfl
  unfold Format.read at h
  simp only [e0, bin, infr, lp] at h
  have h2 : b / 2 ^ 63 % 2 = b / 2 ^ 63 := by omega
  rw [h2] at h
  split at h
  · rename_i h3
    cases h
    exact ⟨rfl, by omega, .inl ⟨h3, rfl, rfl⟩⟩
  · split at h
    · rename_i h3 h4
      cases h
      exact ⟨rfl, h4, .inr ⟨by omega, rfl, rfl⟩⟩
    · split at h <;> cases h
/-- A word with another sign. -/
theorem read_sign {r : Nat} (s s' : Bool) {m : Nat} {e : Int} (hr : r < 2 ^ 63) (h : double.read (double.word s r) = .number s m e) : double.read (double.word s' r) = .number s' m e := by
  have e1 : ∀ t : Bool, double.word t r < 2 ^ 64 ∧ double.word t r % 2 ^ 63 = r ∧ (double.word t r / 2 ^ 63 == 1) = t := fun t => by
    unfold Format.word
    rw [sw]
    cases t <;> simp <;> omega
  obtain ⟨_, h2, h3⟩ := read_parts (e1 s).1 h
  rw [(e1 s).2.1] at h2 h3
  rw [read_word s' r h2]
  rcases h3 with ⟨h3, h4, h5⟩ | ⟨h3, h4, h5⟩
  · rw [if_pos h3, h4, h5]
  · rw [if_neg (by omega), h4, h5]
theorem signed_abs' (s : Bool) (m up : Nat) : signed false m up = (signed s m up).natAbs := by
  rw [signed_abs, sgn_val]; rfl
theorem word_lt {s : Bool} {r : Nat} (h : r < 2 ^ 63) : double.word s r < 2 ^ 64 := by
  unfold Format.word; rw [sw]; cases s <;> simp <;> omega

/-- The magnitude. -/
theorem fx_abs {b : Nat} {x : Int} (hb : b < 2 ^ 64) (h : Fx b x) : Fx (b % 2 ^ 63) (x.natAbs : Int) := by
  obtain ⟨s, m, e, h1, h2, h3⟩ := h
  have hs := (read_parts hb h1).1
  rw [word_parts hb, ← hs] at h1
  have := read_sign s false (Nat.mod_lt _ (by decide)) h1
  exact ⟨false, m, e, by rw [← this]; rfl, h2, by rw [← h3, signed_abs' s]⟩
/-- The sign of a number that is not nothing. -/
theorem fx_sign {b : Nat} {x : Int} (hb : b < 2 ^ 64) (h : Fx b x) (hx : x ≠ 0) : (b / 2 ^ 63 = 1) = (x < 0) := by
  obtain ⟨s, m, e, h1, h2, h3⟩ := h
  have hs := (read_parts hb h1).1
  have := signed_neg s m (e + 1074).toNat (by rw [h3]; exact hx)
  rw [h3, hs] at this
  apply propext
  by_cases hh : x < 0
  · simp [hh] at this; simp [hh, ← this]
  · simp only [hh, decide_false] at this
    have h4 : ¬ b / 2 ^ 63 = 1 := by intro h5; rw [h5] at this; simp at this
    simp [hh, h4]
/-- A number with the sign of another one. -/
theorem fx_copysign {a b : Nat} {x : Int} (ha : a < 2 ^ 64) (hb : b < 2 ^ 64) (h : Fx a x) (hs : x ≠ 0 → (b / 2 ^ 63 = 1) = (x < 0)) : Fx (b / 2 ^ 63 * 2 ^ 63 + a % 2 ^ 63) x := by
  have hx := fx_sign ha h
  obtain ⟨s, m, e, h1, h2, h3⟩ := h
  have hsa := (read_parts ha h1).1
  have ew : b / 2 ^ 63 * 2 ^ 63 + a % 2 ^ 63 = double.word (b / 2 ^ 63 == 1) (a % 2 ^ 63) := by
    unfold Format.word
    rw [sw]
    by_cases h5 : b / 2 ^ 63 = 1
    · rw [h5]; simp
    · have : b / 2 ^ 63 = 0 := by omega
      rw [this]; simp
  rw [word_parts ha, ← hsa] at h1
  have h6 := read_sign s (b / 2 ^ 63 == 1) (Nat.mod_lt _ (by decide)) h1
  rw [ew]
  refine ⟨_, m, e, h6, h2, ?_⟩
  by_cases h0 : x = 0
  · have : m * 2 ^ (e + 1074).toNat = 0 := by rw [← signed_abs s, h3, h0]; rfl
    rw [sgn_val, this, h0]; simp
  · have h7 := hs h0
    have h8 := hx h0
    rw [← h7] at h8
    have : s = (b / 2 ^ 63 == 1) := by
      rw [hsa]
      have := h8
      by_cases h9 : a / 2 ^ 63 = 1
      · rw [h9] at this ⊢; simp at this; simp [← this]
      · have h10 : ¬ b / 2 ^ 63 = 1 := fun h11 => h9 (this.mpr h11)
        rw [beq_eq_false_iff_ne.2 h9, beq_eq_false_iff_ne.2 h10]
    rw [← this]; exact h3

/-- The part ahead of the point, as a word. -/
def truncW (b : Nat) : Nat :=
  if b % 2 ^ 63 / 4503599627370496 < 1023 then b / 2 ^ 63 * 2 ^ 63
  else if b % 2 ^ 63 / 4503599627370496 < 1075 then b / 2 ^ (1075 - b % 2 ^ 63 / 4503599627370496) * 2 ^ (1075 - b % 2 ^ 63 / 4503599627370496) else b
theorem trunc_small (p : Nat) (hp : p = 1074) {m c : Nat} (hm : m < 9007199254740992) (hc : c + 53 ≤ p) : m * 2 ^ c < 2 ^ p := by
  have h1 : m * 2 ^ c < 2 ^ 53 * 2 ^ c := Nat.mul_lt_mul_of_pos_right (by omega) (Nat.two_pow_pos c)
  rw [← Nat.pow_add] at h1
  exact Nat.lt_of_lt_of_le h1 (Nat.pow_le_pow_right (by omega) (by omega))
theorem tdiv_val {s : Bool} {m c k p : Nat} {x u : Int} (hu : u = (2 ^ p : Nat)) (hx : signed s m c = x) (hp : p = c + k) : x.tdiv u * u = signed s (m / 2 ^ k * 2 ^ k) c := by
  subst hx
  have key : ((m * 2 ^ c : Nat) : Int).tdiv u * u = ((m / 2 ^ k * 2 ^ k * 2 ^ c : Nat) : Int) := by
    rw [hu, Int.tdiv_eq_ediv_of_nonneg (by omega), ← Int.natCast_ediv, ← Int.natCast_mul]
    congr 1
    rw [hp, Nat.pow_add, Nat.mul_comm (2 ^ c), ← Nat.mul_assoc, Nat.mul_div_mul_right _ _ (Nat.two_pow_pos c)]
  rw [sgn_val, sgn_val]
  cases s
  · simp only [Bool.false_eq_true, if_false]; exact key
  · simp only [if_true]; rw [Int.neg_tdiv, Int.neg_mul, key]
theorem dm_arith {E f g : Nat} (h : f < 4503599627370496) (hg : g ≤ f) (hr : E * 4503599627370496 + f < 2047 * 4503599627370496) (hE : ¬ E < 1023) : (E * 4503599627370496 + g) / 4503599627370496 = E ∧ (E * 4503599627370496 + g) % 4503599627370496 = g ∧ E * 4503599627370496 + g < 2047 * 4503599627370496 ∧ ¬ E * 4503599627370496 + g < 4503599627370496 := by omega
theorem fx_trunc_k (p : Nat) (hp : p = 1074) (hup : unit = 2 ^ p) {b : Nat} {x : Int} (hb : b < 2 ^ 64) (h : Fx b x) : Fx (truncW b) (x.tdiv unit * unit) := by
  have hu : ((unit : Nat) : Int) = (2 ^ p : Nat) := by rw [hup]
  obtain ⟨s, m, e, h1, h2, h3⟩ := h
  obtain ⟨hs, hr, hh⟩ := read_parts hb h1
  have hm := read_lt h1
  have hword := word_parts hb
  rw [← hs] at hword
  generalize hR : b % 2 ^ 63 = r at *
  have hrlt : r < 2 ^ 63 := by omega
  -- the exponent's field
  by_cases c1 : r / 4503599627370496 < 1023
  · have e1 : truncW b = b / 2 ^ 63 * 2 ^ 63 := by unfold truncW; rw [hR, if_pos c1]
    have e2 : x.tdiv unit * unit = 0 := by
      obtain ⟨c, hc⟩ : ∃ c : Nat, (e + 1074).toNat = c := ⟨_, rfl⟩
      rw [hc] at h3
      have hsm : m * 2 ^ c < 2 ^ p := trunc_small p hp hm (by omega)
      have : x.tdiv unit = 0 := by
        have h5 : x.natAbs < 2 ^ p := by rw [← h3, signed_abs]; exact hsm
        rw [hu]
        rcases Int.lt_or_le x 0 with h6 | h6
        · obtain ⟨y, rfl⟩ : ∃ y, x = -y := ⟨-x, by omega⟩
          rw [Int.neg_tdiv, Int.tdiv_eq_ediv_of_nonneg (by omega), Int.ediv_eq_zero_of_lt (by omega) (by omega)]; rfl
        · rw [Int.tdiv_eq_ediv_of_nonneg h6, Int.ediv_eq_zero_of_lt h6 (by omega)]
      rw [this]; simp
    rw [e1, e2]
    refine ⟨s, 0, -1074, ?_, by omega, by rw [sgn_val]; simp⟩
    have e3 : b / 2 ^ 63 * 2 ^ 63 = double.word s 0 := by
      unfold Format.word
      rw [sw, hs]
      by_cases h5 : b / 2 ^ 63 = 1
      · rw [h5]; simp
      · have : b / 2 ^ 63 = 0 := by omega
        rw [this]; simp
    rw [e3, read_word s 0 (by omega)]; rfl
  · rcases hh with ⟨h4, _, _⟩ | ⟨h4, h5, h6⟩
    · omega
    · obtain ⟨E, hE⟩ : ∃ E, r / 4503599627370496 = E := ⟨_, rfl⟩
      rw [hE] at c1 h6
      have hc : (e + 1074).toNat = E - 1 := by omega
      rw [hc] at h3
      by_cases c2 : E < 1075
      · obtain ⟨k, hk⟩ : ∃ k, 1075 - E = k := ⟨_, rfl⟩
        have e1 : truncW b = b / 2 ^ k * 2 ^ k := by unfold truncW; rw [hR, hE, if_neg c1, if_pos c2, hk]
        rw [tdiv_val (k := k) hu h3 (by omega), e1]
        have hk52 : k ≤ 52 := by omega
        -- the digits that are cut away lie in the fraction
        have d52 : (2 : Nat) ^ 52 = 2 ^ (52 - k) * 2 ^ k := by rw [← Nat.pow_add, Nat.sub_add_cancel hk52]
        have d63 : (2 : Nat) ^ 63 = 2 ^ (63 - k) * 2 ^ k := by rw [← Nat.pow_add, Nat.sub_add_cancel (Nat.le_trans hk52 (by decide))]
        have hg : 0 < 2 ^ k := Nat.two_pow_pos k
        have q52 : 4503599627370496 = 2 ^ (52 - k) * 2 ^ k := d52
        have hcut : ∀ a c : Nat, (a * 2 ^ k + c) / 2 ^ k * 2 ^ k = a * 2 ^ k + c / 2 ^ k * 2 ^ k := fun a c => by
          rw [Nat.add_comm, Nat.add_mul_div_right _ _ hg, Nat.add_mul, Nat.add_comm]
        obtain ⟨f, hf⟩ : ∃ f, r % 4503599627370496 = f := ⟨_, rfl⟩
        rw [hf] at h5
        have hfl : f < 4503599627370496 := by omega
        have hrf : r = E * 4503599627370496 + f := by omega
        have hr' : r / 2 ^ k * 2 ^ k = E * 4503599627370496 + f / 2 ^ k * 2 ^ k := by
          rw [hrf, q52, ← Nat.mul_assoc, hcut]
        have hm' : m / 2 ^ k * 2 ^ k = 4503599627370496 + f / 2 ^ k * 2 ^ k := by
          rw [h5]
          conv => lhs; rw [q52]
          rw [hcut, ← q52]
        have hfle : f / 2 ^ k * 2 ^ k ≤ f := Nat.div_mul_le_self f (2 ^ k)
        have hb' : b / 2 ^ k * 2 ^ k = double.word s (r / 2 ^ k * 2 ^ k) := by
          rw [hword]
          unfold Format.word
          rw [sw]
          cases s
          · simp
          · simp only [if_true]
            have : (9223372036854775808 : Nat) = 2 ^ (63 - k) * 2 ^ k := d63
            rw [this, hcut]
        rw [hb', hr', hm']
        refine ⟨s, 4503599627370496 + f / 2 ^ k * 2 ^ k, e, ?_, h2, by rw [hc]⟩
        obtain ⟨q1, q2, q3, q4⟩ := dm_arith hfl hfle (by rw [← hrf]; exact hr) c1
        rw [read_word s _ q3, if_neg q4, q1, q2, h6]
      · have e1 : truncW b = b := by unfold truncW; rw [hR, hE, if_neg c1, if_neg c2]
        rw [e1]
        have hx : x.tdiv unit * unit = x := by
          obtain ⟨c, hc2⟩ : ∃ c, E - 1 = p + c := ⟨E - 1 - p, by omega⟩
          rw [hc2, Nat.add_comm, signed_up] at h3
          rw [← h3, hu]
          rw [Int.mul_tdiv_cancel _ (pow_ne p)]
        rw [hx]
        exact ⟨s, m, e, h1, h2, by rw [hc]; exact h3⟩
theorem fx_trunc {b : Nat} {x : Int} (hb : b < 2 ^ 64) (h : Fx b x) : Fx (truncW b) (x.tdiv unit * unit) := fx_trunc_k 1074 rfl unit.eq_1 hb h
theorem truncW_lt {b : Nat} (hb : b < 2 ^ 64) : truncW b < 2 ^ 64 := by
  unfold truncW
  split
  · omega
  · split
    · exact Nat.lt_of_le_of_lt (Nat.div_mul_le_self _ _) hb
    · exact hb
end Go.Abs
