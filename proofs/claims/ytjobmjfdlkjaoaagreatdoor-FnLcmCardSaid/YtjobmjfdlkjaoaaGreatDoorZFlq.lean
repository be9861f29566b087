/-
  Floats as exact numbers, third part: a quotient that is rounded; the part of a number ahead of the point.
-/
import Derived.Test.YtjobmjfdlkjaoaaGreatDoorZFlt
namespace Go.Abs
set_option linter.unusedVariables false
set_option linter.unusedSimpArgs false
open Ieee

theorem read_lt {w : Nat} {s : Bool} {m : Nat} {e : Int} (h : double.read w = .number s m e) : m < 9007199254740992 := by
  unfold Format.read at h
  simp only [bin, infr] at h
  split at h
  · cases h; omega
  · split at h
    · cases h; omega
    · split at h <;> cases h
theorem log2_ge {n k : Nat} (h : 2 ^ k ≤ n) : k ≤ n.log2 := (Nat.le_log2 (by have := Nat.two_pow_pos k; omega)).2 h
theorem pow_lt_inv {a b : Nat} (h : 2 ^ a < 2 ^ b) : a < b := (Nat.pow_lt_pow_iff_right (by omega)).1 h

/-- m * 2 ^ I units of 2 ^ -1074 for a whole number that has at most 53 digits. -/
theorem place_bound {p m I N : Nat} (hp : p = 1074) (h : m * 2 ^ I = N * 2 ^ p) (hm : m < 9007199254740992) (hN : N ≠ 0) (hN' : N < 9007199254740992) : 1021 < I + 1 ∧ I < 1074 + 53 := by
  have hm0 : m ≠ 0 := fun e => by
    subst e
    rw [Nat.zero_mul] at h
    rcases Nat.mul_eq_zero.1 h.symm with h | h
    · exact hN h
    · have := Nat.two_pow_pos p; omega
  have e53 : (9007199254740992 : Nat) = 2 ^ 53 := by decide
  constructor
  · have h1 : 2 ^ p < 2 ^ (53 + I) := by
      rw [Nat.pow_add]
      have h2 : 2 ^ p ≤ N * 2 ^ p := Nat.le_mul_of_pos_left _ (by omega)
      have h3 : m * 2 ^ I < 2 ^ 53 * 2 ^ I := Nat.mul_lt_mul_of_pos_right (by omega) (Nat.two_pow_pos I)
      omega
    have := pow_lt_inv h1
    omega
  · have h1 : 2 ^ I < 2 ^ (53 + p) := by
      rw [Nat.pow_add]
      have h2 : 2 ^ I ≤ m * 2 ^ I := Nat.le_mul_of_pos_left _ (by omega)
      have h3 : N * 2 ^ p < 2 ^ 53 * 2 ^ p := Nat.mul_lt_mul_of_pos_right (by omega) (Nat.two_pow_pos p)
      omega
    have := pow_lt_inv h1
    omega

/-- The digits of a quotient, and one that tells of a rest. -/
theorem quo_digits {m l more D q mag : Nat} (hl : l ≠ 0) (hm : m ≠ 0) (hmore : more = 54 + l.log2 - m.log2) (hD : D = m * 2 ^ more) (hq : q = D / l) (hg : mag = 2 * q + (D % l != 0).toNat) :
    9007199254740992 * l ≤ D ∧ 54 ≤ mag.log2 ∧ mag * l ≤ 2 * D + l ∧ 2 * D ≤ mag * l + l ∧ q.log2 + l.log2 ≤ m.log2 + more := by
  have hl2 := Nat.lt_log2_self (n := l)
  have hm1 := Nat.log2_self_le hm
  have hD54 : 2 ^ (54 + l.log2) ≤ D := by
    rw [hD]
    have h1 : 2 ^ m.log2 * 2 ^ more ≤ m * 2 ^ more := Nat.mul_le_mul_right _ hm1
    rw [← Nat.pow_add] at h1
    exact Nat.le_trans (Nat.pow_le_pow_right (by omega) (by omega)) h1
  have h1 : 9007199254740992 * l ≤ D := by
    refine Nat.le_trans ?_ hD54
    have : (2 : Nat) ^ (54 + l.log2) = 9007199254740992 * 2 ^ (l.log2 + 1) := by
      rw [show 54 + l.log2 = 53 + (l.log2 + 1) by omega, Nat.pow_add]
    rw [this]
    exact Nat.mul_le_mul_left _ (Nat.le_of_lt hl2)
  have hpos : 0 < l := Nat.pos_of_ne_zero hl
  have hqg : 9007199254740992 ≤ q := by rw [hq]; exact (Nat.le_div_iff_mul_le hpos).2 h1
  have hdm := Nat.div_add_mod D l
  have hlt := Nat.mod_lt D hpos
  rw [← hq] at hdm
  have hs : (D % l != 0).toNat ≤ 1 := by cases (D % l != 0) <;> simp
  have hs0 : D % l ≠ 0 → (D % l != 0).toNat = 1 := fun h => by simp [h]
  have hs1 : D % l = 0 → (D % l != 0).toNat = 0 := fun h => by simp [h]
  generalize (D % l != 0).toNat = sk at *
  have e1 : (2 * q + sk) * l = 2 * (l * q) + sk * l := by rw [Nat.add_mul, Nat.mul_assoc, Nat.mul_comm q l]
  have e2 : sk * l ≤ l := by
    rcases Nat.eq_zero_or_pos sk with h | h
    · subst h; omega
    · have : sk = 1 := by omega
      subst this; omega
  refine ⟨h1, log2_ge (by rw [hg]; show 18014398509481984 ≤ _; omega), by rw [hg, e1]; omega, ?_, ?_⟩
  · rw [hg, e1]
    by_cases h : D % l = 0
    · omega
    · have := hs0 h; subst this; omega
  · have hq0 : q ≠ 0 := by omega
    have h2 := Nat.log2_self_le hq0
    have h3 := Nat.log2_self_le hl
    have h4 : q * l ≤ D := by rw [Nat.mul_comm]; omega
    have h5 : 2 ^ q.log2 * 2 ^ l.log2 ≤ q * l := Nat.mul_le_mul h2 h3
    rw [← Nat.pow_add] at h5
    have h6 := Nat.lt_log2_self (n := m)
    have h7 : D < 2 ^ (m.log2 + 1 + more) := by
      rw [hD, Nat.pow_add]; exact Nat.mul_lt_mul_of_pos_right h6 (Nat.two_pow_pos more)
    have := pow_lt_inv (Nat.lt_of_le_of_lt (Nat.le_trans h5 h4) h7)
    omega
theorem near_bound {C mag D l : Nat} (h1 : 9007199254740992 * l ≤ D) (h3 : mag * l ≤ 2 * D + l) (h4 : 2 * D ≤ mag * l + l) (c1 : C * 9007199254740992 ≤ mag * 9007199254740993) (c2 : mag * 9007199254740991 ≤ C * 9007199254740992) :
    C * l * 4503599627370496 ≤ 2 * D * 4503599627370497 ∧ 2 * D * 4503599627370495 ≤ C * l * 4503599627370496 := by
  have a1 : C * l * 9007199254740992 ≤ mag * l * 9007199254740993 := by
    have := Nat.mul_le_mul_right l c1
    rw [Nat.mul_right_comm, Nat.mul_right_comm mag] at this; exact this
  have a2 : mag * l * 9007199254740991 ≤ C * l * 9007199254740992 := by
    have := Nat.mul_le_mul_right l c2
    rw [Nat.mul_right_comm, Nat.mul_right_comm C] at this; exact this
  generalize C * l = X at *
  generalize mag * l = Y at *
  omega

theorem fx_quo_k (p : Nat) (hp : p = 1074) (hu : unit = 2 ^ p) {a b : Nat} {n k : Int} (ha : Fx a (n * (unit : Nat))) (hb : Fx b (k * (unit : Nat))) (hn : n ≠ 0) (hk : k ≠ 0) (hn' : n.natAbs < 9007199254740992) (hk' : k.natAbs < 9007199254740992) :
    ∃ r v, floatBits .quo .f64 a b = some r ∧ Fx r v ∧ v ≠ 0 ∧ decide (v < 0) = (decide (n < 0) ^^ decide (k < 0)) ∧
      v.natAbs * k.natAbs * 4503599627370496 ≤ n.natAbs * unit * 4503599627370497 ∧ n.natAbs * unit * 4503599627370495 ≤ v.natAbs * k.natAbs * 4503599627370496 := by
  obtain ⟨s, m, i, h1, h2, h3⟩ := ha
  obtain ⟨t, l, j, h4, h5, h6⟩ := hb
  have hmlt := read_lt h1
  have hllt := read_lt h4
  obtain ⟨I, hI⟩ : ∃ I : Nat, i = (I : Int) - 1074 := ⟨(i + 1074).toNat, by omega⟩
  obtain ⟨J, hJ⟩ : ∃ J : Nat, j = (J : Int) - 1074 := ⟨(j + 1074).toNat, by omega⟩
  have eI : (i + 1074).toNat = I := by omega
  have eJ : (j + 1074).toNat = J := by omega
  rw [eI] at h3; rw [eJ] at h6
  have hX : m * 2 ^ I = n.natAbs * 2 ^ p := by
    have := signed_abs s m I
    rw [h3, Int.natAbs_mul, Int.natAbs_natCast, hu] at this; exact this.symm
  have hY : l * 2 ^ J = k.natAbs * 2 ^ p := by
    have := signed_abs t l J
    rw [h6, Int.natAbs_mul, Int.natAbs_natCast, hu] at this; exact this.symm
  have hN0 : n.natAbs ≠ 0 := by omega
  have hK0 : k.natAbs ≠ 0 := by omega
  have hm0 : m ≠ 0 := fun e => by
    subst e; rw [Nat.zero_mul] at hX
    rcases Nat.mul_eq_zero.1 hX.symm with h | h
    · exact hN0 h
    · have := Nat.two_pow_pos p; omega
  have hl0 : l ≠ 0 := fun e => by
    subst e; rw [Nat.zero_mul] at hY
    rcases Nat.mul_eq_zero.1 hY.symm with h | h
    · exact hK0 h
    · have := Nat.two_pow_pos p; omega
  have bI := place_bound hp hX hmlt hN0 hn'
  have bJ := place_bound hp hY hllt hK0 hk'
  have ll : l.log2 ≤ 52 := by have := (Nat.log2_lt hl0).2 (show l < 2 ^ 53 from hllt); omega
  have ml : m.log2 ≤ 52 := by have := (Nat.log2_lt hm0).2 (show m < 2 ^ 53 from hmlt); omega
  obtain ⟨more, hmore⟩ : ∃ more, more = 54 + l.log2 - m.log2 := ⟨_, rfl⟩
  obtain ⟨D, hD⟩ : ∃ D, D = m * 2 ^ more := ⟨_, rfl⟩
  obtain ⟨mag, hmag⟩ : ∃ mag, mag = 2 * (D / l) + (D % l != 0).toNat := ⟨_, rfl⟩
  obtain ⟨d1, d2, d3, d4, d5⟩ := quo_digits hl0 hm0 hmore hD rfl hmag
  have hmag0 : mag ≠ 0 := fun e => by subst e; simp at d2
  have hmagl : mag.log2 ≤ 60 := by
    have hq0 : D / l ≠ 0 := fun e => by
      rw [e] at hmag
      have : mag ≤ 1 := by rw [hmag]; cases (D % l != 0) <;> simp
      have := Nat.log2_self_le hmag0
      have h9 : 2 ^ 54 ≤ 2 ^ mag.log2 := Nat.pow_le_pow_right (by omega) d2
      omega
    have h7 := Nat.lt_log2_self (n := D / l)
    have h8 : (D / l).log2 ≤ 56 := by omega
    have h9 : 2 ^ ((D / l).log2 + 1) ≤ 2 ^ 57 := Nat.pow_le_pow_right (by omega) (by omega)
    have h10 : (D % l != 0).toNat ≤ 1 := by cases (D % l != 0) <;> simp
    have : mag < 2 ^ 60 := by omega
    have := (Nat.log2_lt hmag0).2 this
    omega
  have hq : floatBits .quo .f64 a b = some (double.nearest (s ^^ t) mag (i - j - more - 1)) := by
    show ((double.read a).quotient (double.fractionBits + 2) (double.read b)).map double.write = _
    rw [h1, h4]
    have hfb : double.fractionBits = 52 := rfl
    simp only [Datum.quotient, if_neg hl0, Option.map_some, Nat.shiftLeft_eq, hfb]
    rw [show 52 + 2 + l.log2 - m.log2 = more by omega, ← hD, ← hmag]
    rfl
  obtain ⟨c, m', e', r1, r2, r3, r4, r5⟩ := near_val (s ^^ t) mag (i - j - more - 1) hmag0 (by omega) (by omega) (by omega)
  obtain ⟨b1, b2⟩ := near_bound d1 d3 d4 r4 r5
  generalize hC : c * 2 ^ (mag.log2 - 52) = C at *
  obtain ⟨P, hP⟩ : ∃ P : Nat, (i - j - (more : Int) - 1 + 1074).toNat = P := ⟨_, rfl⟩
  rw [hP] at r3
  have hpl : P + J + more + 1 = I + p := by omega
  -- the value
  have hv : (signed (s ^^ t) m' (e' + 1074).toNat).natAbs = C * 2 ^ P := by rw [signed_abs, r3]
  have hC0 : C ≠ 0 := fun e => by
    rw [e] at b2
    have h8 : D ≠ 0 := by rw [hD]; exact Nat.mul_ne_zero hm0 (by have := Nat.two_pow_pos more; omega)
    omega
  have hv0 : signed (s ^^ t) m' (e' + 1074).toNat ≠ 0 := fun e => by
    rw [e, Int.natAbs_zero] at hv
    rcases Nat.mul_eq_zero.1 hv.symm with h | h
    · exact hC0 h
    · have := Nat.two_pow_pos P; omega
  have sx := signed_neg s m I (by rw [h3]; exact Int.mul_ne_zero hn (by have := unit_pos; omega))
  have sy := signed_neg t l J (by rw [h6]; exact Int.mul_ne_zero hk (by have := unit_pos; omega))
  rw [h3] at sx; rw [h6] at sy
  have su : ∀ z : Int, (z * (unit : Nat) < 0) = (z < 0) := fun z => by
    have := unit_lt (a := z) (b := 0)
    rwa [Int.zero_mul] at this
  simp only [su] at sx sy
  refine ⟨_, _, hq, ⟨_, _, _, r1, r2, rfl⟩, hv0, by rw [signed_neg _ _ _ hv0, sx, sy], ?_, ?_⟩
  all_goals rw [hv]
  · have key : C * 2 ^ P * k.natAbs * 2 ^ p = C * l * 2 ^ (P + J) := by
      rw [Nat.mul_assoc (C * 2 ^ P), ← hY, Nat.pow_add]; simp only [Nat.mul_assoc, Nat.mul_left_comm, Nat.mul_comm]
    have key2 : n.natAbs * unit * 2 ^ p = 2 * D * 2 ^ (P + J) := by
      rw [hu, ← hX, hD, Nat.mul_assoc, ← Nat.pow_add, ← hpl, show P + J + more + 1 = 1 + more + (P + J) by omega, Nat.pow_add, Nat.pow_add, Nat.pow_one]
      simp only [Nat.mul_assoc, Nat.mul_left_comm, Nat.mul_comm]
    refine Nat.le_of_mul_le_mul_right (c := 2 ^ p) ?_ (Nat.two_pow_pos p)
    rw [Nat.mul_right_comm, key, Nat.mul_right_comm _ _ (2 ^ p), key2, Nat.mul_right_comm, Nat.mul_right_comm (2 * D)]
    exact Nat.mul_le_mul_right _ b1
  · have key : C * 2 ^ P * k.natAbs * 2 ^ p = C * l * 2 ^ (P + J) := by
      rw [Nat.mul_assoc (C * 2 ^ P), ← hY, Nat.pow_add]; simp only [Nat.mul_assoc, Nat.mul_left_comm, Nat.mul_comm]
    have key2 : n.natAbs * unit * 2 ^ p = 2 * D * 2 ^ (P + J) := by
      rw [hu, ← hX, hD, Nat.mul_assoc, ← Nat.pow_add, ← hpl, show P + J + more + 1 = 1 + more + (P + J) by omega, Nat.pow_add, Nat.pow_add, Nat.pow_one]
      simp only [Nat.mul_assoc, Nat.mul_left_comm, Nat.mul_comm]
    refine Nat.le_of_mul_le_mul_right (c := 2 ^ p) ?_ (Nat.two_pow_pos p)
    rw [Nat.mul_right_comm, key2, Nat.mul_right_comm (C * 2 ^ P * k.natAbs), key, Nat.mul_right_comm (2 * D), Nat.mul_right_comm (C * l)]
    exact Nat.mul_le_mul_right _ b2
theorem fx_quo {a b : Nat} {n k : Int} (ha : Fx a (n * (unit : Nat))) (hb : Fx b (k * (unit : Nat))) (hn : n ≠ 0) (hk : k ≠ 0) (hn' : n.natAbs < 9007199254740992) (hk' : k.natAbs < 9007199254740992) :
    ∃ r v, floatBits .quo .f64 a b = some r ∧ Fx r v ∧ v ≠ 0 ∧ decide (v < 0) = (decide (n < 0) ^^ decide (k < 0)) ∧
      v.natAbs * k.natAbs * 4503599627370496 ≤ n.natAbs * unit * 4503599627370497 ∧ n.natAbs * unit * 4503599627370495 ≤ v.natAbs * k.natAbs * 4503599627370496 := fx_quo_k 1074 rfl unit.eq_1 ha hb hn hk hn' hk'

/-- A rounded quotient of small whole numbers lies between the same whole numbers. -/
theorem quo_between {V N K u : Nat} (hu : 0 < u) (hN : N ≤ 1000000000) (hK : K ≤ 1000000000) (hK0 : 0 < K) (hd : ¬ N % K = 0)
    (h1 : V * K * 4503599627370496 ≤ N * u * 4503599627370497) (h2 : N * u * 4503599627370495 ≤ V * K * 4503599627370496) : N / K * u < V ∧ V < (N / K + 1) * u := by
  have e := Nat.div_add_mod N K
  have hlt := Nat.mod_lt N hK0
  generalize N / K = t at *
  generalize N % K = r at *
  have htK : K * t ≤ 1000000000 := by omega
  constructor
  · refine Nat.lt_of_not_le fun h => ?_
    have h3 : V * K ≤ t * u * K := Nat.mul_le_mul_right _ h
    have h4 : t * u * K = (K * t) * u := by rw [Nat.mul_right_comm, Nat.mul_comm t]
    have h5 : N * u = (K * t) * u + r * u := by rw [← e, Nat.add_mul]
    have h6 : u ≤ r * u := Nat.le_mul_of_pos_left _ (by omega)
    have h7 : (K * t) * u ≤ 1000000000 * u := Nat.mul_le_mul_right _ htK
    generalize (K * t) * u = X at *
    generalize r * u = Y at *
    omega
  · refine Nat.lt_of_not_le fun h => ?_
    have h3 : (t + 1) * u * K ≤ V * K := Nat.mul_le_mul_right _ h
    have h4 : (t + 1) * u * K = (K * t) * u + K * u := by rw [Nat.mul_right_comm, Nat.add_mul, Nat.one_mul, Nat.add_mul, Nat.mul_comm t]
    have h5 : N * u = (K * t) * u + r * u := by rw [← e, Nat.add_mul]
    have h6 : r * u + u ≤ K * u := by
      have : (r + 1) * u ≤ K * u := Nat.mul_le_mul_right _ (by omega)
      rw [Nat.add_mul, Nat.one_mul] at this; exact this
    have h7 : N * u ≤ 1000000000 * u := Nat.mul_le_mul_right _ hN
    generalize (K * t) * u = X at *
    generalize r * u = Y at *
    generalize K * u = Z at *
    generalize N * u = W at *
    omega

/-! The part ahead of the point. -/
theorem and_not (a b k : Nat) (ha : a < 2 ^ 64) (hb : b = 2 ^ k - 1) (hk : k ≤ 64) : (BitVec.ofNat 64 a &&& ~~~ BitVec.ofNat 64 b).toNat = a / 2 ^ k * 2 ^ k := by
  subst hb
  apply Nat.eq_of_testBit_eq
  intro i
  rw [Nat.testBit_mul_two_pow, Nat.testBit_div_two_pow]
  rw [BitVec.toNat_and, BitVec.toNat_not, Nat.testBit_and]
  rw [BitVec.toNat_ofNat, BitVec.toNat_ofNat, Nat.mod_eq_of_lt ha]
  have hlt : 2 ^ k - 1 < 2 ^ 64 := by
    have h1 : 2 ^ k ≤ 2 ^ 64 := Nat.pow_le_pow_right (by omega) hk
    have := Nat.two_pow_pos k
    omega
  rw [Nat.mod_eq_of_lt hlt, show 2 ^ 64 - 1 - (2 ^ k - 1) = 2 ^ 64 - ((2 ^ k - 1) + 1) from by rw [Nat.sub_sub, Nat.add_comm 1], Nat.testBit_two_pow_sub_succ hlt, Nat.testBit_two_pow_sub_one]
  by_cases hi : i < 64
  · by_cases hik : i < k
    · simp [hi, hik]; omega
    · simp [hi, hik, Nat.not_lt.1 hik, show i - k + k = i by omega]
  · have : a.testBit i = false := Nat.testBit_lt_two_pow (Nat.lt_of_lt_of_le ha (Nat.pow_le_pow_right (by omega) (by omega)))
    by_cases hik : i < k
    · omega
    · simp [hi, this, show i - k + k = i by omega]
end Go.Abs
