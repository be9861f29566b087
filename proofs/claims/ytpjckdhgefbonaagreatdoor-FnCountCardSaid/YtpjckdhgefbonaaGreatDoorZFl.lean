/- Walks of the functions, printed by program, and the logic behind them: each theorem says what one function or one step answers. -/
import Derived.Test.YtpjckdhgefbonaaGreatDoorZDoor
namespace Go.Abs
set_option linter.unusedVariables false
set_option linter.unusedSimpArgs false
open Ieee

theorem signed_not {s : Bool} {m up : Nat} : signed (!s) m up = - signed s m up := by
  rw [sgn_val, sgn_val]; cases s <;> simp

theorem sum_fv {s t : Bool} {m n : Nat} {i j : Int} (hi : -1074 ≤ i) (hj : -1074 ≤ j) {x y : Int} (hx : signed s m (i + 1074).toNat = x) (hy : signed t n (j + 1074).toNat = y) (hr : Rp (x + y)) :
    ∃ d, Datum.sum (.number s m i) (.number t n j) = some d ∧ Fx (double.write d) (x + y) := by
  refine ⟨_, rfl, ?_⟩
  obtain ⟨c, hc⟩ : ∃ c : Nat, min i j = -1074 + c := ⟨(min i j + 1074).toNat, by omega⟩
  have e1 : (i + 1074).toNat = (i - min i j).toNat + c := by omega
  have e2 : (j + 1074).toNat = (j - min i j).toNat + c := by omega
  rw [e1, signed_up] at hx; rw [e2, signed_up] at hy
  generalize hX : signed s m (i - min i j).toNat = X at *
  generalize hY : signed t n (j - min i j).toNat = Y at *
  have hp : (0 : Int) < (2 ^ c : Nat) := by exact_mod_cast Nat.two_pow_pos c
  have hs : x + y = (X + Y) * (2 ^ c : Nat) := by rw [← hx, ← hy, Int.add_mul]
  have hab : (x + y).natAbs = (X + Y).natAbs * 2 ^ c := by rw [hs, Int.natAbs_mul, Int.natAbs_natCast]
  refine write_fv _ _ _ _ (fun h => ⟨0, by omega, ?_⟩) (fun h => ?_) (fun h => ?_) hr
  · have : c = 0 := by omega
    subst this
    rw [hab]; simp
  · rw [hab]; congr 2; omega
  · have h0 : X + Y ≠ 0 := fun e => by rw [hs, e] at h; simp at h
    simp only [hX, hY, if_neg h0]
    have : (x + y < 0) = (X + Y < 0) := by
      rw [hs]
      apply propext
      constructor
      · intro h1
        rcases Int.lt_or_le (X + Y) 0 with h2 | h2
        · exact h2
        · have := Int.mul_nonneg h2 (Int.le_of_lt hp); omega
      · intro h1; exact Int.mul_neg_of_neg_of_pos h1 hp
    simp only [this]

theorem fx_add {a b : Nat} {x y : Int} (ha : Fx a x) (hb : Fx b y) (hr : Rp (x + y)) : ∃ r, floatBits .add .f64 a b = some r ∧ Fx r (x + y) := by
  obtain ⟨s, m, i, h1, h2, h3⟩ := ha
  obtain ⟨t, n, j, h4, h5, h6⟩ := hb
  obtain ⟨d, h7, h8⟩ := sum_fv h2 h5 h3 h6 hr
  refine ⟨_, ?_, h8⟩
  show ((double.read a).sum (double.read b)).map double.write = _
  rw [h1, h4, h7]; rfl
theorem fx_sub {a b : Nat} {x y : Int} (ha : Fx a x) (hb : Fx b y) (hr : Rp (x - y)) : ∃ r, floatBits .sub .f64 a b = some r ∧ Fx r (x - y) := by
  obtain ⟨s, m, i, h1, h2, h3⟩ := ha
  obtain ⟨t, n, j, h4, h5, h6⟩ := hb
  have e : x - y = x + -y := by omega
  rw [e] at hr ⊢
  obtain ⟨d, h7, h8⟩ := sum_fv h2 h5 h3 (by rw [signed_not, h6]) hr
  refine ⟨_, ?_, h8⟩
  show ((double.read a).sum (double.read b).opposite).map double.write = _
  rw [h1, h4]
  show (Datum.sum (.number s m i) (.number (!t) n j)).map double.write = _
  rw [h7]; rfl
theorem sign_mul {x y z : Int} {u : Nat} (hu : 0 < (u : Int)) (h : x * y = z * u) (hx : x ≠ 0) (hy : y ≠ 0) : decide (z < 0) = (decide (x < 0) ^^ decide (y < 0)) := by
  rcases Int.lt_or_le x 0 with hx' | hx' <;> rcases Int.lt_or_le y 0 with hy' | hy'
  · have h1 : 0 < x * y := Int.mul_pos_of_neg_of_neg hx' hy'
    have : ¬ z < 0 := fun hzz => by have := Int.mul_neg_of_neg_of_pos hzz hu; omega
    simp [hx', hy', this]
  · have h1 : x * y < 0 := Int.mul_neg_of_neg_of_pos hx' (by omega)
    have : z < 0 := by
      rcases Int.lt_or_le z 0 with h2 | h2
      · exact h2
      · have := Int.mul_nonneg h2 (Int.le_of_lt hu); omega
    simp [hx', Int.not_lt.2 hy', this]
  · have h1 : x * y < 0 := Int.mul_neg_of_pos_of_neg (by omega) hy'
    have : z < 0 := by
      rcases Int.lt_or_le z 0 with h2 | h2
      · exact h2
      · have := Int.mul_nonneg h2 (Int.le_of_lt hu); omega
    simp [Int.not_lt.2 hx', hy', this]
  · have h1 : 0 < x * y := Int.mul_pos (by omega) (by omega)
    have : ¬ z < 0 := fun hzz => by have := Int.mul_neg_of_neg_of_pos hzz hu; omega
    simp [Int.not_lt.2 hx', Int.not_lt.2 hy', this]
theorem mul_lo {i j : Int} {I J k : Nat} (hI : i = (I : Int) - 1074) (hJ : j = (J : Int) - 1074) (hk : k = 1074) (h : i + j ≤ -1074) : k - (I + J) + (I + J) = k ∧ i + j = -1074 - ((k - (I + J) : Nat) : Int) := by omega
theorem mul_hi {i j : Int} {I J k : Nat} (hI : i = (I : Int) - 1074) (hJ : j = (J : Int) - 1074) (hk : k = 1074) (h : -1074 ≤ i + j) : I + J - k + k = I + J ∧ (i + j + 1074).toNat = I + J - k := by omega
theorem fx_mul_k (k : Nat) (hk : k = 1074) (hu : unit = 2 ^ k) {a b : Nat} {x y z : Int} (ha : Fx a x) (hb : Fx b y) (hz : x * y = z * (unit : Nat)) (hr : Rp z) : ∃ r, floatBits .mul .f64 a b = some r ∧ Fx r z := by
  obtain ⟨s, m, i, h1, h2, h3⟩ := ha
  obtain ⟨t, n, j, h4, h5, h6⟩ := hb
  have hq : floatBits .mul .f64 a b = some (double.write (.number (s ^^ t) (m * n) (i + j))) := by
    show ((double.read a).product (double.read b)).map double.write = _
    rw [h1, h4]; rfl
  refine ⟨_, hq, ?_⟩
  obtain ⟨I, hI⟩ : ∃ I : Nat, i = (I : Int) - 1074 := ⟨(i + 1074).toNat, by omega⟩
  obtain ⟨J, hJ⟩ : ∃ J : Nat, j = (J : Int) - 1074 := ⟨(j + 1074).toNat, by omega⟩
  have eI : (i + 1074).toNat = I := by omega
  have eJ : (j + 1074).toNat = J := by omega
  rw [eI] at h3; rw [eJ] at h6
  have hX : x.natAbs = m * 2 ^ I := by rw [← h3, signed_abs]
  have hY : y.natAbs = n * 2 ^ J := by rw [← h6, signed_abs]
  have hZ : m * n * 2 ^ (I + J) = z.natAbs * 2 ^ k := by
    have := congrArg Int.natAbs hz
    rw [Int.natAbs_mul, Int.natAbs_mul, Int.natAbs_natCast, hX, hY, hu] at this
    rw [← this, Nat.pow_add]; simp only [Nat.mul_assoc, Nat.mul_left_comm, Nat.mul_comm]
  refine write_fv _ _ _ _ (fun h => ⟨k - (I + J), (mul_lo hI hJ hk h).2, ?_⟩) (fun h => ?_) (fun h => ?_) hr
  · have : m * n = z.natAbs * 2 ^ (k - (I + J)) := by
      have h' : (m * n) * 2 ^ (I + J) = (z.natAbs * 2 ^ (k - (I + J))) * 2 ^ (I + J) := by rw [hZ, Nat.mul_assoc, ← Nat.pow_add, (mul_lo hI hJ hk h).1]
      exact Nat.eq_of_mul_eq_mul_right (Nat.two_pow_pos _) h'
    rw [this]
  · have h' : (m * n * 2 ^ (I + J - k)) * 2 ^ k = z.natAbs * 2 ^ k := by rw [← hZ, Nat.mul_assoc, ← Nat.pow_add, (mul_hi hI hJ hk h).1]
    have := Nat.eq_of_mul_eq_mul_right (Nat.two_pow_pos k) h'
    rw [← this, (mul_hi hI hJ hk h).2]
  · have hx0 : x ≠ 0 := fun e => by
      rw [e, Int.zero_mul] at hz
      rcases Int.mul_eq_zero.1 hz.symm with h1 | h1
      · exact h h1
      · have := unit_pos; omega
    have hy0 : y ≠ 0 := fun e => by
      rw [e, Int.mul_zero] at hz
      rcases Int.mul_eq_zero.1 hz.symm with h1 | h1
      · exact h h1
      · have := unit_pos; omega
    have sx := signed_neg s m I (by rw [h3]; exact hx0)
    have sy := signed_neg t n J (by rw [h6]; exact hy0)
    rw [h3] at sx; rw [h6] at sy
    rw [← sx, ← sy]
    exact (sign_mul unit_pos hz hx0 hy0).symm
theorem fx_mul {a b : Nat} {x y z : Int} (ha : Fx a x) (hb : Fx b y) (hz : x * y = z * (unit : Nat)) (hr : Rp z) : ∃ r, floatBits .mul .f64 a b = some r ∧ Fx r z := fx_mul_k 1074 rfl unit.eq_1 ha hb hz hr

/-! Numbers of k places behind the point. -/
/-- n / 2 ^ k. -/
def Fy (k : Nat) (b : Nat) (n : Int) : Prop := ∃ v, Fx b v ∧ v * (2 ^ k : Nat) = n * (unit : Nat)
theorem unit_pow {k p : Nat} (hp : p = 1074) (hk : k ≤ p) : (unit : Int) = (2 ^ (p - k) : Nat) * (2 ^ k : Nat) := by
  have : unit = 2 ^ (p - k) * 2 ^ k := by rw [← Nat.pow_add, Nat.sub_add_cancel hk, hp]; rfl
  rw [this]; exact Int.natCast_mul _ _
theorem pow_ne (k : Nat) : ((2 ^ k : Nat) : Int) ≠ 0 := by have := Nat.two_pow_pos k; omega
theorem pow_pos' (k : Nat) : (0 : Int) < ((2 ^ k : Nat) : Int) := by have := Nat.two_pow_pos k; omega
theorem Fy.val {k b p : Nat} {n : Int} (hp : p = 1074) (hk : k ≤ p) (h : Fy k b n) : Fx b (n * (2 ^ (p - k) : Nat)) := by
  obtain ⟨v, h1, h2⟩ := h
  have : v = n * (2 ^ (p - k) : Nat) := by
    rw [unit_pow hp hk, ← Int.mul_assoc] at h2
    exact Int.eq_of_mul_eq_mul_right (pow_ne k) h2
  rw [← this]; exact h1
theorem Fy.mk {k b p : Nat} {n : Int} (hp : p = 1074) (hk : k ≤ p) (h : Fx b (n * (2 ^ (p - k) : Nat))) : Fy k b n := ⟨_, h, by rw [unit_pow hp hk, Int.mul_assoc]⟩
theorem rp_of {k p : Nat} {n : Int} (hp : p = 1074) (hk : k ≤ p) (hn : n.natAbs < 2 ^ 53) : Rp (n * (2 ^ (p - k) : Nat)) :=
  ⟨n.natAbs, p - k, by rw [Int.natAbs_mul, Int.natAbs_natCast], hn, fun h0 => by have := (Nat.log2_lt h0).2 hn; omega⟩
theorem Fy.add {k a b : Nat} {n m : Int} (hk : k ≤ 1074) (ha : Fy k a n) (hb : Fy k b m) (hs : (n + m).natAbs < 2 ^ 53) : ∃ r, floatBits .add .f64 a b = some r ∧ Fy k r (n + m) := by
  generalize hp : (1074 : Nat) = p at *
  have ha' := ha.val hp.symm hk
  have hb' := hb.val hp.symm hk
  obtain ⟨r, h1, h2⟩ := fx_add ha' hb' (by rw [← Int.add_mul]; exact rp_of hp.symm hk hs)
  exact ⟨r, h1, Fy.mk hp.symm hk (by rw [Int.add_mul]; exact h2)⟩
theorem Fy.sub {k a b : Nat} {n m : Int} (hk : k ≤ 1074) (ha : Fy k a n) (hb : Fy k b m) (hs : (n - m).natAbs < 2 ^ 53) : ∃ r, floatBits .sub .f64 a b = some r ∧ Fy k r (n - m) := by
  generalize hp : (1074 : Nat) = p at *
  have ha' := ha.val hp.symm hk
  have hb' := hb.val hp.symm hk
  obtain ⟨r, h1, h2⟩ := fx_sub ha' hb' (by rw [← Int.sub_mul]; exact rp_of hp.symm hk hs)
  exact ⟨r, h1, Fy.mk hp.symm hk (by rw [Int.sub_mul]; exact h2)⟩
theorem Fy.mul {k l a b : Nat} {n m : Int} (hk : k + l ≤ 1074) (ha : Fy k a n) (hb : Fy l b m) (hs : (n * m).natAbs < 2 ^ 53) : ∃ r, floatBits .mul .f64 a b = some r ∧ Fy (k + l) r (n * m) := by
  generalize hp : (1074 : Nat) = p at *
  have ha' := ha.val hp.symm (by omega)
  have hb' := hb.val hp.symm (by omega)
  obtain ⟨r, h1, h2⟩ := fx_mul ha' hb' (z := n * m * (2 ^ (p - (k + l)) : Nat)) (by
    rw [unit_pow hp.symm (Nat.le_refl p)]
    have e : ((2 ^ (p - k) : Nat) : Int) * (2 ^ (p - l) : Nat) = (2 ^ (p - (k + l)) : Nat) * ((2 ^ (p - p) : Nat) * (2 ^ p : Nat)) := by
      rw [← Int.natCast_mul, ← Int.natCast_mul, ← Int.natCast_mul]
      congr 1
      rw [← Nat.pow_add, ← Nat.pow_add, ← Nat.pow_add]
      congr 1; omega
    rw [Int.mul_assoc, Int.mul_assoc, ← e]
    simp only [Int.mul_assoc, Int.mul_left_comm]) (rp_of hp.symm hk hs)
  exact ⟨r, h1, Fy.mk hp.symm hk h2⟩
theorem Fy.up {k b : Nat} {n : Int} (h : Fy k b n) (j : Nat) : Fy (k + j) b (n * (2 ^ j : Nat)) := by
  obtain ⟨v, h1, h2⟩ := h
  refine ⟨v, h1, ?_⟩
  rw [Nat.pow_add, Int.natCast_mul, ← Int.mul_assoc, h2, Int.mul_assoc, Int.mul_comm (unit : Int), ← Int.mul_assoc]
theorem Fy.down {k b j : Nat} {n : Int} (h : Fy (k + j) b (n * (2 ^ j : Nat))) : Fy k b n := by
  obtain ⟨v, h1, h2⟩ := h
  refine ⟨v, h1, ?_⟩
  rw [Nat.pow_add, Int.natCast_mul, ← Int.mul_assoc, Int.mul_assoc n, Int.mul_comm ((2 ^ j : Nat) : Int), ← Int.mul_assoc] at h2
  exact Int.eq_of_mul_eq_mul_right (pow_ne j) h2
theorem Fy.whole {b : Nat} {n : Int} (h : Fy 0 b n) : Fx b (n * (unit : Nat)) := by
  obtain ⟨v, h1, h2⟩ := h
  rw [show ((2 ^ 0 : Nat) : Int) = 1 from rfl, Int.mul_one] at h2
  rw [← h2]; exact h1
theorem Fy.of {b : Nat} {n : Int} (h : Fx b (n * (unit : Nat))) : Fy 0 b n := ⟨_, h, by rw [show ((2 ^ 0 : Nat) : Int) = 1 from rfl, Int.mul_one]⟩
/-- A quotient that is exact: n / 2 ^ k over m / 2 ^ l is q / 2 ^ j. -/
theorem Fy.div {k l j a b : Nat} {n m q : Int} (hk : k ≤ 1074) (hl : l ≤ 1074) (hj : j ≤ 1074) (ha : Fy k a n) (hb : Fy l b m) (hm : m ≠ 0) (hq : n * (2 ^ l : Nat) * (2 ^ j : Nat) = q * m * (2 ^ k : Nat)) (hs : q.natAbs < 2 ^ 53) : ∃ r, floatBits .quo .f64 a b = some r ∧ Fy j r q := by
  generalize hp : (1074 : Nat) = p at *
  have ha' := ha.val hp.symm hk
  have hb' := hb.val hp.symm hl
  obtain ⟨r, h1, h2⟩ := fx_div ha' hb' (z := q * (2 ^ (p - j) : Nat)) (Int.mul_ne_zero hm (pow_ne _)) (by
    have e0 : (unit : Int) = (2 ^ p : Nat) := by rw [unit_pow hp.symm (Nat.le_refl p)]; simp
    rw [e0]
    refine Int.eq_of_mul_eq_mul_right (Int.mul_ne_zero (Int.mul_ne_zero (pow_ne k) (pow_ne l)) (pow_ne j)) ?_
    have e1 : ((2 ^ (p - k) : Nat) : Int) * (2 ^ k : Nat) = (2 ^ p : Nat) := by rw [← Int.natCast_mul, ← Nat.pow_add, Nat.sub_add_cancel hk]
    have e2 : ((2 ^ (p - l) : Nat) : Int) * (2 ^ l : Nat) = (2 ^ p : Nat) := by rw [← Int.natCast_mul, ← Nat.pow_add, Nat.sub_add_cancel hl]
    have e3 : ((2 ^ (p - j) : Nat) : Int) * (2 ^ j : Nat) = (2 ^ p : Nat) := by rw [← Int.natCast_mul, ← Nat.pow_add, Nat.sub_add_cancel hj]
    generalize ((2 ^ (p - k) : Nat) : Int) = A at *
    generalize ((2 ^ (p - l) : Nat) : Int) = B at *
    generalize ((2 ^ (p - j) : Nat) : Int) = C at *
    generalize ((2 ^ k : Nat) : Int) = K at *
    generalize ((2 ^ l : Nat) : Int) = L at *
    generalize ((2 ^ j : Nat) : Int) = J at *
    generalize ((2 ^ p : Nat) : Int) = W at *
    calc n * A * W * (K * L * J) = (n * L * J) * ((A * K) * W) := by simp only [Int.mul_assoc, Int.mul_left_comm, Int.mul_comm]
      _ = (q * m * K) * (W * W) := by rw [hq, e1]
      _ = (q * m * K) * ((C * J) * (B * L)) := by rw [e3, e2]
      _ = q * C * (m * B) * (K * L * J) := by simp only [Int.mul_assoc, Int.mul_left_comm, Int.mul_comm]) (rp_of hp.symm hj hs)
  exact ⟨r, h1, Fy.mk hp.symm hj h2⟩
theorem Fy.cmp {k a b : Nat} {n m : Int} (ha : Fy k a n) (hb : Fy k b m) : fcmp .eql .f64 a b = decide (n = m) ∧ fcmp .lss .f64 a b = decide (n < m) ∧ fcmp .leq .f64 a b = decide (n ≤ m) ∧ fcmp .gtr .f64 a b = decide (m < n) ∧ fcmp .geq .f64 a b = decide (m ≤ n) := by
  obtain ⟨x, h1, h2⟩ := ha
  obtain ⟨y, h3, h4⟩ := hb
  have hu := unit_pos
  have hk := pow_pos' k
  have lt : ∀ {x y n m : Int}, x * (2 ^ k : Nat) = n * (unit : Nat) → y * (2 ^ k : Nat) = m * (unit : Nat) → (x < y ↔ n < m) := fun {x y n m} h2 h4 => by
    constructor
    · intro h
      have := Int.mul_lt_mul_of_pos_right h hk
      rw [h2, h4] at this
      exact Int.lt_of_mul_lt_mul_right this (Int.le_of_lt hu)
    · intro h
      have := Int.mul_lt_mul_of_pos_right h hu
      rw [← h2, ← h4] at this
      exact Int.lt_of_mul_lt_mul_right this (Int.le_of_lt hk)
  have l1 := lt h2 h4
  have l2 := lt h4 h2
  obtain ⟨c1, c2, c3, c4⟩ := fcmp_lt h1 h3
  refine ⟨?_, ?_, ?_, ?_, ?_⟩
  · rw [fcmp_eq h1 h3]; apply decide_eq_decide.2; omega
  · rw [c1]; apply decide_eq_decide.2; omega
  · rw [c2]; apply decide_eq_decide.2; omega
  · rw [c3]; apply decide_eq_decide.2; omega
  · rw [c4]; apply decide_eq_decide.2; omega
theorem Fy.zero {k : Nat} : Fy k 0 0 := ⟨0, fx_zero, by simp⟩
theorem Fy.clean {k b : Nat} {n : Int} (h : Fy k b n) : Fy k (clean b) n := by
  obtain ⟨v, h1, h2⟩ := h; exact ⟨v, fx_clean h1, h2⟩
theorem Fy.nearest {n : Int} (h : n.natAbs < 2 ^ 53) : Fy 0 (FloatKind.f64.nearest n) n := Fy.of (fv_nearest h)
theorem Fy.inj {k b : Nat} {n m : Int} (h : Fy k b n) (h' : Fy k b m) : n = m := by
  have := (Fy.cmp h h').1
  have h2 := (Fy.cmp h h).1
  rw [h2] at this; simpa using this.symm
theorem opp_word (b : Nat) : (b ^^^ 2 ^ 63) % 2 ^ 63 = b % 2 ^ 63 ∧ (b ^^^ 2 ^ 63) / 2 ^ 63 % 2 = 1 - b / 2 ^ 63 % 2 := by
  constructor
  · rw [Nat.xor_mod_two_pow]; simp
  · rw [← Nat.shiftRight_eq_div_pow, ← Nat.shiftRight_eq_div_pow, Nat.shiftRight_xor_distrib]
    have : (2 ^ 63 >>> 63 : Nat) = 1 := by decide
    rw [this]
    generalize b >>> 63 = c
    have h1 : (c ^^^ 1) % 2 = (c % 2) ^^^ (1 % 2) := Nat.xor_mod_two_pow (n := 1)
    rw [h1]
    rcases Nat.mod_two_eq_zero_or_one c with h | h <;> rw [h] <;> rfl
/-- The opposite number. -/
theorem read_opp (b : Nat) : double.read (Op.negFloat .f64 b) = (double.read b).opposite := by
  obtain ⟨h1, h2⟩ := opp_word b
  show double.read (b ^^^ 2 ^ 63) = _
  have e : double.signWeight = 2 ^ 63 := rfl
  have hs : ((b ^^^ 2 ^ 63) / 2 ^ 63 % 2 == 1) = !(b / 2 ^ 63 % 2 == 1) := by
    rw [h2]
    rcases Nat.mod_two_eq_zero_or_one (b / 2 ^ 63) with h | h <;> rw [h] <;> rfl
  unfold Format.read
  rw [e]
  simp only [h1, hs]
  split
  · rfl
  · split
    · rfl
    · split
      · rfl
      · rfl
theorem fx_opp {b : Nat} {x : Int} (h : Fx b x) : Fx (Op.negFloat .f64 b) (-x) := by
  obtain ⟨s, m, e, h1, h2, h3⟩ := h
  exact ⟨!s, m, e, by rw [read_opp, h1]; rfl, h2, by rw [signed_not, h3]⟩
theorem Fy.opp {k b : Nat} {n : Int} (h : Fy k b n) : Fy k (Op.negFloat .f64 b) (-n) := by
  obtain ⟨v, h1, h2⟩ := h
  exact ⟨-v, fx_opp h1, by rw [Int.neg_mul, Int.neg_mul, h2]⟩

/-! Words by their parts. -/
/-- A word's sign and magnitude in units. -/
theorem word_val (s : Bool) (la : Int) (q : Nat) (h1 : -1074 ≤ la) (h2 : la ≤ 970) (h3 : q ≤ 9007199254740992) (h4 : la ≠ -1074 → 4503599627370496 ≤ q) :
    ∃ m' e', double.read (double.word s ((la + 1074).toNat * 4503599627370496 + q)) = .number s m' e' ∧ -1074 ≤ e' ∧ m' * 2 ^ (e' + 1074).toNat = q * 2 ^ (la + 1074).toNat := by
  rw [read_word s _ (by omega)]
  by_cases hc : la = -1074
  · subst hc
    simp only [show ((-1074 : Int) + 1074).toNat = 0 from rfl, Nat.zero_mul, Nat.zero_add, Nat.pow_zero, Nat.mul_one]
    by_cases hs : q < 4503599627370496
    · rw [if_pos hs]; exact ⟨q, -1074, rfl, by omega, by simp⟩
    · rw [if_neg hs]
      refine ⟨_, _, rfl, by omega, ?_⟩
      by_cases hq : q = 9007199254740992
      · subst hq; rfl
      · have : q / 4503599627370496 = 1 := by omega
        rw [this]
        simp
        omega
  · have hge := h4 hc
    have hpos : 0 < (la + 1074).toNat := by omega
    rw [if_neg (by omega)]
    refine ⟨_, _, rfl, by omega, ?_⟩
    by_cases hq : q = 9007199254740992
    · subst hq
      have e1 : ((la + 1074).toNat * 4503599627370496 + 9007199254740992) % 4503599627370496 = 0 := by omega
      have e2 : ((la + 1074).toNat * 4503599627370496 + 9007199254740992) / 4503599627370496 = (la + 1074).toNat + 2 := by omega
      rw [e1, e2, show ((-1074 : Int) + ((la + 1074).toNat + 2 - 1 : Nat) + 1074).toNat = (la + 1074).toNat + 1 by omega, Nat.pow_succ]
      omega
    · have e1 : ((la + 1074).toNat * 4503599627370496 + q) % 4503599627370496 = q - 4503599627370496 := by omega
      have e2 : ((la + 1074).toNat * 4503599627370496 + q) / 4503599627370496 = (la + 1074).toNat + 1 := by omega
      rw [e1, e2, show 4503599627370496 + (q - 4503599627370496) = q by omega]
      congr 2
      omega
/-- What even rounding keeps. -/
theorem even_near (neg : Bool) (n d : Nat) (hd : d ≤ n.log2 + 2) : ∃ c, Toward.even.cut neg n d = c ∧ c * 2 ^ d ≤ n + 2 ^ d / 2 ∧ n ≤ c * 2 ^ d + 2 ^ d / 2 ∧ (∀ M, n < M * 2 ^ d → c ≤ M) ∧ (∀ M, M * 2 ^ d ≤ n → M ≤ c) := by
  refine ⟨_, rfl, ?_⟩
  unfold Toward.cut
  rw [Nat.min_eq_left hd]
  simp only [Nat.shiftLeft_eq, Nat.one_mul]
  have hg : 0 < 2 ^ d := Nat.two_pow_pos d
  generalize 2 ^ d = g at *
  have h1 := Nat.div_add_mod n g
  have h2 := Nat.mod_lt n hg
  have e0 : (n / g) * g = g * (n / g) := Nat.mul_comm _ _
  have e1 : (n / g + 1) * g = g * (n / g) + g := by rw [Nat.add_mul, Nat.one_mul, e0]
  have up : ∀ M, n < M * g → n / g + 1 ≤ M := fun M h => (Nat.div_lt_iff_lt_mul hg).2 h
  have dn : ∀ M, M * g ≤ n → M ≤ n / g := fun M h => (Nat.le_div_iff_mul_le hg).2 h
  generalize hL : n / g = L at *
  generalize hR : n % g = R at *
  by_cases hm : (decide (g < 2 * R) || (g == 2 * R && L % 2 == 1)) = true
  · rw [hm]
    have : g ≤ 2 * R := by
      simp only [Bool.or_eq_true, Bool.and_eq_true, decide_eq_true_eq, beq_iff_eq] at hm
      omega
    simp only [Bool.toNat_true]
    exact ⟨by omega, by omega, up, fun M h => by have := dn M h; omega⟩
  · have hm' : (decide (g < 2 * R) || (g == 2 * R && L % 2 == 1)) = false := by simpa using hm
    rw [hm']
    have : 2 * R ≤ g := by
      simp only [Bool.or_eq_false_iff, decide_eq_false_iff_not] at hm'
      omega
    simp only [Bool.toNat_false, Nat.add_zero]
    exact ⟨by omega, by omega, fun M h => by have := up M h; omega, fun M h => dn M h⟩
theorem near_arith {c g mag : Nat} (h1 : c * g ≤ mag + g / 2) (h2 : mag ≤ c * g + g / 2) (h : 4503599627370496 * g ≤ mag) : c * g * 9007199254740992 ≤ mag * 9007199254740993 ∧ mag * 9007199254740991 ≤ c * g * 9007199254740992 := by
  generalize c * g = x at *
  omega
/-- A number of more than 52 digits, rounded: within half of the last place. -/
theorem near_val (s : Bool) (mag : Nat) (place : Int) (hm : mag ≠ 0) (hl : 52 ≤ mag.log2) (hp : -1074 ≤ place) (ht : place + mag.log2 ≤ 1000) :
    ∃ c m' e', double.read (double.nearest s mag place) = .number s m' e' ∧ -1074 ≤ e' ∧ m' * 2 ^ (e' + 1074).toNat = c * 2 ^ (mag.log2 - 52) * 2 ^ (place + 1074).toNat ∧
      c * 2 ^ (mag.log2 - 52) * 9007199254740992 ≤ mag * 9007199254740993 ∧ mag * 9007199254740991 ≤ c * 2 ^ (mag.log2 - 52) * 9007199254740992 := by
  obtain ⟨d, hd⟩ : ∃ d, mag.log2 = 52 + d := ⟨mag.log2 - 52, by omega⟩
  have hdd : mag.log2 - 52 = d := by omega
  have hlast : max (place + (mag.log2 : Nat) - (52 : Nat)) (-1074) = place + d := by omega
  obtain ⟨c, hc, h1, h2, h3, h4⟩ := even_near s mag d (by omega)
  have hlo := Nat.log2_self_le hm
  have hhi := Nat.lt_log2_self (n := mag)
  rw [hd] at hlo hhi
  have p1 : (2 : Nat) ^ (52 + d) = 4503599627370496 * 2 ^ d := by rw [Nat.pow_add]
  have p2 : (2 : Nat) ^ (52 + d + 1) = 9007199254740992 * 2 ^ d := by rw [show 52 + d + 1 = 53 + d by omega, Nat.pow_add]
  rw [p1] at hlo; rw [p2] at hhi
  have hc1 : c ≤ 9007199254740992 := h3 _ hhi
  have hc2 : 4503599627370496 ≤ c := h4 _ hlo
  have hw : double.nearest s mag place = double.word s ((place + d + 1074).toNat * 4503599627370496 + c) := by
    unfold Format.nearest
    rw [if_neg hm]
    have hfb : double.fractionBits = 52 := rfl
    dsimp only
    rw [hfb, lp, hlast, infr, bin, show place + (d : Int) - (-1074) = place + d + 1074 by omega, show (place - (place + (d : Int))).toNat = 0 by omega, Nat.shiftLeft_zero, show (place + (d : Int) - place).toNat = d by omega, hc]
    rw [Nat.min_eq_left (by omega)]
  obtain ⟨m', e', r1, r2, r3⟩ := word_val s (place + d) c (by omega) (by omega) hc1 (fun _ => hc2)
  refine ⟨c, m', e', by rw [hw]; exact r1, r2, ?_, ?_, ?_⟩
  · rw [r3, hdd, Nat.mul_assoc, ← Nat.pow_add]; congr 2; omega
  · rw [hdd]; exact (near_arith h1 h2 hlo).1
  · rw [hdd]; exact (near_arith h1 h2 hlo).2
end Go.Abs
namespace Go.Abs
set_option linter.unusedVariables false
set_option linter.unusedSimpArgs false
open Ieee

theorem read_lt {w : Nat} {s : Bool} {m : Nat} {e : Int} (h : double.read w = .number s m e) : m < 9007199254740992 := by
  unfold Format.read at h
  simp only [bin, infr] at h
  split at h
  · cases h; omega
  · split at h
    · cases h; omega
    · split at h <;> cases h
theorem log2_ge {n k : Nat} (h : 2 ^ k ≤ n) : k ≤ n.log2 := (Nat.le_log2 (by have := Nat.two_pow_pos k; omega)).2 h
theorem pow_lt_inv {a b : Nat} (h : 2 ^ a < 2 ^ b) : a < b := (Nat.pow_lt_pow_iff_right (by omega)).1 h

/-- m * 2 ^ I units of 2 ^ -1074 for a whole number that has at most 53 digits. -/
theorem place_bound {p m I N : Nat} (hp : p = 1074) (h : m * 2 ^ I = N * 2 ^ p) (hm : m < 9007199254740992) (hN : N ≠ 0) (hN' : N < 9007199254740992) : 1021 < I + 1 ∧ I < 1074 + 53 := by
  have hm0 : m ≠ 0 := fun e => by
    subst e
    rw [Nat.zero_mul] at h
    rcases Nat.mul_eq_zero.1 h.symm with h | h
    · exact hN h
    · have := Nat.two_pow_pos p; omega
  have e53 : (9007199254740992 : Nat) = 2 ^ 53 := by decide
  constructor
  · have h1 : 2 ^ p < 2 ^ (53 + I) := by
      rw [Nat.pow_add]
      have h2 : 2 ^ p ≤ N * 2 ^ p := Nat.le_mul_of_pos_left _ (by omega)
      have h3 : m * 2 ^ I < 2 ^ 53 * 2 ^ I := Nat.mul_lt_mul_of_pos_right (by omega) (Nat.two_pow_pos I)
      omega
    have := pow_lt_inv h1
    omega
  · have h1 : 2 ^ I < 2 ^ (53 + p) := by
      rw [Nat.pow_add]
      have h2 : 2 ^ I ≤ m * 2 ^ I := Nat.le_mul_of_pos_left _ (by omega)
      have h3 : N * 2 ^ p < 2 ^ 53 * 2 ^ p := Nat.mul_lt_mul_of_pos_right (by omega) (Nat.two_pow_pos p)
      omega
    have := pow_lt_inv h1
    omega

/-- The digits of a quotient, and one that tells of a rest. -/
theorem quo_digits {m l more D q mag : Nat} (hl : l ≠ 0) (hm : m ≠ 0) (hmore : more = 54 + l.log2 - m.log2) (hD : D = m * 2 ^ more) (hq : q = D / l) (hg : mag = 2 * q + (D % l != 0).toNat) :
    9007199254740992 * l ≤ D ∧ 54 ≤ mag.log2 ∧ mag * l ≤ 2 * D + l ∧ 2 * D ≤ mag * l + l ∧ q.log2 + l.log2 ≤ m.log2 + more := by
  have hl2 := Nat.lt_log2_self (n := l)
  have hm1 := Nat.log2_self_le hm
  have hD54 : 2 ^ (54 + l.log2) ≤ D := by
    rw [hD]
    have h1 : 2 ^ m.log2 * 2 ^ more ≤ m * 2 ^ more := Nat.mul_le_mul_right _ hm1
    rw [← Nat.pow_add] at h1
    exact Nat.le_trans (Nat.pow_le_pow_right (by omega) (by omega)) h1
  have h1 : 9007199254740992 * l ≤ D := by
    refine Nat.le_trans ?_ hD54
    have : (2 : Nat) ^ (54 + l.log2) = 9007199254740992 * 2 ^ (l.log2 + 1) := by
      rw [show 54 + l.log2 = 53 + (l.log2 + 1) by omega, Nat.pow_add]
    rw [this]
    exact Nat.mul_le_mul_left _ (Nat.le_of_lt hl2)
  have hpos : 0 < l := Nat.pos_of_ne_zero hl
  have hqg : 9007199254740992 ≤ q := by rw [hq]; exact (Nat.le_div_iff_mul_le hpos).2 h1
  have hdm := Nat.div_add_mod D l
  have hlt := Nat.mod_lt D hpos
  rw [← hq] at hdm
  have hs : (D % l != 0).toNat ≤ 1 := by cases (D % l != 0) <;> simp
  have hs0 : D % l ≠ 0 → (D % l != 0).toNat = 1 := fun h => by simp [h]
  have hs1 : D % l = 0 → (D % l != 0).toNat = 0 := fun h => by simp [h]
  generalize (D % l != 0).toNat = sk at *
  have e1 : (2 * q + sk) * l = 2 * (l * q) + sk * l := by rw [Nat.add_mul, Nat.mul_assoc, Nat.mul_comm q l]
  have e2 : sk * l ≤ l := by
    rcases Nat.eq_zero_or_pos sk with h | h
    · subst h; omega
    · have : sk = 1 := by omega
      subst this; omega
  refine ⟨h1, log2_ge (by rw [hg]; show 18014398509481984 ≤ _; omega), by rw [hg, e1]; omega, ?_, ?_⟩
  · rw [hg, e1]
    by_cases h : D % l = 0
    · omega
    · have := hs0 h; subst this; omega
  · have hq0 : q ≠ 0 := by omega
    have h2 := Nat.log2_self_le hq0
    have h3 := Nat.log2_self_le hl
    have h4 : q * l ≤ D := by rw [Nat.mul_comm]; omega
    have h5 : 2 ^ q.log2 * 2 ^ l.log2 ≤ q * l := Nat.mul_le_mul h2 h3
    rw [← Nat.pow_add] at h5
    have h6 := Nat.lt_log2_self (n := m)
    have h7 : D < 2 ^ (m.log2 + 1 + more) := by
      rw [hD, Nat.pow_add]; exact Nat.mul_lt_mul_of_pos_right h6 (Nat.two_pow_pos more)
    have := pow_lt_inv (Nat.lt_of_le_of_lt (Nat.le_trans h5 h4) h7)
    omega
theorem near_bound {C mag D l : Nat} (h1 : 9007199254740992 * l ≤ D) (h3 : mag * l ≤ 2 * D + l) (h4 : 2 * D ≤ mag * l + l) (c1 : C * 9007199254740992 ≤ mag * 9007199254740993) (c2 : mag * 9007199254740991 ≤ C * 9007199254740992) :
    C * l * 4503599627370496 ≤ 2 * D * 4503599627370497 ∧ 2 * D * 4503599627370495 ≤ C * l * 4503599627370496 := by
  have a1 : C * l * 9007199254740992 ≤ mag * l * 9007199254740993 := by
    have := Nat.mul_le_mul_right l c1
    rw [Nat.mul_right_comm, Nat.mul_right_comm mag] at this; exact this
  have a2 : mag * l * 9007199254740991 ≤ C * l * 9007199254740992 := by
    have := Nat.mul_le_mul_right l c2
    rw [Nat.mul_right_comm, Nat.mul_right_comm C] at this; exact this
  generalize C * l = X at *
  generalize mag * l = Y at *
  omega

theorem fx_quo_k (p : Nat) (hp : p = 1074) (hu : unit = 2 ^ p) {a b : Nat} {n k : Int} (ha : Fx a (n * (unit : Nat))) (hb : Fx b (k * (unit : Nat))) (hn : n ≠ 0) (hk : k ≠ 0) (hn' : n.natAbs < 9007199254740992) (hk' : k.natAbs < 9007199254740992) :
    ∃ r v, floatBits .quo .f64 a b = some r ∧ Fx r v ∧ v ≠ 0 ∧ decide (v < 0) = (decide (n < 0) ^^ decide (k < 0)) ∧
      v.natAbs * k.natAbs * 4503599627370496 ≤ n.natAbs * unit * 4503599627370497 ∧ n.natAbs * unit * 4503599627370495 ≤ v.natAbs * k.natAbs * 4503599627370496 := by
  obtain ⟨s, m, i, h1, h2, h3⟩ := ha
  obtain ⟨t, l, j, h4, h5, h6⟩ := hb
  have hmlt := read_lt h1
  have hllt := read_lt h4
  obtain ⟨I, hI⟩ : ∃ I : Nat, i = (I : Int) - 1074 := ⟨(i + 1074).toNat, by omega⟩
  obtain ⟨J, hJ⟩ : ∃ J : Nat, j = (J : Int) - 1074 := ⟨(j + 1074).toNat, by omega⟩
  have eI : (i + 1074).toNat = I := by omega
  have eJ : (j + 1074).toNat = J := by omega
  rw [eI] at h3; rw [eJ] at h6
  have hX : m * 2 ^ I = n.natAbs * 2 ^ p := by
    have := signed_abs s m I
    rw [h3, Int.natAbs_mul, Int.natAbs_natCast, hu] at this; exact this.symm
  have hY : l * 2 ^ J = k.natAbs * 2 ^ p := by
    have := signed_abs t l J
    rw [h6, Int.natAbs_mul, Int.natAbs_natCast, hu] at this; exact this.symm
  have hN0 : n.natAbs ≠ 0 := by omega
  have hK0 : k.natAbs ≠ 0 := by omega
  have hm0 : m ≠ 0 := fun e => by
    subst e; rw [Nat.zero_mul] at hX
    rcases Nat.mul_eq_zero.1 hX.symm with h | h
    · exact hN0 h
    · have := Nat.two_pow_pos p; omega
  have hl0 : l ≠ 0 := fun e => by
    subst e; rw [Nat.zero_mul] at hY
    rcases Nat.mul_eq_zero.1 hY.symm with h | h
    · exact hK0 h
    · have := Nat.two_pow_pos p; omega
  have bI := place_bound hp hX hmlt hN0 hn'
  have bJ := place_bound hp hY hllt hK0 hk'
  have ll : l.log2 ≤ 52 := by have := (Nat.log2_lt hl0).2 (show l < 2 ^ 53 from hllt); omega
  have ml : m.log2 ≤ 52 := by have := (Nat.log2_lt hm0).2 (show m < 2 ^ 53 from hmlt); omega
  obtain ⟨more, hmore⟩ : ∃ more, more = 54 + l.log2 - m.log2 := ⟨_, rfl⟩
  obtain ⟨D, hD⟩ : ∃ D, D = m * 2 ^ more := ⟨_, rfl⟩
  obtain ⟨mag, hmag⟩ : ∃ mag, mag = 2 * (D / l) + (D % l != 0).toNat := ⟨_, rfl⟩
  obtain ⟨d1, d2, d3, d4, d5⟩ := quo_digits hl0 hm0 hmore hD rfl hmag
  have hmag0 : mag ≠ 0 := fun e => by subst e; simp at d2
  have hmagl : mag.log2 ≤ 60 := by
    have hq0 : D / l ≠ 0 := fun e => by
      rw [e] at hmag
      have : mag ≤ 1 := by rw [hmag]; cases (D % l != 0) <;> simp
      have := Nat.log2_self_le hmag0
      have h9 : 2 ^ 54 ≤ 2 ^ mag.log2 := Nat.pow_le_pow_right (by omega) d2
      omega
    have h7 := Nat.lt_log2_self (n := D / l)
    have h8 : (D / l).log2 ≤ 56 := by omega
    have h9 : 2 ^ ((D / l).log2 + 1) ≤ 2 ^ 57 := Nat.pow_le_pow_right (by omega) (by omega)
    have h10 : (D % l != 0).toNat ≤ 1 := by cases (D % l != 0) <;> simp
    have : mag < 2 ^ 60 := by omega
    have := (Nat.log2_lt hmag0).2 this
    omega
  have hq : floatBits .quo .f64 a b = some (double.nearest (s ^^ t) mag (i - j - more - 1)) := by
    show ((double.read a).quotient (double.fractionBits + 2) (double.read b)).map double.write = _
    rw [h1, h4]
    have hfb : double.fractionBits = 52 := rfl
    simp only [Datum.quotient, if_neg hl0, Option.map_some, Nat.shiftLeft_eq, hfb]
    rw [show 52 + 2 + l.log2 - m.log2 = more by omega, ← hD, ← hmag]
    rfl
  obtain ⟨c, m', e', r1, r2, r3, r4, r5⟩ := near_val (s ^^ t) mag (i - j - more - 1) hmag0 (by omega) (by omega) (by omega)
  obtain ⟨b1, b2⟩ := near_bound d1 d3 d4 r4 r5
  generalize hC : c * 2 ^ (mag.log2 - 52) = C at *
  obtain ⟨P, hP⟩ : ∃ P : Nat, (i - j - (more : Int) - 1 + 1074).toNat = P := ⟨_, rfl⟩
  rw [hP] at r3
  have hpl : P + J + more + 1 = I + p := by omega
  -- the value
  have hv : (signed (s ^^ t) m' (e' + 1074).toNat).natAbs = C * 2 ^ P := by rw [signed_abs, r3]
  have hC0 : C ≠ 0 := fun e => by
    rw [e] at b2
    have h8 : D ≠ 0 := by rw [hD]; exact Nat.mul_ne_zero hm0 (by have := Nat.two_pow_pos more; omega)
    omega
  have hv0 : signed (s ^^ t) m' (e' + 1074).toNat ≠ 0 := fun e => by
    rw [e, Int.natAbs_zero] at hv
    rcases Nat.mul_eq_zero.1 hv.symm with h | h
    · exact hC0 h
    · have := Nat.two_pow_pos P; omega
  have sx := signed_neg s m I (by rw [h3]; exact Int.mul_ne_zero hn (by have := unit_pos; omega))
  have sy := signed_neg t l J (by rw [h6]; exact Int.mul_ne_zero hk (by have := unit_pos; omega))
  rw [h3] at sx; rw [h6] at sy
  have su : ∀ z : Int, (z * (unit : Nat) < 0) = (z < 0) := fun z => by
    have := unit_lt (a := z) (b := 0)
    rwa [Int.zero_mul] at this
  simp only [su] at sx sy
  refine ⟨_, _, hq, ⟨_, _, _, r1, r2, rfl⟩, hv0, by rw [signed_neg _ _ _ hv0, sx, sy], ?_, ?_⟩
  all_goals rw [hv]
  · have key : C * 2 ^ P * k.natAbs * 2 ^ p = C * l * 2 ^ (P + J) := by
      rw [Nat.mul_assoc (C * 2 ^ P), ← hY, Nat.pow_add]; simp only [Nat.mul_assoc, Nat.mul_left_comm, Nat.mul_comm]
    have key2 : n.natAbs * unit * 2 ^ p = 2 * D * 2 ^ (P + J) := by
      rw [hu, ← hX, hD, Nat.mul_assoc, ← Nat.pow_add, ← hpl, show P + J + more + 1 = 1 + more + (P + J) by omega, Nat.pow_add, Nat.pow_add, Nat.pow_one]
      simp only [Nat.mul_assoc, Nat.mul_left_comm, Nat.mul_comm]
    refine Nat.le_of_mul_le_mul_right (c := 2 ^ p) ?_ (Nat.two_pow_pos p)
    rw [Nat.mul_right_comm, key, Nat.mul_right_comm _ _ (2 ^ p), key2, Nat.mul_right_comm, Nat.mul_right_comm (2 * D)]
    exact Nat.mul_le_mul_right _ b1
  · have key : C * 2 ^ P * k.natAbs * 2 ^ p = C * l * 2 ^ (P + J) := by
      rw [Nat.mul_assoc (C * 2 ^ P), ← hY, Nat.pow_add]; simp only [Nat.mul_assoc, Nat.mul_left_comm, Nat.mul_comm]
    have key2 : n.natAbs * unit * 2 ^ p = 2 * D * 2 ^ (P + J) := by
      rw [hu, ← hX, hD, Nat.mul_assoc, ← Nat.pow_add, ← hpl, show P + J + more + 1 = 1 + more + (P + J) by omega, Nat.pow_add, Nat.pow_add, Nat.pow_one]
      simp only [Nat.mul_assoc, Nat.mul_left_comm, Nat.mul_comm]
    refine Nat.le_of_mul_le_mul_right (c := 2 ^ p) ?_ (Nat.two_pow_pos p)
    rw [Nat.mul_right_comm, key2, Nat.mul_right_comm (C * 2 ^ P * k.natAbs), key, Nat.mul_right_comm (2 * D), Nat.mul_right_comm (C * l)]
    exact Nat.mul_le_mul_right _ b2
theorem fx_quo {a b : Nat} {n k : Int} (ha : Fx a (n * (unit : Nat))) (hb : Fx b (k * (unit : Nat))) (hn : n ≠ 0) (hk : k ≠ 0) (hn' : n.natAbs < 9007199254740992) (hk' : k.natAbs < 9007199254740992) :
    ∃ r v, floatBits .quo .f64 a b = some r ∧ Fx r v ∧ v ≠ 0 ∧ decide (v < 0) = (decide (n < 0) ^^ decide (k < 0)) ∧
      v.natAbs * k.natAbs * 4503599627370496 ≤ n.natAbs * unit * 4503599627370497 ∧ n.natAbs * unit * 4503599627370495 ≤ v.natAbs * k.natAbs * 4503599627370496 := fx_quo_k 1074 rfl unit.eq_1 ha hb hn hk hn' hk'

/-- A rounded quotient of small whole numbers lies between the same whole numbers. -/
theorem quo_between {V N K u : Nat} (hu : 0 < u) (hN : N ≤ 1000000000) (hK : K ≤ 1000000000) (hK0 : 0 < K) (hd : ¬ N % K = 0)
    (h1 : V * K * 4503599627370496 ≤ N * u * 4503599627370497) (h2 : N * u * 4503599627370495 ≤ V * K * 4503599627370496) : N / K * u < V ∧ V < (N / K + 1) * u := by
  have e := Nat.div_add_mod N K
  have hlt := Nat.mod_lt N hK0
  generalize N / K = t at *
  generalize N % K = r at *
  have htK : K * t ≤ 1000000000 := by omega
  constructor
  · refine Nat.lt_of_not_le fun h => ?_
    have h3 : V * K ≤ t * u * K := Nat.mul_le_mul_right _ h
    have h4 : t * u * K = (K * t) * u := by rw [Nat.mul_right_comm, Nat.mul_comm t]
    have h5 : N * u = (K * t) * u + r * u := by rw [← e, Nat.add_mul]
    have h6 : u ≤ r * u := Nat.le_mul_of_pos_left _ (by omega)
    have h7 : (K * t) * u ≤ 1000000000 * u := Nat.mul_le_mul_right _ htK
    generalize (K * t) * u = X at *
    generalize r * u = Y at *
    omega
  · refine Nat.lt_of_not_le fun h => ?_
    have h3 : (t + 1) * u * K ≤ V * K := Nat.mul_le_mul_right _ h
    have h4 : (t + 1) * u * K = (K * t) * u + K * u := by rw [Nat.mul_right_comm, Nat.add_mul, Nat.one_mul, Nat.add_mul, Nat.mul_comm t]
    have h5 : N * u = (K * t) * u + r * u := by rw [← e, Nat.add_mul]
    have h6 : r * u + u ≤ K * u := by
      have : (r + 1) * u ≤ K * u := Nat.mul_le_mul_right _ (by omega)
      rw [Nat.add_mul, Nat.one_mul] at this; exact this
    have h7 : N * u ≤ 1000000000 * u := Nat.mul_le_mul_right _ hN
    generalize (K * t) * u = X at *
    generalize r * u = Y at *
    generalize K * u = Z at *
    generalize N * u = W at *
    omega

/-! The part ahead of the point. -/
theorem and_not (a b k : Nat) (ha : a < 2 ^ 64) (hb : b = 2 ^ k - 1) (hk : k ≤ 64) : (BitVec.ofNat 64 a &&& ~~~ BitVec.ofNat 64 b).toNat = a / 2 ^ k * 2 ^ k := by
  subst hb
  apply Nat.eq_of_testBit_eq
  intro i
  rw [Nat.testBit_mul_two_pow, Nat.testBit_div_two_pow]
  rw [BitVec.toNat_and, BitVec.toNat_not, Nat.testBit_and]
  rw [BitVec.toNat_ofNat, BitVec.toNat_ofNat, Nat.mod_eq_of_lt ha]
  have hlt : 2 ^ k - 1 < 2 ^ 64 := by
    have h1 : 2 ^ k ≤ 2 ^ 64 := Nat.pow_le_pow_right (by omega) hk
    have := Nat.two_pow_pos k
    omega
  rw [Nat.mod_eq_of_lt hlt, show 2 ^ 64 - 1 - (2 ^ k - 1) = 2 ^ 64 - ((2 ^ k - 1) + 1) from by rw [Nat.sub_sub, Nat.add_comm 1], Nat.testBit_two_pow_sub_succ hlt, Nat.testBit_two_pow_sub_one]
  by_cases hi : i < 64
  · by_cases hik : i < k
    · simp [hi, hik]; omega
    · simp [hi, hik, Nat.not_lt.1 hik, show i - k + k = i by omega]
  · have : a.testBit i = false := Nat.testBit_lt_two_pow (Nat.lt_of_lt_of_le ha (Nat.pow_le_pow_right (by omega) (by omega)))
    by_cases hik : i < k
    · omega
    · simp [hi, this, show i - k + k = i by omega]
end Go.Abs
