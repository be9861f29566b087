/- Walks of the functions, printed by program, and the logic behind them: each theorem says what one function or one step answers. -/
import Derived.Test.YtopgbalmdocboaaGreatDoorZDoor
namespace Go.Abs
set_option linter.unusedVariables false
set_option linter.unusedSimpArgs false
open Ieee

theorem signed_not {s : Bool} {m up : Nat} : signed (!s) m up = - signed s m up := by
  rw [sgn_val, sgn_val]; cases s <;> simp

theorem sum_fv {s t : Bool} {m n : Nat} {i j : Int} (hi : -1074 ≤ i) (hj : -1074 ≤ j) {x y : Int} (hx : signed s m (i + 1074).toNat = x) (hy : signed t n (j + 1074).toNat = y) (hr : Rp (x + y)) :
    ∃ d, Datum.sum (.number s m i) (.number t n j) = some d ∧ Fx (double.write d) (x + y) := by
  refine ⟨_, rfl, ?_⟩
  obtain ⟨c, hc⟩ : ∃ c : Nat, min i j = -1074 + c := ⟨(min i j + 1074).toNat, by omega⟩
  have e1 : (i + 1074).toNat = (i - min i j).toNat + c := by omega
  have e2 : (j + 1074).toNat = (j - min i j).toNat + c := by omega
  rw [e1, signed_up] at hx; rw [e2, signed_up] at hy
  generalize hX : signed s m (i - min i j).toNat = X at *
  generalize hY : signed t n (j - min i j).toNat = Y at *
  have hp : (0 : Int) < (2 ^ c : Nat) := by exact_mod_cast Nat.two_pow_pos c
  have hs : x + y = (X + Y) * (2 ^ c : Nat) := by rw [← hx, ← hy, Int.add_mul]
  have hab : (x + y).natAbs = (X + Y).natAbs * 2 ^ c := by rw [hs, Int.natAbs_mul, Int.natAbs_natCast]
  refine write_fv _ _ _ _ (fun h => ⟨0, by omega, ?_⟩) (fun h => ?_) (fun h => ?_) hr
  · have : c = 0 := by omega
    subst this
    rw [hab]; simp
  · rw [hab]; congr 2; omega
  · have h0 : X + Y ≠ 0 := fun e => by rw [hs, e] at h; simp at h
    simp only [hX, hY, if_neg h0]
    have : (x + y < 0) = (X + Y < 0) := by
      rw [hs]
      apply propext
      constructor
      · intro h1
        rcases Int.lt_or_le (X + Y) 0 with h2 | h2
        · exact h2
        · have := Int.mul_nonneg h2 (Int.le_of_lt hp); omega
      · intro h1; exact Int.mul_neg_of_neg_of_pos h1 hp
    simp only [this]

theorem fx_add {a b : Nat} {x y : Int} (ha : Fx a x) (hb : Fx b y) (hr : Rp (x + y)) : ∃ r, floatBits .add .f64 a b = some r ∧ Fx r (x + y) := by
  obtain ⟨s, m, i, h1, h2, h3⟩ := ha
  obtain ⟨t, n, j, h4, h5, h6⟩ := hb
  obtain ⟨d, h7, h8⟩ := sum_fv h2 h5 h3 h6 hr
  refine ⟨_, ?_, h8⟩
  show ((double.read a).sum (double.read b)).map double.write = _
  rw [h1, h4, h7]; rfl
theorem fx_sub {a b : Nat} {x y : Int} (ha : Fx a x) (hb : Fx b y) (hr : Rp (x - y)) : ∃ r, floatBits .sub .f64 a b = some r ∧ Fx r (x - y) := by
  obtain ⟨s, m, i, h1, h2, h3⟩ := ha
  obtain ⟨t, n, j, h4, h5, h6⟩ := hb
  have e : x - y = x + -y := by omega
  rw [e] at hr ⊢
  obtain ⟨d, h7, h8⟩ := sum_fv h2 h5 h3 (by rw [signed_not, h6]) hr
  refine ⟨_, ?_, h8⟩
  show ((double.read a).sum (double.read b).opposite).map double.write = _
  rw [h1, h4]
  show (Datum.sum (.number s m i) (.number (!t) n j)).map double.write = _
  rw [h7]; rfl
theorem sign_mul {x y z : Int} {u : Nat} (hu : 0 < (u : Int)) (h : x * y = z * u) (hx : x ≠ 0) (hy : y ≠ 0) : decide (z < 0) = (decide (x < 0) ^^ decide (y < 0)) := by
  rcases Int.lt_or_le x 0 with hx' | hx' <;> rcases Int.lt_or_le y 0 with hy' | hy'
  · have h1 : 0 < x * y := Int.mul_pos_of_neg_of_neg hx' hy'
    have : ¬ z < 0 := fun hzz => by have := Int.mul_neg_of_neg_of_pos hzz hu; omega
    simp [hx', hy', this]
  · have h1 : x * y < 0 := Int.mul_neg_of_neg_of_pos hx' (by omega)
    have : z < 0 := by
      rcases Int.lt_or_le z 0 with h2 | h2
      · exact h2
      · have := Int.mul_nonneg h2 (Int.le_of_lt hu); omega
    simp [hx', Int.not_lt.2 hy', this]
  · have h1 : x * y < 0 := Int.mul_neg_of_pos_of_neg (by omega) hy'
    have : z < 0 := by
      rcases Int.lt_or_le z 0 with h2 | h2
      · exact h2
      · have := Int.mul_nonneg h2 (Int.le_of_lt hu); omega
    simp [Int.not_lt.2 hx', hy', this]
  · have h1 : 0 < x * y := Int.mul_pos (by omega) (by omega)
    have : ¬ z < 0 := fun hzz => by have := Int.mul_neg_of_neg_of_pos hzz hu; omega
    simp [Int.not_lt.2 hx', Int.not_lt.2 hy', this]
theorem mul_lo {i j : Int} {I J k : Nat} (hI : i = (I : Int) - 1074) (hJ : j = (J : Int) - 1074) (hk : k = 1074) (h : i + j ≤ -1074) : k - (I + J) + (I + J) = k ∧ i + j = -1074 - ((k - (I + J) : Nat) : Int) := by omega
theorem mul_hi {i j : Int} {I J k : Nat} (hI : i = (I : Int) - 1074) (hJ : j = (J : Int) - 1074) (hk : k = 1074) (h : -1074 ≤ i + j) : I + J - k + k = I + J ∧ (i + j + 1074).toNat = I + J - k := by omega
theorem fx_mul_k (k : Nat) (hk : k = 1074) (hu : unit = 2 ^ k) {a b : Nat} {x y z : Int} (ha : Fx a x) (hb : Fx b y) (hz : x * y = z * (unit : Nat)) (hr : Rp z) : ∃ r, floatBits .mul .f64 a b = some r ∧ Fx r z := by
  obtain ⟨s, m, i, h1, h2, h3⟩ := ha
  obtain ⟨t, n, j, h4, h5, h6⟩ := hb
  have hq : floatBits .mul .f64 a b = some (double.write (.number (s ^^ t) (m * n) (i + j))) := by
    show ((double.read a).product (double.read b)).map double.write = _
    rw [h1, h4]; rfl
  refine ⟨_, hq, ?_⟩
  obtain ⟨I, hI⟩ : ∃ I : Nat, i = (I : Int) - 1074 := ⟨(i + 1074).toNat, by omega⟩
  obtain ⟨J, hJ⟩ : ∃ J : Nat, j = (J : Int) - 1074 := ⟨(j + 1074).toNat, by omega⟩
  have eI : (i + 1074).toNat = I := by omega
  have eJ : (j + 1074).toNat = J := by omega
  rw [eI] at h3; rw [eJ] at h6
  have hX : x.natAbs = m * 2 ^ I := by rw [← h3, signed_abs]
  have hY : y.natAbs = n * 2 ^ J := by rw [← h6, signed_abs]
  have hZ : m * n * 2 ^ (I + J) = z.natAbs * 2 ^ k := by
    have := congrArg Int.natAbs hz
    rw [Int.natAbs_mul, Int.natAbs_mul, Int.natAbs_natCast, hX, hY, hu] at this
    rw [← this, Nat.pow_add]; simp only [Nat.mul_assoc, Nat.mul_left_comm, Nat.mul_comm]
  refine write_fv _ _ _ _ (fun h => ⟨k - (I + J), (mul_lo hI hJ hk h).2, ?_⟩) (fun h => ?_) (fun h => ?_) hr
  · have : m * n = z.natAbs * 2 ^ (k - (I + J)) := by
      have h' : (m * n) * 2 ^ (I + J) = (z.natAbs * 2 ^ (k - (I + J))) * 2 ^ (I + J) := by rw [hZ, Nat.mul_assoc, ← Nat.pow_add, (mul_lo hI hJ hk h).1]
      exact Nat.eq_of_mul_eq_mul_right (Nat.two_pow_pos _) h'
    rw [this]
  · have h' : (m * n * 2 ^ (I + J - k)) * 2 ^ k = z.natAbs * 2 ^ k := by rw [← hZ, Nat.mul_assoc, ← Nat.pow_add, (mul_hi hI hJ hk h).1]
    have := Nat.eq_of_mul_eq_mul_right (Nat.two_pow_pos k) h'
    rw [← this, (mul_hi hI hJ hk h).2]
  · have hx0 : x ≠ 0 := fun e => by
      rw [e, Int.zero_mul] at hz
      rcases Int.mul_eq_zero.1 hz.symm with h1 | h1
      · exact h h1
      · have := unit_pos; omega
    have hy0 : y ≠ 0 := fun e => by
      rw [e, Int.mul_zero] at hz
      rcases Int.mul_eq_zero.1 hz.symm with h1 | h1
      · exact h h1
      · have := unit_pos; omega
    have sx := signed_neg s m I (by rw [h3]; exact hx0)
    have sy := signed_neg t n J (by rw [h6]; exact hy0)
    rw [h3] at sx; rw [h6] at sy
    rw [← sx, ← sy]
    exact (sign_mul unit_pos hz hx0 hy0).symm
theorem fx_mul {a b : Nat} {x y z : Int} (ha : Fx a x) (hb : Fx b y) (hz : x * y = z * (unit : Nat)) (hr : Rp z) : ∃ r, floatBits .mul .f64 a b = some r ∧ Fx r z := fx_mul_k 1074 rfl unit.eq_1 ha hb hz hr

/-! Numbers of k places behind the point. -/
/-- n / 2 ^ k. -/
def Fy (k : Nat) (b : Nat) (n : Int) : Prop := ∃ v, Fx b v ∧ v * (2 ^ k : Nat) = n * (unit : Nat)
theorem unit_pow {k p : Nat} (hp : p = 1074) (hk : k ≤ p) : (unit : Int) = (2 ^ (p - k) : Nat) * (2 ^ k : Nat) := by
  have : unit = 2 ^ (p - k) * 2 ^ k := by rw [← Nat.pow_add, Nat.sub_add_cancel hk, hp]; rfl
  rw [this]; exact Int.natCast_mul _ _
theorem pow_ne (k : Nat) : ((2 ^ k : Nat) : Int) ≠ 0 := by have := Nat.two_pow_pos k; omega
theorem pow_pos' (k : Nat) : (0 : Int) < ((2 ^ k : Nat) : Int) := by have := Nat.two_pow_pos k; omega
theorem Fy.val {k b p : Nat} {n : Int} (hp : p = 1074) (hk : k ≤ p) (h : Fy k b n) : Fx b (n * (2 ^ (p - k) : Nat)) := by
  obtain ⟨v, h1, h2⟩ := h
  have : v = n * (2 ^ (p - k) : Nat) := by
    rw [unit_pow hp hk, ← Int.mul_assoc] at h2
    exact Int.eq_of_mul_eq_mul_right (pow_ne k) h2
  rw [← this]; exact h1
theorem Fy.mk {k b p : Nat} {n : Int} (hp : p = 1074) (hk : k ≤ p) (h : Fx b (n * (2 ^ (p - k) : Nat))) : Fy k b n := ⟨_, h, by rw [unit_pow hp hk, Int.mul_assoc]⟩
theorem rp_of {k p : Nat} {n : Int} (hp : p = 1074) (hk : k ≤ p) (hn : n.natAbs < 2 ^ 53) : Rp (n * (2 ^ (p - k) : Nat)) :=
  ⟨n.natAbs, p - k, by rw [Int.natAbs_mul, Int.natAbs_natCast], hn, fun h0 => by have := (Nat.log2_lt h0).2 hn; omega⟩
theorem Fy.add {k a b : Nat} {n m : Int} (hk : k ≤ 1074) (ha : Fy k a n) (hb : Fy k b m) (hs : (n + m).natAbs < 2 ^ 53) : ∃ r, floatBits .add .f64 a b = some r ∧ Fy k r (n + m) := by
  generalize hp : (1074 : Nat) = p at *
  have ha' := ha.val hp.symm hk
  have hb' := hb.val hp.symm hk
  obtain ⟨r, h1, h2⟩ := fx_add ha' hb' (by rw [← Int.add_mul]; exact rp_of hp.symm hk hs)
  exact ⟨r, h1, Fy.mk hp.symm hk (by rw [Int.add_mul]; exact h2)⟩
theorem Fy.sub {k a b : Nat} {n m : Int} (hk : k ≤ 1074) (ha : Fy k a n) (hb : Fy k b m) (hs : (n - m).natAbs < 2 ^ 53) : ∃ r, floatBits .sub .f64 a b = some r ∧ Fy k r (n - m) := by
  generalize hp : (1074 : Nat) = p at *
  have ha' := ha.val hp.symm hk
  have hb' := hb.val hp.symm hk
  obtain ⟨r, h1, h2⟩ := fx_sub ha' hb' (by rw [← Int.sub_mul]; exact rp_of hp.symm hk hs)
  exact ⟨r, h1, Fy.mk hp.symm hk (by rw [Int.sub_mul]; exact h2)⟩
theorem Fy.mul {k l a b : Nat} {n m : Int} (hk : k + l ≤ 1074) (ha : Fy k a n) (hb : Fy l b m) (hs : (n * m).natAbs < 2 ^ 53) : ∃ r, floatBits .mul .f64 a b = some r ∧ Fy (k + l) r (n * m) := by
  generalize hp : (1074 : Nat) = p at *
  have ha' := ha.val hp.symm (by omega)
  have hb' := hb.val hp.symm (by omega)
  obtain ⟨r, h1, h2⟩ := fx_mul ha' hb' (z := n * m * (2 ^ (p - (k + l)) : Nat)) (by
    rw [unit_pow hp.symm (Nat.le_refl p)]
    have e : ((2 ^ (p - k) : Nat) : Int) * (2 ^ (p - l) : Nat) = (2 ^ (p - (k + l)) : Nat) * ((2 ^ (p - p) : Nat) * (2 ^ p : Nat)) := by
      rw [← Int.natCast_mul, ← Int.natCast_mul, ← Int.natCast_mul]
      congr 1
      rw [← Nat.pow_add, ← Nat.pow_add, ← Nat.pow_add]
      congr 1; omega
    rw [Int.mul_assoc, Int.mul_assoc, ← e]
    simp only [Int.mul_assoc, Int.mul_left_comm]) (rp_of hp.symm hk hs)
  exact ⟨r, h1, Fy.mk hp.symm hk h2⟩
theorem Fy.up {k b : Nat} {n : Int} (h : Fy k b n) (j : Nat) : Fy (k + j) b (n * (2 ^ j : Nat)) := by
  obtain ⟨v, h1, h2⟩ := h
  refine ⟨v, h1, ?_⟩
  rw [Nat.pow_add, Int.natCast_mul, ← Int.mul_assoc, h2, Int.mul_assoc, Int.mul_comm (unit : Int), ← Int.mul_assoc]
theorem Fy.down {k b j : Nat} {n : Int} (h : Fy (k + j) b (n * (2 ^ j : Nat))) : Fy k b n := by
  obtain ⟨v, h1, h2⟩ := h
  refine ⟨v, h1, ?_⟩
  rw [Nat.pow_add, Int.natCast_mul, ← Int.mul_assoc, Int.mul_assoc n, Int.mul_comm ((2 ^ j : Nat) : Int), ← Int.mul_assoc] at h2
  exact Int.eq_of_mul_eq_mul_right (pow_ne j) h2
theorem Fy.whole {b : Nat} {n : Int} (h : Fy 0 b n) : Fx b (n * (unit : Nat)) := by
  obtain ⟨v, h1, h2⟩ := h
  rw [show ((2 ^ 0 : Nat) : Int) = 1 from rfl, Int.mul_one] at h2
  rw [← h2]; exact h1
theorem Fy.of {b : Nat} {n : Int} (h : Fx b (n * (unit : Nat))) : Fy 0 b n := ⟨_, h, by rw [show ((2 ^ 0 : Nat) : Int) = 1 from rfl, Int.mul_one]⟩
/-- A quotient that is exact: n / 2 ^ k over m / 2 ^ l is q / 2 ^ j. -/
theorem Fy.div {k l j a b : Nat} {n m q : Int} (hk : k ≤ 1074) (hl : l ≤ 1074) (hj : j ≤ 1074) (ha : Fy k a n) (hb : Fy l b m) (hm : m ≠ 0) (hq : n * (2 ^ l : Nat) * (2 ^ j : Nat) = q * m * (2 ^ k : Nat)) (hs : q.natAbs < 2 ^ 53) : ∃ r, floatBits .quo .f64 a b = some r ∧ Fy j r q := by
  generalize hp : (1074 : Nat) = p at *
  have ha' := ha.val hp.symm hk
  have hb' := hb.val hp.symm hl
  obtain ⟨r, h1, h2⟩ := fx_div ha' hb' (z := q * (2 ^ (p - j) : Nat)) (Int.mul_ne_zero hm (pow_ne _)) (by
    have e0 : (unit : Int) = (2 ^ p : Nat) := by rw [unit_pow hp.symm (Nat.le_refl p)]; simp
    rw [e0]
    refine Int.eq_of_mul_eq_mul_right (Int.mul_ne_zero (Int.mul_ne_zero (pow_ne k) (pow_ne l)) (pow_ne j)) ?_
    have e1 : ((2 ^ (p - k) : Nat) : Int) * (2 ^ k : Nat) = (2 ^ p : Nat) := by rw [← Int.natCast_mul, ← Nat.pow_add, Nat.sub_add_cancel hk]
    have e2 : ((2 ^ (p - l) : Nat) : Int) * (2 ^ l : Nat) = (2 ^ p : Nat) := by rw [← Int.natCast_mul, ← Nat.pow_add, Nat.sub_add_cancel hl]
    have e3 : ((2 ^ (p - j) : Nat) : Int) * (2 ^ j : Nat) = (2 ^ p : Nat) := by rw [← Int.natCast_mul, ← Nat.pow_add, Nat.sub_add_cancel hj]
    generalize ((2 ^ (p - k) : Nat) : Int) = A at *
    generalize ((2 ^ (p - l) : Nat) : Int) = B at *
    generalize ((2 ^ (p - j) : Nat) : Int) = C at *
    generalize ((2 ^ k : Nat) : Int) = K at *
    generalize ((2 ^ l : Nat) : Int) = L at *
    generalize ((2 ^ j : Nat) : Int) = J at *
    generalize ((2 ^ p : Nat) : Int) = W at *
    calc n * A * W * (K * L * J) = (n * L * J) * ((A * K) * W) := by simp only [Int.mul_assoc, Int.mul_left_comm, Int.mul_comm]
      _ = (q * m * K) * (W * W) := by rw [hq, e1]
      _ = (q * m * K) * ((C * J) * (B * L)) := by rw [e3, e2]
      _ = q * C * (m * B) * (K * L * J) := by simp only [Int.mul_assoc, Int.mul_left_comm, Int.mul_comm]) (rp_of hp.symm hj hs)
  exact ⟨r, h1, Fy.mk hp.symm hj h2⟩
theorem Fy.cmp {k a b : Nat} {n m : Int} (ha : Fy k a n) (hb : Fy k b m) : fcmp .eql .f64 a b = decide (n = m) ∧ fcmp .lss .f64 a b = decide (n < m) ∧ fcmp .leq .f64 a b = decide (n ≤ m) ∧ fcmp .gtr .f64 a b = decide (m < n) ∧ fcmp .geq .f64 a b = decide (m ≤ n) := by
  obtain ⟨x, h1, h2⟩ := ha
  obtain ⟨y, h3, h4⟩ := hb
  have hu := unit_pos
  have hk := pow_pos' k
  have lt : ∀ {x y n m : Int}, x * (2 ^ k : Nat) = n * (unit : Nat) → y * (2 ^ k : Nat) = m * (unit : Nat) → (x < y ↔ n < m) := fun {x y n m} h2 h4 => by
    constructor
    · intro h
      have := Int.mul_lt_mul_of_pos_right h hk
      rw [h2, h4] at this
      exact Int.lt_of_mul_lt_mul_right this (Int.le_of_lt hu)
    · intro h
      have := Int.mul_lt_mul_of_pos_right h hu
      rw [← h2, ← h4] at this
      exact Int.lt_of_mul_lt_mul_right this (Int.le_of_lt hk)
  have l1 := lt h2 h4
  have l2 := lt h4 h2
  obtain ⟨c1, c2, c3, c4⟩ := fcmp_lt h1 h3
  refine ⟨?_, ?_, ?_, ?_, ?_⟩
  · rw [fcmp_eq h1 h3]; apply decide_eq_decide.2; omega
  · rw [c1]; apply decide_eq_decide.2; omega
  · rw [c2]; apply decide_eq_decide.2; omega
  · rw [c3]; apply decide_eq_decide.2; omega
  · rw [c4]; apply decide_eq_decide.2; omega
theorem Fy.zero {k : Nat} : Fy k 0 0 := ⟨0, fx_zero, by simp⟩
theorem Fy.clean {k b : Nat} {n : Int} (h : Fy k b n) : Fy k (clean b) n := by
  obtain ⟨v, h1, h2⟩ := h; exact ⟨v, fx_clean h1, h2⟩
theorem Fy.nearest {n : Int} (h : n.natAbs < 2 ^ 53) : Fy 0 (FloatKind.f64.nearest n) n := Fy.of (fv_nearest h)
theorem Fy.inj {k b : Nat} {n m : Int} (h : Fy k b n) (h' : Fy k b m) : n = m := by
  have := (Fy.cmp h h').1
  have h2 := (Fy.cmp h h).1
  rw [h2] at this; simpa using this.symm
/-! Words by their parts. -/
end Go.Abs
namespace Go.Abs
set_option linter.unusedVariables false
set_option linter.unusedSimpArgs false
open Ieee

/-! The part ahead of the point. -/
end Go.Abs
