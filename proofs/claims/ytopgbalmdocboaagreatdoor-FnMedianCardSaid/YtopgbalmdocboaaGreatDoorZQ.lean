/-
  Values by equations; whole numbers halved; numbers of sixteenths of the reference.
-/
import Derived.Test.YtopgbalmdocboaaGreatDoorZDoor
namespace Go.Abs
set_option linter.unusedVariables false
set_option linter.unusedSimpArgs false
section
variable {P : Program} {G : Nat → D} {wr : Bool} {o : Oper} {ρ : Operand → D} {S : AH → Prop}
theorem q_as {v v' : D} (h : v = v') (q : AQ P G wr o ρ S v) : AQ P G wr o ρ S v' := h ▸ q
theorem bl_yes {p : Prop} [Decidable p] (h : p) : D.sc (.bool (decide p)) = .sc (.bool true) := by rw [decide_eq_true h]
theorem bl_no {p : Prop} [Decidable p] (h : ¬ p) : D.sc (.bool (decide p)) = .sc (.bool false) := by rw [decide_eq_false h]
theorem bl_eq {a b : Bool} (h : a = b) : D.sc (.bool a) = .sc (.bool b) := by rw [h]
end
theorem tmod_two (x : Int) : x.tmod 2 = 0 ↔ x % 2 = 0 := by
  rcases Int.lt_or_le x 0 with h | h
  · obtain ⟨y, rfl⟩ : ∃ y, x = -y := ⟨-x, by omega⟩
    rw [Int.neg_tmod, Int.tmod_eq_emod_of_nonneg (by omega)]
    omega
  · rw [Int.tmod_eq_emod_of_nonneg h]
theorem tdiv_two {x : Int} (h : x % 2 = 0) : x.tdiv 2 = x / 2 := by
  rcases Int.lt_or_le x 0 with h1 | h1
  · obtain ⟨y, rfl⟩ : ∃ y, x = -y := ⟨-x, by omega⟩
    rw [Int.neg_tdiv, Int.tdiv_eq_ediv_of_nonneg (by omega)]
    omega
  · rw [Int.tdiv_eq_ediv_of_nonneg h1]
theorem ev_of {x : Int} (h : decide (x.tmod 2 = 0) = true) : x % 2 = 0 := (tmod_two x).1 (of_decide_eq_true h)
theorem od_of {x : Int} (h : decide (x.tmod 2 = 0) = false) : ¬ x % 2 = 0 := fun e => of_decide_eq_false h ((tmod_two x).2 e)
theorem half {x : Int} (h : x % 2 = 0) (h1 : -1125899906842624 ≤ x) (h2 : x ≤ 1125899906842624) : IntKind.i64.wrap (x.tdiv 2) = x / 2 := by
  rw [tdiv_two h, wrap_id (by omega) (by omega)]
theorem tmod_mul {x d : Int} : (x * d).tmod d = 0 := Int.mul_tmod_left x d
theorem tdiv_mul {x d : Int} (h : 0 < d) : (x * d).tdiv d = x := Int.mul_tdiv_cancel x (by omega)
/-! Numbers of sixteenths. -/
def finV (n d : Int) : V := if 99999999999 < n ∨ n < -99999999999 then doubt else num n d
/-- v sixteenths, as short as can be. -/
def sixV (v : Int) : V :=
  if ¬ v % 2 = 0 then finV v 16 else if ¬ v / 2 % 2 = 0 then finV (v / 2) 8 else if ¬ v / 2 / 2 % 2 = 0 then finV (v / 2 / 2) 4 else if ¬ v / 2 / 2 / 2 % 2 = 0 then finV (v / 2 / 2 / 2) 2 else finV (v / 2 / 2 / 2 / 2) 1
/-- What a number of the reference is. -/
structure Six (v n d : Int) : Prop where
  dd : d = 1 ∨ d = 2 ∨ d = 4 ∨ d = 8 ∨ d = 16
  eq : n * 16 = v * d
  lo : -99999999999 ≤ n
  hi : n ≤ 99999999999
  od : d = 1 ∨ ¬ n % 2 = 0
theorem sixV_cases (v : Int) : sixV v = doubt ∨ ∃ n d, sixV v = num n d ∧ Six v n d := by
  have fin : ∀ n d : Int, (d = 1 ∨ d = 2 ∨ d = 4 ∨ d = 8 ∨ d = 16) → n * 16 = v * d → (d = 1 ∨ ¬ n % 2 = 0) → finV n d = doubt ∨ ∃ n' d', finV n d = num n' d' ∧ Six v n' d' := fun n d h1 h2 h3 => by
    unfold finV
    by_cases h : 99999999999 < n ∨ n < -99999999999
    · exact .inl (if_pos h)
    · exact .inr ⟨n, d, if_neg h, h1, h2, by omega, by omega, h3⟩
  unfold sixV
  split
  · exact fin _ _ (by omega) (by omega) (by omega)
  · split
    · exact fin _ _ (by omega) (by omega) (by omega)
    · split
      · exact fin _ _ (by omega) (by omega) (by omega)
      · split
        · exact fin _ _ (by omega) (by omega) (by omega)
        · exact fin _ _ (by omega) (by omega) (by omega)
theorem Six.neg {v n d : Int} (h : Six v n d) : Six (-v) (-n) d := ⟨h.dd, by rw [Int.neg_mul, Int.neg_mul, h.eq], by have := h.hi; omega, by have := h.lo; omega, by have := h.od; omega⟩
theorem Six.pos {v n d : Int} (h : Six v n d) : 0 < d ∧ d ≤ 16 := by have := h.dd; omega
theorem Six.bound {v n d : Int} (h : Six v n d) : -1599999999984 ≤ v ∧ v ≤ 1599999999984 := by
  obtain ⟨h1, h2, h3, h4, h5⟩ := h
  rcases h1 with rfl | rfl | rfl | rfl | rfl <;> omega
def absI (n : Int) : Int := if n < 0 then -n else n
theorem Six.abs {v n d : Int} (h : Six v n d) : Six (absI v) (absI n) d := by
  have hp := h.pos
  have he := h.eq
  have hs : (v < 0) = (n < 0) := by
    apply propext
    rcases h.dd with rfl | rfl | rfl | rfl | rfl <;> omega
  unfold absI
  simp only [hs]
  by_cases h0 : n < 0
  · rw [if_pos h0, if_pos h0]; exact h.neg
  · rw [if_neg h0, if_neg h0]; exact h
/-- Away from nothing. -/
def awayI (n d : Int) : Int := if n < 0 then n / d else -(-n / d)
/-- The argument of a law of sixteenths. -/
def clampI (n : Int) : Int := if (if (35184372088832 : Int) < n then 35184372088832 else n) < -35184372088832 then -35184372088832 else (if (35184372088832 : Int) < n then 35184372088832 else n)
theorem intV_num {n : Int} (h : ¬ (99999999999 < n ∨ n < -99999999999)) : intV n = num n 1 := if_neg h
theorem intV_doubt {n : Int} (h : 99999999999 < n ∨ n < -99999999999) : intV n = doubt := if_pos h
end Go.Abs
