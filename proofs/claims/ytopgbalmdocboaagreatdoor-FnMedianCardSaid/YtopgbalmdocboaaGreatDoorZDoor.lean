/-
  Plain values of the program, as the walks show them.
-/
import Derived.Test.YtopgbalmdocboaaGreatDoorZLib
import Derived.Test.YtopgbalmdocboaaGreatDoorZFloat
import Derived.Test.YtopgbalmdocboaaGreatDoorZLi
namespace Go.Abs
set_option linter.unusedVariables false
set_option linter.unusedSimpArgs false

abbrev fl (b : Nat) : D := .sc (.float .f64 b)
/-- A value of the thin package, a single one; and one. -/
structure IU where
  kind : Int
  num : Nat
  text : List UInt8
structure IV where
  kind : Int
  num : Nat
  text : List UInt8
  rows : List (List IU)
def IU.c (v : IU) : List D := [i64 v.kind, fl v.num, st v.text, .im [] 0]
def ilstU (l : List IU) : D := .im (l.flatMap IU.c) l.length
def IV.c (v : IV) : List D := [i64 v.kind, fl v.num, st v.text, .im (v.rows.map ilstU) v.rows.length]
def IV.d (v : IV) : D := .agg (IV.c v)
def ilst (l : List IV) : D := .im (l.flatMap IV.c) l.length
theorem ci_len (v : IV) : (IV.c v).length = 4 := rfl
theorem take_ilst {l : List IV} {i : Nat} (h : i < l.length) : takeAt true 4 (l.flatMap IV.c) ((i : Int).toNat * 4) = some (.agg (IV.c l[i])) := take_flat IV.c 4 ci_len h
theorem len_ilst (l : List IV) : (l.flatMap IV.c).length = l.length * 4 := length_flat IV.c 4 ci_len l
theorem gs_catI {t e : Nat} (X Y : List IV) : D.gs t e (X.flatMap IV.c ++ Y.flatMap IV.c) (X.length + Y.length) = .gs t e ((X ++ Y).flatMap IV.c) (X ++ Y).length := by rw [List.flatMap_append, List.length_append]

/-- An argument of a formula, a single one. -/
structure F where
  ty : Int
  num : Nat
  str : List UInt8
  bool : Bool
  err : List UInt8
def F.d (v : F) : D := .agg [st [], fl v.num, st v.str, .im [] 0, .im [] 0, bl v.bool, st v.err, .sc (.int .u8 v.ty), .sc (.pointer none), .sc (.pointer none)]
def fNum (b : Nat) : F := ⟨1, b, [], false, []⟩
def fStr (s : List UInt8) : F := ⟨2, 0, s, false, []⟩
def fErr (s t : List UInt8) : F := ⟨5, 0, s, false, t⟩
def fBool (b : Bool) : F := ⟨1, if b then 4607182418800017408 else 0, [], true, []⟩
def fEmpty : F := ⟨6, 0, [], false, []⟩
/-- A number as newNumberFormulaArg has it. -/
def clean (b : Nat) : Nat := if fcmp .eql .f64 b 0 = true then 0 else b

def iNum (b : Nat) : IV := ⟨1, b, [], []⟩
def iStr (s : List UInt8) : IV := ⟨2, 0, s, []⟩
def iErr (s : List UInt8) : IV := ⟨4, 0, s, []⟩
def sameI (a b : IV) : Bool := decide (a.kind = b.kind) && (fcmp .eql .f64 a.num b.num && decide (a.text = b.text))

/-! Comparisons of floats that stand for numbers. -/
theorem fx_zero : Fx 0 0 := by
  have := fv_nearest (n := 0) (by decide)
  have e : FloatKind.f64.nearest 0 = 0 := by decide
  rw [e] at this
  simpa using this
theorem fcmp_eq {a b : Nat} {x y : Int} (ha : Fx a x) (hb : Fx b y) : fcmp .eql .f64 a b = decide (x = y) := by
  have h := fv_order ha hb
  have e : FloatKind.f64.format.order a b = some (compare x y) := h
  simp only [fcmp, e]
  rcases Int.lt_trichotomy x y with h | h | h
  · have : compare x y = .lt := by simp [compare, compareOfLessAndEq, h]
    rw [this]; simp; omega
  · subst h
    have : compare x x = .eq := by simp [compare, compareOfLessAndEq]
    rw [this]; simp
  · have : compare x y = .gt := by simp only [compare, compareOfLessAndEq]; rw [if_neg (by omega), if_neg (by omega)]
    rw [this]; simp; omega
theorem fcmp_ne {a b : Nat} : fcmp .neq .f64 a b = !fcmp .eql .f64 a b := by simp [fcmp, bne]
theorem fcmp_lt {a b : Nat} {x y : Int} (ha : Fx a x) (hb : Fx b y) : fcmp .lss .f64 a b = decide (x < y) ∧ fcmp .leq .f64 a b = decide (x ≤ y) ∧ fcmp .gtr .f64 a b = decide (y < x) ∧ fcmp .geq .f64 a b = decide (y ≤ x) := by
  have h := fv_order ha hb
  have e : FloatKind.f64.format.order a b = some (compare x y) := h
  simp only [fcmp, e]
  rcases Int.lt_trichotomy x y with h | h | h
  · have : compare x y = .lt := by simp [compare, compareOfLessAndEq, h]
    rw [this]; simp; omega
  · subst h
    have : compare x x = .eq := by simp [compare, compareOfLessAndEq]
    rw [this]; simp
  · have : compare x y = .gt := by simp only [compare, compareOfLessAndEq]; rw [if_neg (by omega), if_neg (by omega)]
    rw [this]; simp; omega
theorem fx_clean {b : Nat} {x : Int} (h : Fx b x) : Fx (clean b) x := by
  unfold clean
  rw [fcmp_eq h fx_zero]
  by_cases e : x = 0
  · subst e; simp; exact fx_zero
  · simp [e]; exact h

theorem unit_pos_k (k : Nat) (h : unit = 2 ^ k) : (0 : Int) < (unit : Nat) := by rw [h]; exact_mod_cast Nat.two_pow_pos k
theorem unit_pos : (0 : Int) < (unit : Nat) := unit_pos_k 1074 unit.eq_1
section
variable {P : Program} {G : Nat → D} {wr : Bool} {o : Oper} {ρ : Operand → D} {S : AH → Prop}
theorem q_fcmpV {op : BinOp} {T U : TypeId} {x y : Operand} {k : FloatKind} {a b : Nat} {v : Bool} (ho : o.op = .binOp op T x y U) (hop : isCmp op = true) (hx : ρ x = .sc (.float k a)) (hy : ρ y = .sc (.float k b)) (hv : fcmp op k a b = v) : AQ P G wr o ρ S (.sc (.bool v)) := by
  subst hv; exact q_fcmp ho hop hx hy
end
theorem div_core {m n m0 k I J c more : Nat} (hm : m ≠ 0) (hn : n ≠ 0) (hm0 : m0 ≠ 0) (hl0 : m0.log2 ≤ 52) (H : m0 * n * 2 ^ (k + J) = m * 2 ^ (I + c)) (hmore : more = 54 + n.log2 - m.log2) :
    I + c ≤ k + J + more ∧ m * 2 ^ more = (m0 * 2 ^ (k + J + more - (I + c))) * n := by
  have hlp : (m0 * n).log2 ≤ m0.log2 + n.log2 + 1 := by
    have h1 := Nat.lt_log2_self (n := m0)
    have h2 := Nat.lt_log2_self (n := n)
    have h3 : m0 * n < 2 ^ (m0.log2 + n.log2 + 2) := by
      rw [show m0.log2 + n.log2 + 2 = (m0.log2 + 1) + (n.log2 + 1) by omega, Nat.pow_add]
      exact Nat.mul_lt_mul_of_lt_of_lt h1 h2
    have := (Nat.log2_lt (Nat.mul_ne_zero hm0 hn)).2 h3
    omega
  generalize I + c = u at *
  generalize k + J = v at *
  have hE : u ≤ v + more := by
    rcases Nat.le_total u v with h | h
    · omega
    · have e : m * 2 ^ (u - v) = m0 * n := by
        have : (m * 2 ^ (u - v)) * 2 ^ v = (m0 * n) * 2 ^ v := by rw [H, Nat.mul_assoc, ← Nat.pow_add]; congr 2; omega
        exact Nat.eq_of_mul_eq_mul_right (Nat.two_pow_pos _) this
      have := congrArg Nat.log2 e
      rw [log2_mul_pow hm] at this
      omega
  refine ⟨hE, ?_⟩
  have : (m * 2 ^ more) * 2 ^ u = ((m0 * 2 ^ (v + more - u)) * n) * 2 ^ u := by
    have e1 : (m * 2 ^ more) * 2 ^ u = (m * 2 ^ u) * 2 ^ more := by rw [Nat.mul_right_comm]
    have e2 : ((m0 * 2 ^ (v + more - u)) * n) * 2 ^ u = (m0 * n) * (2 ^ (v + more - u) * 2 ^ u) := by rw [Nat.mul_right_comm m0, Nat.mul_assoc]
    rw [e1, ← H, e2, ← Nat.pow_add, Nat.mul_assoc, ← Nat.pow_add]
    congr 2; omega
  exact Nat.eq_of_mul_eq_mul_right (Nat.two_pow_pos _) this

set_option maxRecDepth 100000 in
/-- A quotient that is exact. -/
theorem fx_div_k (p : Nat) (hp : p = 1074) (hup : unit = 2 ^ p) {a b : Nat} {x y z : Int} (ha : Fx a x) (hb : Fx b y) (hy : y ≠ 0) (hz : x * (unit : Nat) = z * y) (hr : Rp z) : ∃ r, floatBits .quo .f64 a b = some r ∧ Fx r z := by
  obtain ⟨s, m, i, h1, h2, h3⟩ := ha
  obtain ⟨t, n, j, h4, h5, h6⟩ := hb
  have hn : n ≠ 0 := fun e => hy (by rw [← h6, e, sgn_val]; simp)
  have hX : x.natAbs = m * 2 ^ (i + 1074).toNat := by rw [← h3, signed_abs]
  have hY : y.natAbs = n * 2 ^ (j + 1074).toNat := by rw [← h6, signed_abs]
  have hZ : x.natAbs * 2 ^ p = z.natAbs * y.natAbs := by
    have := congrArg Int.natAbs hz
    rw [Int.natAbs_mul, Int.natAbs_mul, Int.natAbs_natCast, hup] at this; exact this
  obtain ⟨I, hI⟩ : ∃ I : Nat, i = (I : Int) - 1074 := ⟨(i + 1074).toNat, by omega⟩
  obtain ⟨J, hJ⟩ : ∃ J : Nat, j = (J : Int) - 1074 := ⟨(j + 1074).toNat, by omega⟩
  have eI : (i + 1074).toNat = I := by omega
  have eJ : (j + 1074).toNat = J := by omega
  rw [eI] at hX h3; rw [eJ] at hY h6
  obtain ⟨m0, k, hz1, hz2, hz3⟩ := hr
  -- the exact equation of the magnitudes
  have H : m0 * n * 2 ^ (k + J) = m * 2 ^ (I + p) := by
    rw [hX, hY, hz1] at hZ
    rw [Nat.pow_add 2 I, ← Nat.mul_assoc, hZ, Nat.pow_add]
    simp only [Nat.mul_assoc, Nat.mul_left_comm, Nat.mul_comm]
  let more := 54 + n.log2 - m.log2
  have hq : floatBits .quo .f64 a b = some (Ieee.double.write (.number (s ^^ t) (2 * (m * 2 ^ more / n) + (m * 2 ^ more % n != 0).toNat) (i - j - more - 1))) := by
    show ((Ieee.double.read a).quotient (Ieee.double.fractionBits + 2) (Ieee.double.read b)).map Ieee.double.write = _
    rw [h1, h4]
    simp only [Ieee.Datum.quotient, if_neg hn, Option.map_some, Nat.shiftLeft_eq]
    rfl
  refine ⟨_, hq, ?_⟩
  by_cases hm : m = 0
  · have hz0 : z = 0 := by
      rw [hm, Nat.zero_mul] at hX
      rw [hX, Nat.zero_mul] at hZ
      have hy0 : y.natAbs ≠ 0 := by simpa using hy
      rcases Nat.mul_eq_zero.1 hZ.symm with h | h
      · simpa using h
      · exact absurd h hy0
    subst hz0
    subst hm
    refine write_fv _ _ _ _ (fun _ => ⟨(-1074 - (i - j - more - 1)).toNat, by omega, by simp⟩) (fun _ => by simp) (fun h => absurd rfl h) ⟨0, 0, by simp, by decide, fun h => absurd rfl h⟩
  · have hm0 : m0 ≠ 0 := fun e => by
      rw [e, Nat.zero_mul, Nat.zero_mul] at H
      rcases Nat.mul_eq_zero.1 H.symm with h | h
      · exact hm h
      · have := Nat.two_pow_pos (I + p); omega
    have hl0 : m0.log2 ≤ 52 := by have := (Nat.log2_lt hm0).2 hz2; omega
    obtain ⟨hE, hd⟩ := div_core (more := more) hm hn hm0 hl0 H rfl
    have hn0 : 0 < n := Nat.pos_of_ne_zero hn
    rw [hd, Nat.mul_div_cancel _ hn0, Nat.mul_mod_left]
    generalize hEE : k + J + more - (I + p) = E at *
    have hmag : 2 * (m0 * 2 ^ E) + ((0 : Nat) != 0).toNat = m0 * 2 ^ (E + 1) := by
      rw [Nat.pow_succ]
      simp only [bne_self_eq_false, Bool.toNat_false]
      rw [Nat.add_zero, Nat.mul_comm 2, Nat.mul_assoc]
    rw [hmag]
    have hplace : i - j - (more : Int) - 1 = (k : Int) - 1074 - ((E + 1 : Nat) : Int) := by omega
    rw [hplace]
    refine write_fv _ _ _ _ (fun h => ⟨(E + 1 : Nat) - k, by omega, ?_⟩) (fun h => ?_) (fun hz0 => ?_) ⟨m0, k, hz1, hz2, hz3⟩
    · rw [hz1, Nat.mul_assoc, ← Nat.pow_add]
      congr 3; omega
    · rw [hz1, Nat.mul_assoc, ← Nat.pow_add]
      congr 2; omega
    · -- signs
      have hx0 : x ≠ 0 := fun e => by
        have h7 := signed_abs s m I
        rw [h3, e, Int.natAbs_zero] at h7
        rcases Nat.mul_eq_zero.1 h7.symm with h | h
        · exact hm h
        · have := Nat.two_pow_pos I; omega
      have sx := signed_neg s m I (by rw [h3]; exact hx0)
      have sy := signed_neg t n J (by rw [h6]; exact hy)
      rw [h3] at sx; rw [h6] at sy
      rw [← sx, ← sy]
      have hu := unit_pos
      have key : decide (z < 0) = (decide (x < 0) ^^ decide (y < 0)) := by
        rcases Int.lt_or_le x 0 with hx | hx <;> rcases Int.lt_or_le y 0 with hy' | hy'
        · have h1 : x * (unit : Nat) < 0 := Int.mul_neg_of_neg_of_pos hx hu
          have : ¬ z < 0 := fun hzz => by have := Int.mul_pos_of_neg_of_neg hzz hy'; omega
          simp [hx, hy', this]
        · have h1 : x * (unit : Nat) < 0 := Int.mul_neg_of_neg_of_pos hx hu
          have : z < 0 := by
            rcases Int.lt_or_le z 0 with h | h
            · exact h
            · have := Int.mul_nonneg h hy'; omega
          simp [hx, Int.not_lt.2 hy', this]
        · have hxp : 0 < x := by omega
          have h1 : 0 < x * (unit : Nat) := Int.mul_pos hxp hu
          have : z < 0 := by
            rcases Int.lt_or_le z 0 with h | h
            · exact h
            · have : z * y ≤ 0 := Int.mul_nonpos_of_nonneg_of_nonpos h (Int.le_of_lt hy'); omega
          simp [Int.not_lt.2 hx, hy', this]
        · have hxp : 0 < x := by omega
          have h1 : 0 < x * (unit : Nat) := Int.mul_pos hxp hu
          have : ¬ z < 0 := fun hzz => by have : z * y ≤ 0 := Int.mul_nonpos_of_nonpos_of_nonneg (Int.le_of_lt hzz) hy'; omega
          simp [Int.not_lt.2 hx, Int.not_lt.2 hy', this]
      exact key.symm

theorem fx_div {a b : Nat} {x y z : Int} (ha : Fx a x) (hb : Fx b y) (hy : y ≠ 0) (hz : x * (unit : Nat) = z * y) (hr : Rp z) : ∃ r, floatBits .quo .f64 a b = some r ∧ Fx r z := fx_div_k 1074 rfl unit.eq_1 ha hb hy hz hr

section
variable {P : Program} {G : Nat → D} {wr : Bool} {o : Oper} {ρ : Operand → D} {S : AH → Prop}
end

theorem ofNum {n : Int} (h : n.natAbs < 2 ^ 53) : ∃ q, floatBits .quo .f64 (FloatKind.f64.nearest n) (FloatKind.f64.nearest 1) = some q ∧ Fx q (n * unit) := by
  refine fx_div (fv_nearest h) (fv_nearest (n := 1) (by decide)) (by have := unit_pos; omega) (by rw [Int.one_mul]) ⟨n.natAbs, 1074, by rw [Int.natAbs_mul, Int.natAbs_natCast, unit.eq_1], h, fun h0 => ?_⟩
  have := (Nat.log2_lt h0).2 h; omega
end Go.Abs
