/-
  What the reference's functions make of texts.
-/
import Derived.Test.YtopgbalmdocboaaGreatDoorZBytes
import Derived.Test.YtopgbalmdocboaaGreatDoorZQ
namespace Go.Abs
set_option linter.unusedVariables false
set_option linter.unusedSimpArgs false
abbrev u8d (b : UInt8) : D := .sc (.int .u8 (b.toNat : Int))
theorem u8_eq {a b : Int} (h : a = b) : D.sc (.int .u8 a) = .sc (.int .u8 b) := by rw [h]
theorem st_eq {a b : List UInt8} (h : a = b) : st a = st b := by rw [h]

theorem lowLoad {A : AH} {s : List UInt8} {i : Nat} (hA : A.o[0]? = some (.cells (bc (lowS (s.take i) ++ s.drop i)))) (h : i < s.length) : loadD A false 1 (.box 0 (0 + (i : Int).toNat * 1)) = some (u8d s[i]) := by
  have hl : i < (lowS (s.take i) ++ s.drop i).length := by rw [low_len (by omega)]; exact h
  rw [load_bc hA hl, low_at h hl]
theorem lowFit {s : List UInt8} {i : Nat} (h : i < s.length) : 0 + (i : Int).toNat * 1 + 1 ≤ (bc (lowS (s.take i) ++ s.drop i)).length := by rw [bc_len, low_len (by omega)]; simp; omega
theorem lowSplice {s : List UInt8} {i : Nat} (h : i < s.length) : splice (bc (lowS (s.take i) ++ s.drop i)) (0 + (i : Int).toNat * 1) (partsD (u8d (lowB s[i]))) = bc (lowS (s.take (i + 1)) ++ s.drop (i + 1)) := by
  rw [splice_bc _ (by rw [low_len (by omega)]; exact h), low_step h]

/-! Names of months and days. -/
def monthWords : List (List UInt8) := [[106, 97, 110], [102, 101, 98], [109, 97, 114], [97, 112, 114], [109, 97, 121], [106, 117, 110], [106, 117, 108], [97, 117, 103], [115, 101, 112], [111, 99, 116], [110, 111, 118], [100, 101, 99], [109, 111, 110], [116, 117, 101], [119, 101, 100], [116, 104, 117], [102, 114, 105], [115, 97, 116], [115, 117, 110]]
def monthB (s : List UInt8) : Bool := decide (3 ≤ s.length) && monthWords.any fun w => decide (s.take 3 = w)
/-- A small letter, after all. -/
def letterB (b : UInt8) : Bool := decide (97 ≤ (lowB b).toNat) && decide ((lowB b).toNat ≤ 122)
def otherWords : List (List UInt8) := [[], [101], [110, 97, 110], [105, 110, 102], [105, 110, 102, 105, 110, 105, 116, 121], [116, 114, 117, 101], [102, 97, 108, 115, 101], [97, 109], [112, 109], [97], [112]]
def lettersB (s : List UInt8) : Bool := s.all letterB && ((!otherWords.any fun w => decide (lowS s = w)) && (decide (2 ≤ s.length) && !monthB (lowS s)))
def otherV (s : List UInt8) : V := if lettersB s = true then errV [35, 86, 65, 76, 85, 69, 33] else doubt
theorem other_no {s : List UInt8} (h : lettersB s = false) : otherV s = doubt := by unfold otherV; rw [h]; rfl
theorem letters_bad {s : List UInt8} {i : Nat} (h : i < s.length) (hb : letterB s[i] = false) : lettersB s = false := by
  unfold lettersB
  rw [show s.all letterB = false from List.all_eq_false.2 ⟨s[i], List.getElem_mem h, by simp [hb]⟩]; rfl
theorem letters_word {s w : List UInt8} (hw : w ∈ otherWords) (h : lowS s = w) : lettersB s = false := by
  unfold lettersB
  rw [show (otherWords.any fun w => decide (lowS s = w)) = true from List.any_eq_true.2 ⟨w, hw, by simp [h]⟩]; simp
theorem letters_short {s : List UInt8} (h : s.length < 2) : lettersB s = false := by
  unfold lettersB
  rw [decide_eq_false (by omega : ¬ 2 ≤ s.length)]; simp
theorem letters_month {s : List UInt8} (h : monthB (lowS s) = true) : lettersB s = false := by
  unfold lettersB; rw [h]; simp
theorem low_length (s : List UInt8) : (lowS s).length = s.length := by simp [lowS]

/-! Digits. -/
def digB (k : Nat) : UInt8 := [48, 49, 50, 51, 52, 53, 54, 55, 56, 57, 65, 66, 67, 68, 69, 70, 71, 72, 73, 74, 75, 76, 77, 78, 79, 80, 81, 82, 83, 84, 85, 86, 87, 88, 89, 90].getD k 0
def digS (n : Nat) : List UInt8 := if h : n < 10 then [digB n] else digS (n / 10) ++ [digB (n % 10)]
termination_by n
theorem digS_len (n k : Nat) (h : n < 10 ^ (k + 1)) : (digS n).length ≤ k + 1 := by
  induction k generalizing n with
  | zero => unfold digS; rw [dif_pos (by simpa using h)]; simp
  | succ k ih =>
    unfold digS
    split
    · simp
    · have : n / 10 < 10 ^ (k + 1) := by rw [Nat.pow_succ] at h; omega
      have := ih _ this
      simp; omega
/-- What a whole number is as a text. -/
def plainS (n : Int) : List UInt8 := (if n < 0 then [45] else []) ++ digS n.natAbs

/-! A number read. -/
def isDig (b : UInt8) : Bool := decide (48 ≤ b.toNat) && decide (b.toNat ≤ 57)
/-- The digits from a place on: how they were read, or nothing. -/
def readL : List UInt8 → Int → Nat → Int → Bool → Option (Int × Nat × Int)
  | [], n, many, d, _ => some (n, many, d)
  | c :: r, n, many, d, pt =>
    if (isDig c && decide (many < 12)) = true then readL r (10 * n + ((c.toNat : Int) - 48)) (many + 1) (if pt then d * 10 else d) pt
    else if (decide (c.toNat = 46) && ((!pt) && (decide (0 < many) && decide (0 < r.length)))) = true then readL r n many d true
    else none
def fracD (n d : Int) : V := if (n * 16).tmod d = 0 then sixV ((n * 16).tdiv d) else doubt
def readV (s : List UInt8) : V :=
  match readL (if s.head? = some 45 then s.tail else s) 0 0 1 false with
  | none => otherV s
  | some (n, many, d) => if many = 0 ∨ 100000 < d then otherV s else fracD (if s.head? = some 45 then -n else n) d

theorem fracD_kind (n d : Int) : fracD n d = doubt ∨ ∃ v n' d', fracD n d = num n' d' ∧ Six v n' d' := by
  unfold fracD
  split
  · rcases sixV_cases ((n * 16).tdiv d) with h | ⟨n', d', h, hs⟩
    · exact .inl h
    · exact .inr ⟨_, n', d', h, hs⟩
  · exact .inl rfl
theorem readV_kind (s : List UInt8) : readV s = doubt ∨ readV s = errV [35, 86, 65, 76, 85, 69, 33] ∨ ∃ v n d, readV s = num n d ∧ Six v n d := by
  have ho : otherV s = doubt ∨ otherV s = errV [35, 86, 65, 76, 85, 69, 33] := by unfold otherV; split <;> simp
  unfold readV
  split
  · rcases ho with h | h <;> simp [h]
  · split
    · rcases ho with h | h <;> simp [h]
    · rename_i n many d _ _
      rcases fracD_kind (if s.head? = some 45 then -n else n) d with h | ⟨v, n', d', h, hs⟩
      · exact .inl h
      · exact .inr (.inr ⟨v, n', d', h, hs⟩)
def wholeB (v : V) : Bool := decide (v.kind = 1) && decide (v.den = 1)
def numericT (s : List UInt8) : Bool := lettersB s || (wholeB (readV s) && (decide (plainS (readV s).num = s) && decide (absI (readV s).num < 1000000000)))
end Go.Abs
namespace Go.Abs
theorem dig_cut : ∀ k, k < 10 → (([48, 49, 50, 51, 52, 53, 54, 55, 56, 57, 65, 66, 67, 68, 69, 70, 71, 72, 73, 74, 75, 76, 77, 78, 79, 80, 81, 82, 83, 84, 85, 86, 87, 88, 89, 90] : List UInt8).take (k + 1)).drop k = [digB k] := by decide
theorem digS_lt {n : Nat} (h : n < 10) : digS n = [digB n] := by unfold digS; rw [dif_pos h]
theorem digS_ge {n : Nat} (h : ¬ n < 10) : digS n = digS (n / 10) ++ [digB (n % 10)] := by conv => lhs; unfold digS; rw [dif_neg h]
theorem digS_le {n : Nat} (h : n < 1000000000000000) : (digS n).length ≤ 15 := digS_len n 14 h
theorem nat_tmod {n : Nat} : (n : Int).tmod 10 = ((n % 10 : Nat) : Int) := by rw [Int.tmod_eq_emod_of_nonneg (by omega)]; rfl
theorem nat_tdiv {n : Nat} : (n : Int).tdiv 10 = ((n / 10 : Nat) : Int) := by rw [Int.tdiv_eq_ediv_of_nonneg (by omega)]; rfl

theorem head_of {s : List UInt8} (h : 0 < s.length) : decide (((s.getD (0 : Int).toNat 0).toNat : Int) = 45) = decide (s.head? = some 45) := by
  cases s with
  | nil => simp at h
  | cons b r =>
    have : ((b.toNat : Int) = 45) ↔ b = 45 := ⟨fun e => UInt8.toNat_inj.1 (by show b.toNat = 45; omega), fun e => by subst e; rfl⟩
    simp [this]
theorem head_nil {s : List UInt8} (h : ¬ 0 < s.length) : decide (s.head? = some 45) = false := by
  cases s with
  | nil => rfl
  | cons _ _ => simp at h
def skipS (s : List UInt8) : List UInt8 := if s.head? = some 45 then s.tail else s
theorem skip_yes {s : List UInt8} (h : decide (s.head? = some 45) = true) : skipS s = s.drop 1 := by unfold skipS; rw [if_pos (of_decide_eq_true h)]; simp
theorem skip_no {s : List UInt8} (h : decide (s.head? = some 45) = false) : skipS s = s.drop 0 := by unfold skipS; rw [if_neg (of_decide_eq_false h)]; simp
section
variable {s : List UInt8} {i : Nat} {n d : Int} {many : Nat} {pt : Bool}
theorem read_dig (h : i < s.length) (h1 : 48 ≤ s[i].toNat) (h2 : s[i].toNat ≤ 57) (h3 : many < 12) : readL (s.drop i) n many d pt = readL (s.drop (i + 1)) (10 * n + ((s[i].toNat : Int) - 48)) (many + 1) (if pt then d * 10 else d) pt := by
  rw [List.drop_eq_getElem_cons h]
  conv => lhs; unfold readL
  rw [if_pos (by simp [isDig, h1, h2, h3])]
theorem read_pt (h : i < s.length) (h1 : s[i].toNat = 46) (h2 : pt = false) (h3 : 0 < many) (h4 : i + 1 < s.length) : readL (s.drop i) n many d pt = readL (s.drop (i + 1)) n many d true := by
  rw [List.drop_eq_getElem_cons h]
  conv => lhs; unfold readL
  rw [if_neg (by simp [isDig, h1]), if_pos (by simp [h1, h2, h3]; omega)]
theorem read_no (h : i < s.length) (h1 : ¬ (48 ≤ s[i].toNat ∧ s[i].toNat ≤ 57 ∧ many < 12)) (h2 : ¬ (s[i].toNat = 46 ∧ pt = false ∧ 0 < many ∧ i + 1 < s.length)) : readL (s.drop i) n many d pt = none := by
  rw [List.drop_eq_getElem_cons h]
  unfold readL
  rw [if_neg (by simp [isDig]; intro a b; exact Nat.le_of_not_lt fun c => h1 ⟨a, b, c⟩), if_neg (by
    simp only [Bool.and_eq_true, decide_eq_true_eq, Bool.not_eq_true', List.length_drop]
    rintro ⟨a, b, c, e⟩
    exact h2 ⟨a, b, c, by omega⟩)]
end
theorem read_other {s : List UInt8} (h : readL (skipS s) 0 0 1 false = none) : readV s = otherV s := by
  unfold readV
  rw [show (if s.head? = some 45 then s.tail else s) = skipS s from rfl, h]
theorem read_end {s : List UInt8} {n d : Int} {many : Nat} (h : readL (skipS s) 0 0 1 false = some (n, many, d)) : readV s = if many = 0 ∨ 100000 < d then otherV s else fracD (if s.head? = some 45 then -n else n) d := by
  unfold readV
  rw [show (if s.head? = some 45 then s.tail else s) = skipS s from rfl, h]
theorem ten_le {m : Nat} (h : m ≤ 12) : (10 : Nat) ^ m ≤ 1000000000000 := by
  have : (10 : Nat) ^ m ≤ 10 ^ 12 := Nat.pow_le_pow_right (by omega) h
  omega
theorem ten_succ (m : Nat) : (10 : Nat) ^ (m + 1) = 10 * 10 ^ m := by rw [Nat.pow_succ, Nat.mul_comm]
end Go.Abs
namespace Go.Abs
/-- From blank to tilde. -/
def asciiB (s : List UInt8) : Bool := s.all fun b => decide (32 ≤ b.toNat) && decide (b.toNat ≤ 126)
def asTextV (s : List UInt8) : V := if asciiB s = true then strV s else doubt
theorem take_all' {α : Type} {l : List α} {i : Nat} {Q : α → Prop} (h : l.length ≤ i) (hp : ∀ v ∈ l.take i, Q v) : ∀ v ∈ l, Q v := fun v hv => hp v (by rw [List.take_of_length_le h]; exact hv)
theorem take_more' {α : Type} {l : List α} {i : Nat} {Q : α → Prop} (h : i < l.length) (hp : ∀ v ∈ l.take i, Q v) (hi : Q l[i]) : ∀ v ∈ l.take (i + 1), Q v := fun v hv => by
  rw [List.take_succ_eq_append_getElem h] at hv
  rcases List.mem_append.1 hv with hv | hv
  · exact hp v hv
  · simp at hv; subst hv; exact hi
/-- What `numeric` says of a text, a number, or what is unsure. -/
def numP (v : V) : Bool := if v.kind = 2 then numericT v.text else decide (v.kind = 1)

/-- RIGHT and REPLACE, as the reference says them. -/
def rightV (s : List UInt8) (n : Int) : V := if n < 0 then errV [35, 86, 65, 76, 85, 69, 33] else strV (s.drop (s.length - min n.toNat s.length))
def cutFrom (s : List UInt8) (n : Int) : Nat := min (n.toNat - 1) s.length
def cutTo (s : List UInt8) (n k : Int) : Nat := cutFrom s n + min k.toNat (s.length - cutFrom s n)
def replV (s : List UInt8) (n k : Int) (t : List UInt8) : V := strV (s.take (cutFrom s n) ++ t ++ s.drop (cutTo s n k))
/-- DECIMAL, as the reference says it. -/
def digV (c : UInt8) : Nat := if 48 ≤ (lowB c).toNat ∧ (lowB c).toNat ≤ 57 then (lowB c).toNat - 48 else if 97 ≤ (lowB c).toNat ∧ (lowB c).toNat ≤ 122 then (lowB c).toNat - 87 else 36
def decBad (b : Int) (i : Nat) (c : UInt8) : Prop := digV c = 36 ∨ (i = 1 ∧ ((lowB c).toNat = 120 ∨ (lowB c).toNat = 111 ∨ (lowB c).toNat = 98)) ∨ b ≤ (digV c : Int)
instance (b : Int) (i : Nat) (c : UInt8) : Decidable (decBad b i c) := by unfold decBad; infer_instance
def decL (b : Int) : List UInt8 → Nat → Int → Option Int
  | [], _, n => some n
  | c :: t, i, n => if decBad b i c then none else if 99999999999 < n * b + (digV c : Int) then none else decL b t (i + 1) (n * b + (digV c : Int))
def decV (s : List UInt8) (b : Int) : V := if s = [] ∨ 255 < s.length then doubt else match decL b s 0 0 with | none => doubt | some n => intV n
section
variable {s : List UInt8} {i : Nat} {b n : Int}
end

end Go.Abs
