/- Walks of the functions, printed by program, and the logic behind them: each theorem says what one function or one step answers. -/
import Derived.Test.YtopgbalmdocboaaGreatDoorZBy
import Derived.Test.YtopgbalmdocboaaGreatDoorZQ
namespace Go.Abs
set_option linter.unusedVariables false
set_option linter.unusedSimpArgs false
abbrev u8d (b : UInt8) : D := .sc (.int .u8 (b.toNat : Int))
theorem u8_eq {a b : Int} (h : a = b) : D.sc (.int .u8 a) = .sc (.int .u8 b) := by rw [h]
theorem lowLoad {A : AH} {s : List UInt8} {i : Nat} (hA : A.o[0]? = some (.cells (bc (lowS (s.take i) ++ s.drop i)))) (h : i < s.length) : loadD A false 1 (.box 0 (0 + (i : Int).toNat * 1)) = some (u8d s[i]) := by
  have hl : i < (lowS (s.take i) ++ s.drop i).length := by rw [low_len (by omega)]; exact h
  rw [load_bc hA hl, low_at h hl]
theorem lowFit {s : List UInt8} {i : Nat} (h : i < s.length) : 0 + (i : Int).toNat * 1 + 1 ≤ (bc (lowS (s.take i) ++ s.drop i)).length := by rw [bc_len, low_len (by omega)]; simp; omega
theorem lowSplice {s : List UInt8} {i : Nat} (h : i < s.length) : splice (bc (lowS (s.take i) ++ s.drop i)) (0 + (i : Int).toNat * 1) (partsD (u8d (lowB s[i]))) = bc (lowS (s.take (i + 1)) ++ s.drop (i + 1)) := by
  rw [splice_bc _ (by rw [low_len (by omega)]; exact h), low_step h]

/-! Names of months and days. -/
def monthWords : List (List UInt8) := [[106, 97, 110], [102, 101, 98], [109, 97, 114], [97, 112, 114], [109, 97, 121], [106, 117, 110], [106, 117, 108], [97, 117, 103], [115, 101, 112], [111, 99, 116], [110, 111, 118], [100, 101, 99], [109, 111, 110], [116, 117, 101], [119, 101, 100], [116, 104, 117], [102, 114, 105], [115, 97, 116], [115, 117, 110]]
def monthB (s : List UInt8) : Bool := decide (3 ≤ s.length) && monthWords.any fun w => decide (s.take 3 = w)
/-- A small letter, after all. -/
def letterB (b : UInt8) : Bool := decide (97 ≤ (lowB b).toNat) && decide ((lowB b).toNat ≤ 122)
def otherWords : List (List UInt8) := [[], [101], [110, 97, 110], [105, 110, 102], [105, 110, 102, 105, 110, 105, 116, 121], [116, 114, 117, 101], [102, 97, 108, 115, 101], [97, 109], [112, 109], [97], [112]]
def lettersB (s : List UInt8) : Bool := s.all letterB && ((!otherWords.any fun w => decide (lowS s = w)) && (decide (2 ≤ s.length) && !monthB (lowS s)))
def otherV (s : List UInt8) : V := if lettersB s = true then errV [35, 86, 65, 76, 85, 69, 33] else doubt
theorem other_no {s : List UInt8} (h : lettersB s = false) : otherV s = doubt := by unfold otherV; rw [h]; rfl
theorem letters_bad {s : List UInt8} {i : Nat} (h : i < s.length) (hb : letterB s[i] = false) : lettersB s = false := by
  unfold lettersB
  rw [show s.all letterB = false from List.all_eq_false.2 ⟨s[i], List.getElem_mem h, by simp [hb]⟩]; rfl
theorem letters_word {s w : List UInt8} (hw : w ∈ otherWords) (h : lowS s = w) : lettersB s = false := by
  unfold lettersB
  rw [show (otherWords.any fun w => decide (lowS s = w)) = true from List.any_eq_true.2 ⟨w, hw, by simp [h]⟩]; simp
theorem letters_short {s : List UInt8} (h : s.length < 2) : lettersB s = false := by
  unfold lettersB
  rw [decide_eq_false (by omega : ¬ 2 ≤ s.length)]; simp
theorem letters_month {s : List UInt8} (h : monthB (lowS s) = true) : lettersB s = false := by
  unfold lettersB; rw [h]; simp
theorem low_length (s : List UInt8) : (lowS s).length = s.length := by simp [lowS]

/-! Digits. -/
def digB (k : Nat) : UInt8 := [48, 49, 50, 51, 52, 53, 54, 55, 56, 57, 65, 66, 67, 68, 69, 70, 71, 72, 73, 74, 75, 76, 77, 78, 79, 80, 81, 82, 83, 84, 85, 86, 87, 88, 89, 90].getD k 0
def digS (n : Nat) : List UInt8 := if h : n < 10 then [digB n] else digS (n / 10) ++ [digB (n % 10)]
termination_by n
/-- What a whole number is as a text. -/
def plainS (n : Int) : List UInt8 := (if n < 0 then [45] else []) ++ digS n.natAbs

/-! A number read. -/
def isDig (b : UInt8) : Bool := decide (48 ≤ b.toNat) && decide (b.toNat ≤ 57)
/-- The digits from a place on: how they were read, or nothing. -/
def readL : List UInt8 → Int → Nat → Int → Bool → Option (Int × Nat × Int)
  | [], n, many, d, _ => some (n, many, d)
  | c :: r, n, many, d, pt =>
    if (isDig c && decide (many < 12)) = true then readL r (10 * n + ((c.toNat : Int) - 48)) (many + 1) (if pt then d * 10 else d) pt
    else if (decide (c.toNat = 46) && ((!pt) && (decide (0 < many) && decide (0 < r.length)))) = true then readL r n many d true
    else none
def fracD (n d : Int) : V := if (n * 16).tmod d = 0 then sixV ((n * 16).tdiv d) else doubt
def readV (s : List UInt8) : V :=
  match readL (if s.head? = some 45 then s.tail else s) 0 0 1 false with
  | none => otherV s
  | some (n, many, d) => if many = 0 ∨ 100000 < d then otherV s else fracD (if s.head? = some 45 then -n else n) d

def wholeB (v : V) : Bool := decide (v.kind = 1) && decide (v.den = 1)
def numericT (s : List UInt8) : Bool := lettersB s || (wholeB (readV s) && (decide (plainS (readV s).num = s) && decide (absI (readV s).num < 1000000000)))
end Go.Abs
namespace Go.Abs
def skipS (s : List UInt8) : List UInt8 := if s.head? = some 45 then s.tail else s
section
variable {s : List UInt8} {i : Nat} {n d : Int} {many : Nat} {pt : Bool}
end
end Go.Abs
namespace Go.Abs
/-- From blank to tilde. -/
def asciiB (s : List UInt8) : Bool := s.all fun b => decide (32 ≤ b.toNat) && decide (b.toNat ≤ 126)
def asTextV (s : List UInt8) : V := if asciiB s = true then strV s else doubt
theorem take_all' {α : Type} {l : List α} {i : Nat} {Q : α → Prop} (h : l.length ≤ i) (hp : ∀ v ∈ l.take i, Q v) : ∀ v ∈ l, Q v := fun v hv => hp v (by rw [List.take_of_length_le h]; exact hv)
theorem take_more' {α : Type} {l : List α} {i : Nat} {Q : α → Prop} (h : i < l.length) (hp : ∀ v ∈ l.take i, Q v) (hi : Q l[i]) : ∀ v ∈ l.take (i + 1), Q v := fun v hv => by
  rw [List.take_succ_eq_append_getElem h] at hv
  rcases List.mem_append.1 hv with hv | hv
  · exact hp v hv
  · simp at hv; subst hv; exact hi
theorem live_tags (A : AH) : (A.tags 1).live A.ln = true := by
  show (A.live A.ln || (Nat.ble A.ln A.ln && Nat.blt A.ln (A.ln + 1))) = true
  have h1 : Nat.ble A.ln A.ln = true := Nat.ble_eq.mpr (Nat.le_refl _)
  have h2 : Nat.blt A.ln (A.ln + 1) = true := Nat.ble_eq.mpr (Nat.le_refl _)
  rw [h1, h2]; simp

/-- What `numeric` says of a text, a number, or what is unsure. -/
def numP (v : V) : Bool := if v.kind = 2 then numericT v.text else decide (v.kind = 1)

/-- RIGHT and REPLACE, as the reference says them. -/
def rightV (s : List UInt8) (n : Int) : V := if n < 0 then errV [35, 86, 65, 76, 85, 69, 33] else strV (s.drop (s.length - min n.toNat s.length))
def cutFrom (s : List UInt8) (n : Int) : Nat := min (n.toNat - 1) s.length
def cutTo (s : List UInt8) (n k : Int) : Nat := cutFrom s n + min k.toNat (s.length - cutFrom s n)
def replV (s : List UInt8) (n k : Int) (t : List UInt8) : V := strV (s.take (cutFrom s n) ++ t ++ s.drop (cutTo s n k))
/-- DECIMAL, as the reference says it. -/
def digV (c : UInt8) : Nat := if 48 ≤ (lowB c).toNat ∧ (lowB c).toNat ≤ 57 then (lowB c).toNat - 48 else if 97 ≤ (lowB c).toNat ∧ (lowB c).toNat ≤ 122 then (lowB c).toNat - 87 else 36
def decBad (b : Int) (i : Nat) (c : UInt8) : Prop := digV c = 36 ∨ (i = 1 ∧ ((lowB c).toNat = 120 ∨ (lowB c).toNat = 111 ∨ (lowB c).toNat = 98)) ∨ b ≤ (digV c : Int)
instance (b : Int) (i : Nat) (c : UInt8) : Decidable (decBad b i c) := by unfold decBad; infer_instance
def decL (b : Int) : List UInt8 → Nat → Int → Option Int
  | [], _, n => some n
  | c :: t, i, n => if decBad b i c then none else if 99999999999 < n * b + (digV c : Int) then none else decL b t (i + 1) (n * b + (digV c : Int))
def decV (s : List UInt8) (b : Int) : V := if s = [] ∨ 255 < s.length then doubt else match decL b s 0 0 with | none => doubt | some n => intV n
section
variable {s : List UInt8} {i : Nat} {b n : Int}
end

end Go.Abs
namespace Go.Abs
set_option linter.unusedVariables false
set_option linter.unusedSimpArgs false
/-- What `numeric` says of any single value. -/
def numW (v : V) : Bool := if v.kind = 1 ∨ v.kind = 3 then true else if v.kind = 2 then numericT v.text else false
/-- A value that IF may choose. -/
def givenV (v : V) : Bool := decide (v.kind = 1) || ((decide (v.kind = 2) && asciiB v.text) || decide (v.kind = 3))
def goodV (v : V) : Bool := decide (¬ v.kind = 3) && givenV v
end Go.Abs
