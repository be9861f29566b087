/- Walks of the functions, printed by program, and the logic behind them: each theorem says what one function or one step answers. -/
import Derived.Test.YtopgbalmdocboaaGreatDoorZTx
import Derived.Test.YtopgbalmdocboaaGreatDoorZExt
import Derived.Test.YtopgbalmdocboaaGreatDoorZLi
import Derived.Test.YtopgbalmdocboaaGreatDoorZBy
import Derived.Lib.ItoaMem
import Derived.Test.YtopgbalmdocboaaGreatDoorZNu
namespace Go.Abs
set_option linter.unusedVariables false
set_option linter.unusedSimpArgs false
abbrev w64 (n : Int) : D := .sc (.int .u64 n)
/-- The library's scaled product: two bits more than the whole part, and a mark of what is cut off. -/
def usc (x H s : Nat) : Nat := (x * H / 2 ^ (64 + s)) ||| (if 1 < x * H % 2 ^ (64 + s) then 1 else 0)
/-- The numbers of the library's table for a number of sixteenths whose highest bit is L: places, product, shift. -/
def pOf (L : Nat) : Nat := ((56 - L) * 78913 + 262143) / 262144
def pOf2 (L : Nat) : Nat := ((56 - L) * 631305 + 261663 + 2097151) / 2097152
def lpOf (p : Nat) : Nat := p * 108853 / 32768
def hiOf (p : Nat) : Nat := 10 ^ p * 2 ^ (63 - lpOf p)
def shOf (L p : Nat) : Nat := 64 - L - lpOf p
structure Sh (L p : Nat) : Prop where
  eq : 2 ^ (63 - L) * hiOf p = 4 * (10 ^ p / 16) * 2 ^ (64 + shOf L p)
  lo : 2 * 2 ^ (64 + shOf L p) ≤ 2 ^ 10 * hiOf p
  hi : 2 ^ 10 * hiOf p < 27 * 2 ^ (64 + shOf L p)
  ten : 10 ^ p / 16 % 10 = 0
  p1 : 5 ≤ p
  p2 : p ≤ 17
  s : 4 ≤ shOf L p ∧ shOf L p < 64 ∧ L + lpOf p ≤ 64
  hl : 2 ^ 63 ≤ hiOf p ∧ hiOf p < 2 ^ 64
instance (L p : Nat) : Decidable (Sh L p) :=
  decidable_of_iff ((2 ^ (63 - L) * hiOf p = 4 * (10 ^ p / 16) * 2 ^ (64 + shOf L p) ∧ 2 * 2 ^ (64 + shOf L p) ≤ 2 ^ 10 * hiOf p ∧ 2 ^ 10 * hiOf p < 27 * 2 ^ (64 + shOf L p)) ∧ (10 ^ p / 16 % 10 = 0 ∧ 5 ≤ p ∧ p ≤ 17) ∧ (4 ≤ shOf L p ∧ shOf L p < 64 ∧ L + lpOf p ≤ 64) ∧ (2 ^ 63 ≤ hiOf p ∧ hiOf p < 2 ^ 64))
    ⟨fun ⟨⟨a, b, c⟩, ⟨d, e, f⟩, g, h⟩ => ⟨a, b, c, d, e, f, g, h⟩, fun h => ⟨⟨h.eq, h.lo, h.hi⟩, ⟨h.ten, h.p1, h.p2⟩, h.s, h.hl⟩⟩
section
variable {a L p m X : Nat}
end

/-! Words of 64 bits. -/
theorem w64_id {n : Nat} (h : n < 2 ^ 64) : IntKind.u64.wrap (n : Int) = (n : Int) := u64_wrap h
theorem shl_nat (q s : Nat) (hs : s ≤ 64) (h : q * 2 ^ s < 2 ^ 64) : IntKind.u64.wrap ((q : Int) * 2 ^ min ((s : Int).toNat) IntKind.u64.bits) = ((q * 2 ^ s : Nat) : Int) := by
  show IntKind.u64.wrap ((q : Int) * 2 ^ min ((s : Int).toNat) 64) = _
  rw [Int.toNat_natCast, Nat.min_eq_left hs, show ((q : Int) * 2 ^ s) = ((q * 2 ^ s : Nat) : Int) by rw [Int.natCast_mul, Int.natCast_pow]; rfl]
  exact w64_id h

/-- How many places the library takes. -/
def plS (a L : Nat) : Nat := if a * 2 ^ (63 - L) = 2 ^ 63 then pOf2 L else pOf L
end Go.Abs
namespace Go.Abs
set_option linter.unusedVariables false
set_option linter.unusedSimpArgs false
open Go.Sort
abbrev encB : UInt8 → Value := fun b => Value.int .u8 (b.toNat : Int)
end Go.Abs
namespace Go.Abs
set_option linter.unusedVariables false
set_option linter.unusedSimpArgs false
open Go.Lib
/-- A number without the zeros at its end; and how many they are. -/
def core (u : Nat) : Nat := if h : u ≠ 0 ∧ u % 10 = 0 then core (u / 10) else u
termination_by u
decreasing_by omega
def tzc (u : Nat) : Nat := if h : u ≠ 0 ∧ u % 10 = 0 then tzc (u / 10) + 1 else 0
termination_by u
decreasing_by omega
/-- The text of an exponent that is not negative, and below 100. -/
def expS (e : Nat) : List UInt8 := if e < 10 then [48, UInt8.ofNat (e + 48)] else [UInt8.ofNat (e / 10 + 48), UInt8.ofNat (e % 10 + 48)]
/-- The text of digits with so many of them ahead of the point. -/
def fmtT (ds : List UInt8) (dp : Int) : List UInt8 :=
  if 6 < dp then ds.take 1 ++ (if 1 < ds.length then 46 :: ds.drop 1 else []) ++ 101 :: 43 :: expS (dp - 1).toNat
  else (if 0 < dp then ds.take dp.toNat ++ List.replicate (dp.toNat - ds.length) 48 else [48]) ++ (if dp < ds.length then 46 :: (List.replicate (-dp).toNat 48 ++ ds.drop dp.toNat) else [])
/-- What the library prints of a sixteenths, whose highest bit is L. -/
def digN (a L : Nat) : Nat := a * (10 ^ plS a L / 16) / 10
def dpN (a L : Nat) : Int := (nDigits (digN a L) : Int) + (1 - (plS a L : Int))
def numT (neg : Bool) (a L : Nat) : List UInt8 := (if neg = true then [45] else []) ++ fmtT (decDigits (core (digN a L))) (dpN a L)
end Go.Abs
namespace Go.Abs
set_option linter.unusedVariables false
set_option linter.unusedSimpArgs false
open Ieee
end Go.Abs
namespace Go.Abs
set_option linter.unusedVariables false
set_option linter.unusedSimpArgs false
section
variable {P : Program} {G : Nat → D} {g g' : Gh} {l l' : Lo} {A A' : AH} {wr : Bool} {Prot : Nat → Prop} {w w' : World} {o : Oper} {ρ : Operand → D} {S : AH → Prop}
/-- Bytes as a slice. -/
def SrcB (A : AH) (d : D) (ys : List UInt8) : Prop := slc d = some (bc ys, ys.length) ∨ ∃ k off c cs, d = .hs k off ys.length c ∧ A.h k = some cs ∧ (cs.drop off).take ys.length = bc ys ∧ off + ys.length ≤ cs.length
/-- A row of bytes that is being written, beside another one that stays. -/
def RowB (h : Heap) (b : Nat) (ocs : Option (List D)) (d : D) (t : List UInt8) : Prop :=
  ∃ k cap sp, d = .hs k 0 t.length cap ∧ h k = some (bc t ++ sp) ∧ (bc t ++ sp).length = cap ∧ t.length ≤ cap ∧ cap ≤ maxLen ∧ 0 < cap ∧ ∀ cs, ocs = some cs → h b = some cs ∧ k ≠ b
end
end Go.Abs
namespace Go.Abs
set_option linter.unusedVariables false
set_option linter.unusedSimpArgs false
open Go.Lib
section
variable {P : Program} {G : Nat → D} {A A' : AH} {wr : Bool} {o : Oper} {ρ : Operand → D}
end
section
variable {P : Program} {G : Nat → D} {wr : Bool} {Q : Exit → Env → AH → Prop} {env : Env} {A : AH} {o : Oper} {ρ : Operand → D}
/-- Many ways to one place. -/
theorem w_join {c : Code} (I : Env → AH → Prop) (h1 : aw P G wr c (fun ex e A => ex = .normal ∧ I e A) env A) (h2 : ∀ e A, I e A → Q .normal e A) : aw P G wr c Q env A :=
  aw_mono c h1 fun ex e A h => by obtain ⟨rfl, hI⟩ := h; exact h2 e A hI
end
/-- A shared object set. -/
def setH (h : Heap) (b : Nat) (cs : List D) : Heap := fun i => if i = b then some cs else h i
theorem setH_at (h : Heap) (b : Nat) (cs : List D) : setH h b cs b = some cs := if_pos rfl
theorem setH_off {h : Heap} {b i : Nat} {cs : List D} (hi : i ≠ b) : setH h b cs i = h i := if_neg hi
theorem RowB.cast {h : Heap} {b : Nat} {cs : Option (List D)} {d : D} {t t' : List UInt8} (hR : RowB h b cs d t) (e : t = t') : RowB h b cs d t' := e ▸ hR
theorem RowB.base {h : Heap} {b : Nat} {cs : List D} {d : D} {t : List UInt8} (hR : RowB h b (some cs) d t) : h b = some cs := by
  obtain ⟨k, cap, sp, _, _, _, _, _, _, h1⟩ := hR; exact (h1 cs rfl).1
/-- A row of bytes alone. -/
def RowA (h : Heap) (d : D) (t : List UInt8) : Prop := ∃ k cap sp, d = .hs k 0 t.length cap ∧ h k = some (bc t ++ sp)
theorem RowB.row {h : Heap} {b : Nat} {cs : Option (List D)} {d : D} {t : List UInt8} (hR : RowB h b cs d t) : RowA h d t := by
  obtain ⟨k, cap, sp, h1, h2, _⟩ := hR; exact ⟨k, cap, sp, h1, h2⟩
end Go.Abs
