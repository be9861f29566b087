/-
  Plain facts: cells as the laws draw them, and tables of them.
-/
import Derived.Test.YtpjckdhgefbonaaGreatDoorZTx
namespace Go.Abs
set_option linter.unusedVariables false
set_option linter.unusedSimpArgs false
structure It where
  kind : Int
  num : Int
  text : List UInt8
def It.c (x : It) : List D := [i64 x.kind, i64 x.num, st x.text]
def itL (l : List It) : D := .im (l.flatMap It.c) l.length
theorem it_len (x : It) : (It.c x).length = 3 := rfl
theorem take_itl {l : List It} {i : Nat} (h : i < l.length) : takeAt true 3 (l.flatMap It.c) ((i : Int).toNat * 3) = some (.agg (It.c l[i])) := take_flat It.c 3 it_len h
theorem len_itl (l : List It) : (l.flatMap It.c).length = l.length * 3 := length_flat It.c 3 it_len l
/-- A number from 0 to n - 1. -/
def partI (k n : Int) : Int := if k.tmod n < 0 then k.tmod n + n else k.tmod n
theorem part_le {k n : Int} (h : 0 < n) : 0 ≤ partI k n ∧ partI k n < n := by
  have h1 := Int.tmod_lt_of_pos k h
  have h2 : -n < k.tmod n := by
    rcases Int.lt_or_le k 0 with hk | hk
    · have : (-k).tmod n < n := Int.tmod_lt_of_pos _ h
      rw [Int.neg_tmod] at this; omega
    · have := Int.tmod_nonneg n hk; omega
  unfold partI; split <;> omega
def errsT : List (List UInt8) := [[35, 68, 73, 86, 47, 48, 33], [35, 78, 47, 65], [35, 86, 65, 76, 85, 69, 33], [35, 82, 69, 70, 33], [35, 78, 65, 77, 69, 63], [35, 78, 85, 77, 33], [35, 78, 85, 76, 76, 33]]
def errT (n : Int) : Nat := (partI n 7).toNat
theorem errT_lt (n : Int) : errT n < 7 := by have := part_le (k := n) (n := 7) (by omega); unfold errT; omega
def itV (x : It) : V :=
  if partI x.kind 6 = 1 then intV x.num else if partI x.kind 6 = 2 then sixV (x.num.tmod 1099511627776 * 4) else if partI x.kind 6 = 3 then strV x.text else if partI x.kind 6 = 4 then boolV (decide (¬ x.num.tmod 2 = 0)) else if partI x.kind 6 = 5 then errV (errsT[errT x.num]'(errT_lt x.num)) else noV
theorem sort_it (x : It) : Sort1 (itV x) := by
  unfold itV
  (repeat' split)
  · exact sort_int _
  · exact sort_six _
  · exact .txt _
  · exact .other _ (by simp [boolV]) rfl
  · exact .other _ (by simp [errV]) rfl
  · exact .other _ (by simp [noV]) rfl
def itU (x : It) : U := (itV x).u
theorem itU_v (x : It) : (itU x).v = itV x := u_v (sort_it x).rows
def noU : U := ⟨0, 0, 0, []⟩
/-- A table of cells: whole rows of so many columns. -/
def cellU (l : List It) (n : Nat) : U := if h : n < l.length then itU l[n] else noU
def rowU (l : List It) (c i k : Nat) : List U := (List.range k).map fun j => cellU l (i * c + j)
def rowsU (l : List It) (c m : Nat) : List (List U) := (List.range m).map fun i => rowU l c i c
theorem rowU_succ (l : List It) (c i k : Nat) : rowU l c i (k + 1) = rowU l c i k ++ [cellU l (i * c + k)] := by simp [rowU, List.range_succ]
theorem rowsU_succ (l : List It) (c m : Nat) : rowsU l c (m + 1) = rowsU l c m ++ [rowU l c m c] := by simp [rowsU, List.range_succ]
def colsN (cols : Int) : Nat := (1 + partI cols 6).toNat
def rowsN (n c : Nat) : Nat := if n / c = 0 then 1 else n / c
def tabU (l : List It) (cols : Int) : List (List U) := rowsU (l.take 120) (colsN cols) (rowsN (l.take 120).length (colsN cols))
end Go.Abs
