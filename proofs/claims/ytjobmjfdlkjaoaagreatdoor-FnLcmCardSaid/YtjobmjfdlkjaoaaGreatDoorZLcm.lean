/-
  LCM, as the reference says it.
-/
import Derived.Test.YtjobmjfdlkjaoaaGreatDoorZQ
namespace Go.Abs
set_option linter.unusedVariables false
set_option linter.unusedSimpArgs false
def lcmI : Nat → List Int → Option Nat
  | o, [] => some o
  | o, n :: t => if n = 0 ∨ 1000000 < o then none else lcmI (o / Nat.gcd o n.toNat * n.toNat) t
def lcmV (ns : List Int) : V := match lcmI 1 ns with | some o => num o 1 | none => doubt
def okL (n : Int) : Bool := decide (0 ≤ n) && decide (n ≤ 1000)
def okP (v : V) : Bool := decide (v.kind = 1) && okL v.num
def isN (v : V) : Bool := decide (v.kind = 1)
section
variable {l : List Int} {i o : Nat}
theorem lcm_bad (h : i < l.length) (hb : l[i] = 0 ∨ 1000000 < o) : lcmI o (l.drop i) = none := by rw [List.drop_eq_getElem_cons h]; unfold lcmI; rw [if_pos hb]
theorem lcm_step (h : i < l.length) (hb : ¬ (l[i] = 0 ∨ 1000000 < o)) : lcmI o (l.drop i) = lcmI (o / Nat.gcd o l[i].toNat * l[i].toNat) (l.drop (i + 1)) := by
  rw [List.drop_eq_getElem_cons h]
  conv => lhs; unfold lcmI
  rw [if_neg hb]
theorem lcm_end (h : l.length ≤ i) : lcmI o (l.drop i) = some o := by rw [List.drop_eq_nil_of_le h]; rfl
theorem lcm_le {n : Nat} (ho : 1 ≤ o) (ho2 : o ≤ 1000000) (hn : 1 ≤ n) (hn2 : n ≤ 1000) : 1 ≤ o / Nat.gcd o n * n ∧ o / Nat.gcd o n * n ≤ 1000000000 ∧ o / Nat.gcd o n ≤ 1000000 ∧ 0 < Nat.gcd o n ∧ Nat.gcd o n ≤ 1000000 := by
  have hg : 0 < Nat.gcd o n := Nat.gcd_pos_of_pos_left _ (by omega)
  have hd : Nat.gcd o n ∣ o := Nat.gcd_dvd_left _ _
  have h1 : 1 ≤ o / Nat.gcd o n := Nat.div_pos (Nat.le_of_dvd (by omega) hd) hg
  have h2 : o / Nat.gcd o n ≤ 1000000 := Nat.le_trans (Nat.div_le_self _ _) ho2
  exact ⟨Nat.mul_le_mul h1 hn, Nat.mul_le_mul h2 hn2, h2, hg, Nat.le_trans (Nat.le_of_dvd (by omega) hd) ho2⟩
theorem gcd_step {x y : Nat} : Nat.gcd y (x % y) = Nat.gcd x y := by rw [Nat.gcd_comm, ← Nat.gcd_rec, Nat.gcd_comm]
theorem lcmV_none (h : lcmI 1 l = none) : lcmV l = doubt := by unfold lcmV; rw [h]
theorem lcmV_some (h : lcmI 1 l = some o) : lcmV l = num o 1 := by unfold lcmV; rw [h]
theorem okP_intV (n : Int) : okP (intV n) = okL n := by
  unfold okP intV okL
  split
  · rename_i h
    simp only [doubt]
    rcases h with h | h
    · rw [decide_eq_false (show ¬ n ≤ 1000 by omega)]; simp
    · rw [decide_eq_false (show ¬ 0 ≤ n by omega)]; simp
  · simp
theorem all_okP (l : List Int) : (l.map intV).all okP = l.all okL := by rw [List.all_map]; congr 1; funext n; exact okP_intV n
theorem okL_of {n : Int} (h : okL n = true) : 0 ≤ n ∧ n ≤ 1000 := by simpa [okL] using h
end
end Go.Abs
