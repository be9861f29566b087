/-
  Plain facts: how many numbers there are among arguments, a table of cells among them.
-/
import Derived.Test.YtpjckdhgefbonaaGreatDoorZLib
import Derived.Test.YtpjckdhgefbonaaGreatDoorZText
namespace Go.Abs
set_option linter.unusedVariables false
set_option linter.unusedSimpArgs false
def kOKv (v : V) : Bool := decide (v.kind = 1) || decide (v.kind = 0) || decide (v.kind = 2) || decide (v.kind = 3)
def c1 (l : List V) : Nat := (l.filter fun v => decide (v.kind = 1)).length
theorem c1_succ {l : List V} {j : Nat} (h : j < l.length) : c1 (l.take (j + 1)) = c1 (l.take j) + if l[j].kind = 1 then 1 else 0 := by
  rw [List.take_succ_eq_append_getElem h]
  unfold c1
  rw [List.filter_append, List.length_append]
  congr 1
  by_cases hk : l[j].kind = 1 <;> simp [hk]
theorem c1_le (l : List V) : c1 l ≤ l.length := List.length_filter_le _ _
def okC (v : V) : Bool := decide (v.kind = 1) || decide (v.kind = 3) || (decide (v.kind = 5) && (v.rows.flatten.map U.v).all kOKv)
def cntV (v : V) : Nat := if v.kind = 1 ∨ v.kind = 3 then 1 else if v.kind = 5 then c1 (v.rows.flatten.map U.v) else 0
def cntL (l : List V) : Nat := (l.map cntV).sum
theorem cnt_succ {l : List V} {i : Nat} (h : i < l.length) : cntL (l.take (i + 1)) = cntL (l.take i) + cntV l[i] := by
  unfold cntL
  rw [List.take_succ_eq_append_getElem h, List.map_append, List.sum_append]; simp
theorem cnt_le (l : List V) : cntL l ≤ (flatV l).length := by
  induction l with
  | nil => simp [cntL, flatV]
  | cons v l ih =>
    have e : flatV (v :: l) = flatV [v] ++ flatV l := by simp [flatV]
    rw [e, List.length_append, flatV_one]
    have hc : cntL (v :: l) = cntV v + cntL l := by simp [cntL]
    rw [hc]
    have : cntV v ≤ (if v.kind = 5 then v.rows.flatten.map U.v else [v]).length := by
      unfold cntV
      by_cases h5 : v.kind = 5
      · rw [if_pos h5, if_pos h5, if_neg (by omega)]; exact c1_le _
      · rw [if_neg h5, if_neg h5]; split <;> simp
    omega
def countV (l : List V) : V := if l.all okC then intV (cntL l : Nat) else doubt
theorem count_bad {l : List V} {i : Nat} (h : i < l.length) (hb : okC l[i] = false) : countV l = doubt := if_neg (by
  intro hall
  have := List.all_eq_true.1 hall _ (List.getElem_mem h)
  rw [hb] at this; cases this)
theorem cut_one {l : List V} {i : Nat} (h : i < l.length) : ((l.flatMap V.c).take ((i + 1) * 5)).drop (i * 5) = [l[i]].flatMap V.c := by
  have e1 : (l.flatMap V.c).take ((i + 1) * 5) = (l.take (i + 1)).flatMap V.c := by
    conv => lhs; rw [← List.take_append_drop (i + 1) l, List.flatMap_append]
    rw [List.take_left' (by rw [len_lst, List.length_take]; congr 1; omega)]
  rw [e1, List.take_succ_eq_append_getElem h, List.flatMap_append, List.drop_left' (by rw [len_lst, List.length_take]; congr 1; omega)]
end Go.Abs
