/-
  Plain functions of texts and choices, as the reference says them (second part).
-/
import Derived.Test.YtpjckdhgefbonaaGreatDoorZText
namespace Go.Abs
set_option linter.unusedVariables false
set_option linter.unusedSimpArgs false
/-- What `numeric` says of any single value. -/
def numW (v : V) : Bool := if v.kind = 1 ∨ v.kind = 3 then true else if v.kind = 2 then numericT v.text else false
/-- A value that IF may choose. -/
def givenV (v : V) : Bool := decide (v.kind = 1) || ((decide (v.kind = 2) && asciiB v.text) || decide (v.kind = 3))
def goodV (v : V) : Bool := decide (¬ v.kind = 3) && givenV v
theorem good_kind {v : V} (h : goodV v = true) : v.kind = 1 ∨ v.kind = 2 := by
  simp only [goodV, givenV, Bool.and_eq_true, Bool.or_eq_true, decide_eq_true_eq] at h; omega
theorem firstV_plain {l : List V} (h : ∀ v ∈ l, v.kind = 1 ∨ v.kind = 2) : firstV l = (noV, false) := by
  simp only [firstV, find_no (l := l) (p := isK 6) fun v hv => by have := h v hv; simp only [isK, decide_eq_false_iff_not]; omega, find_no (l := l) (p := isK 4) fun v hv => by have := h v hv; simp only [isK, decide_eq_false_iff_not]; omega]
end Go.Abs
