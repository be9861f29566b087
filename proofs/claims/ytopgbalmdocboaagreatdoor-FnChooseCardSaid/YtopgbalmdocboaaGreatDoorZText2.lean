/-
  Plain functions of texts and choices, as the reference says them (second part).
-/
import Derived.Test.YtopgbalmdocboaaGreatDoorZText
namespace Go.Abs
set_option linter.unusedVariables false
set_option linter.unusedSimpArgs false
/-- What `numeric` says of any single value. -/
def numW (v : V) : Bool := if v.kind = 1 ∨ v.kind = 3 then true else if v.kind = 2 then numericT v.text else false
/-- A value that IF may choose. -/
def givenV (v : V) : Bool := decide (v.kind = 1) || ((decide (v.kind = 2) && asciiB v.text) || decide (v.kind = 3))
def goodV (v : V) : Bool := decide (¬ v.kind = 3) && givenV v
end Go.Abs
