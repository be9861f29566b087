/-
  The abstract logic: a range over a text; a call whose arguments stay as they are; more behind a row that begins as an empty literal.
-/
import Derived.Test.YtopgbalmdocboaaGreatDoorZTx
import Derived.Test.YtopgbalmdocboaaGreatDoorZSlice
import Derived.Test.YtopgbalmdocboaaGreatDoorZLi
namespace Go.Abs
set_option linter.unusedVariables false
set_option linter.unusedSimpArgs false
section
variable {P : Program} {G : Nat → D} {g g' : Gh} {l l' : Lo} {A A' : AH} {wr : Bool} {Prot : Nat → Prop} {w w' : World} {o : Oper} {ρ : Operand → D} {S : AH → Prop}

/-- A row of one's own: an empty literal yet, or a row that grows. -/
def IsOwn (A : AH) (e : Nat) (d : D) (n : Nat) (xs : List D) : Prop := (n = 0 ∧ xs = [] ∧ d = .lit [] 0) ∨ ∃ t, d = .gs t e xs n ∧ A.live t = true

end
end Go.Abs
