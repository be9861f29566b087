/- Walks of the functions, printed by program, and the logic behind them: each theorem says what one function or one step answers. -/
import Derived.Test.YtopgbalmdocboaaGreatDoorZAbs3
import Derived.WideMake
import Derived.Test.YtopgbalmdocboaaGreatDoorZExt
namespace Go.Abs
set_option linter.unusedVariables false
set_option linter.unusedSimpArgs false

def keyIs (s : List UInt8) : D → Bool
  | .sc (.string b) => b.data.toList == s
  | _ => false
def keyStr : D → Bool
  | .sc (.string _) => true
  | _ => false

section
variable {P : Program} {G : Nat → D} {g g' : Gh} {l l' : Lo} {A A' : AH} {wr : Bool} {Prot : Nat → Prop} {w w' : World} {o : Oper} {ρ : Operand → D} {S : AH → Prop}

end
end Go.Abs
namespace Go.Abs
set_option linter.unusedVariables false
set_option linter.unusedSimpArgs false
end Go.Abs
