/- Walks of the functions, printed by program, and the logic behind them: each theorem says what one function or one step answers. -/
import Derived.Test.YtopgbalmdocboaaGreatDoorZTt
namespace Go.Proofs.YtopgbalmdocboaaGreatDoor.Zz
open Go.Abs
set_option maxRecDepth 100000
set_option linter.unusedVariables false
set_option linter.unusedSimpArgs false
set_option maxHeartbeats 4000000
variable {G : Nat → D}

-- pub-tallysheet/spec.Ascii
-- pub-tallysheet/spec.AsText
-- pub-tallysheet/spec.short
-- pub-tallysheet/spec.textual
-- pub-tallysheet/spec.texts
end Go.Proofs.YtopgbalmdocboaaGreatDoor.Zz
