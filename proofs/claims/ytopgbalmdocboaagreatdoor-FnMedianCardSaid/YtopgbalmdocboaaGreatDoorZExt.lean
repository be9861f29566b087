/-
  The abstract logic: functions without a body: a float's bits, the part ahead of the point.
-/
import Derived.Test.YtopgbalmdocboaaGreatDoorZNu
import Derived.Laws.Externs
namespace Go.Abs
set_option linter.unusedVariables false
set_option linter.unusedSimpArgs false
open Ieee
/-- A function without a body, and what the model does in its place. -/
class XF (P : Program) (f : FuncId) (e : outParam (Array Value → Sem Value)) : Prop where
  run : ∀ (args : Array Value) (w : World), (callFunc f args).run P w = ((e args).run P w).andThen fun v w' => .ok (.value v) w'
section
variable {P : Program} {G : Nat → D} {wr : Bool} {o : Oper} {ρ : Operand → D} {S : AH → Prop}
theorem XF.of {f : FuncId} {fn : Func} {e : Array Value → Sem Value} (hf : P.funcs[f]? = some fn) (hname : (fn.name == "runtime.NumGoroutine") = false) (hb : fn.body.isNone = true) (hn : Extern.findNext fn = none) (he : Extern.find fn = some e) : XF P f e :=
  ⟨fun args w => by rw [run_callFunc_extern hf hname hb hn he]⟩
/-- The part ahead of the point. -/
def truncF (b : Nat) : Nat := double.write ((double.read b).integral .zero)
end
/-! The machine's words of it. -/
theorem u64_wrap {n : Nat} (h : n < 2 ^ 64) : IntKind.u64.wrap (n : Int) = n := by
  simp [IntKind.wrap, IntKind.signed, IntKind.bits]; omega
theorem u64_eq {a b : Int} (h : a = b) : D.sc (.int .u64 a) = .sc (.int .u64 b) := by rw [h]
end Go.Abs
