/-
  The abstract logic: functions without a body: a float's bits, the part ahead of the point.
-/
import Derived.Test.YtopgbalmdocboaaGreatDoorZNum
import Derived.Laws.Externs
namespace Go.Abs
set_option linter.unusedVariables false
set_option linter.unusedSimpArgs false
open Ieee
/-- A function without a body, and what the model does in its place. -/
class XF (P : Program) (f : FuncId) (e : outParam (Array Value → Sem Value)) : Prop where
  run : ∀ (args : Array Value) (w : World), (callFunc f args).run P w = ((e args).run P w).andThen fun v w' => .ok (.value v) w'
section
variable {P : Program} {G : Nat → D} {wr : Bool} {o : Oper} {ρ : Operand → D} {S : AH → Prop}
theorem XF.of {f : FuncId} {fn : Func} {e : Array Value → Sem Value} (hf : P.funcs[f]? = some fn) (hname : (fn.name == "runtime.NumGoroutine") = false) (hb : fn.body.isNone = true) (hn : Extern.findNext fn = none) (he : Extern.find fn = some e) : XF P f e :=
  ⟨fun args w => by rw [run_callFunc_extern hf hname hb hn he]⟩
theorem q_ext {x y : Operand} {Ts : Array TypeId} {f : FuncId} {e : Array Value → Sem Value} [hf : XF P f e] {a v : Value} (ho : o.op = .call { callee := .value x, args := #[y], argTypes := Ts }) (hx : ρ x = .fn f [] []) (hy : ρ y = .sc a) (he : ∀ w, (e #[a]).run P w = .ok v w) : AQ P G wr o ρ S (.sc v) :=
  AQ.run fun g l _ w ac _ _ _ h => by
    have hx0 := h x (by simp [ho, Op.operands, Call.operands])
    have hy0 := h y (by simp [ho, Op.operands, Call.operands])
    rw [hx] at hx0; rw [hy] at hy0
    simp only [rep] at hx0 hy0
    obtain ⟨u, v', h1, h2, h3⟩ := hx0
    simp only [repL] at h2 h3
    subst h2; subst h3
    have hr := hf.run #[ac.eval y] w
    rw [hy0, he w] at hr
    refine ⟨v, ?_, by simp [rep]⟩
    simp only [execOp, ho, resolve, h1, Deferred.ofValue, Sem.run_bind, Sem.run_pure, Result.andThen_ok, invoke]
    simp [hy0, hr]
theorem x_bits (b : Nat) (w : World) : (Extern.MathFloatBits.float64bits #[.float .f64 b]).run P w = .ok (.int .u64 b) w := rfl
/-- The part ahead of the point. -/
def truncF (b : Nat) : Nat := double.write ((double.read b).integral .zero)
end
/-! The machine's words of it. -/
theorem u64_wrap {n : Nat} (h : n < 2 ^ 64) : IntKind.u64.wrap (n : Int) = n := by
  simp [IntKind.wrap, IntKind.signed, IntKind.bits]; omega
theorem ofInt_nat (n : Nat) : BitVec.ofInt 64 (n : Int) = BitVec.ofNat 64 n := by
  apply BitVec.eq_of_toNat_eq
  rw [BitVec.toNat_ofInt, BitVec.toNat_ofNat]
  omega
theorem u64_eq {a b : Int} (h : a = b) : D.sc (.int .u64 a) = .sc (.int .u64 b) := by rw [h]
theorem fx_one : Fx 4607182418800017408 (1 * (unit : Nat)) := fy_one.whole
end Go.Abs
