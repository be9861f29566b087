/-
  The abstract logic: parts of slices; a literal and more behind it; what the library's contracts say.
-/
import Derived.Test.YtopgbalmdocboaaGreatDoorZAbs3
import Derived.Below
namespace Go.Abs
set_option linter.unusedVariables false
set_option linter.unusedSimpArgs false
section
variable {P : Program} {G : Nat → D} {g g' : Gh} {l l' : Lo} {A A' : AH} {wr : Bool} {Prot : Nat → Prop} {w w' : World} {o : Oper} {ρ : Operand → D} {S : AH → Prop}

/-- A contract of the library's shelf, as one of these. -/
theorem pf_shelf {f : FuncId} {ds : List D} {v : D} (H : ∀ (g : Gh) (Prot : Nat → Prop) (w : World) (cargs : List Value), Rel P G g Lo.none (AH.start noHeap) true Prot w → repL g Lo.none ds cargs →
    Calls P f cargs.toArray w fun e w' => ∃ cv, e = .returned cv ∧ Go.RowKit.Below w.heap.size w w' ∧ rep g Lo.none v cv) : PF P G f ds v := fun g Prot w cargs hr ha =>
  (H g Prot w cargs hr ha).mono fun e w' ⟨cv, h1, hb, h2⟩ => ⟨cv, v, noHeap, g, h1, rfl, ⟨Gh.le.refl _, hb.size, fun b hp => hb.block b (hr.prot b hp), fun _ _ _ => rfl, fun _ _ _ h => h, hb.os, hb.output⟩, hr.grow hb.size hb.block, h2⟩
end
end Go.Abs
