/- Walks of the functions, printed by program, and the logic behind them: each theorem says what one function or one step answers. -/
import Derived.Test.YtopgbalmdocboaaGreatDoorZQ
import Derived.Test.YtopgbalmdocboaaGreatDoorZIt2
import Derived.Test.YtopgbalmdocboaaGreatDoorZTx
namespace Go.Abs
set_option linter.unusedVariables false
set_option linter.unusedSimpArgs false
def modI (n k : Int) : Int := if k < 0 then -(-n - -k * (-n / -k)) else n - k * (n / k)
def modV (n k : Int) : V := if 1000000000 < n ∨ n < -1000000000 ∨ 1000000000 < k ∨ k < -1000000000 then doubt else if k = 0 then errV [35, 68, 73, 86, 47, 48, 33] else if k < 0 then intV (-(-n - -k * (-n / -k))) else intV (n - k * (n / k))
def andI (n k : Int) : Int := IntKind.i64.wrap ((BitVec.ofInt 64 n &&& BitVec.ofInt 64 k).toNat : Int)
def bitV (n k : Int) : V := if n < 0 then errV [35, 78, 85, 77, 33] else if k < 0 then errV [35, 78, 85, 77, 33] else intV (andI n k)
def shlI (n k : Int) : Int := IntKind.i64.wrap (n * 2 ^ min k.toNat 64)
def shlV (n k : Int) : V := if n < 0 then errV [35, 78, 85, 77, 33] else intV (shlI n k)
end Go.Abs
namespace Go.Abs
set_option linter.unusedVariables false
set_option linter.unusedSimpArgs false
section
variable {P : Program} {G : Nat → D} {g g' : Gh} {l l' : Lo} {A A' : AH} {wr : Bool} {Prot : Nat → Prop} {w w' : World} {o : Oper} {ρ : Operand → D} {S : AH → Prop}
end
/-- How far a walk along a list has come. -/
def idxE (es : List (Nat × D)) : D → Nat
  | .hp id _ => es.findIdx fun p => p.1 == id
  | _ => es.length
theorem idx_at {h : Heap} {k : Nat} {es : List (Nat × D)} (H : IsList h k es) {i : Nat} (hi : i < es.length) : idxE es (.hp es[i].1 0) = i := by
  have hn := (List.nodup_cons.1 H.nodup).2
  rw [List.Nodup, List.pairwise_iff_getElem] at hn
  show es.findIdx _ = i
  rw [List.findIdx_eq hi]
  refine ⟨by simp, fun j hj => ?_⟩
  have := hn j i (by simpa using (by omega : j < es.length)) (by simpa using hi) hj
  simp only [List.getElem_map] at this
  simpa using this
theorem mu_step {h : Heap} {k : Nat} {es : List (Nat × D)} (H : IsList h k es) {i : Nat} (hi : i < es.length) : es.length - idxE es (ptrAt es (i + 1)) < es.length - idxE es (.hp es[i].1 0) := by
  rw [idx_at H hi]
  by_cases h1 : i + 1 < es.length
  · rw [ptrAt_lt h1, idx_at H h1]; omega
  · rw [ptrAt_ge h1]
    show es.length - es.length < _
    omega
end Go.Abs
