/-
  The abstract logic: a call that reads the shared objects and leaves them as they were.
-/
import Derived.Test.YtpjckdhgefbonaaGreatDoorZIt2
import Derived.Test.YtpjckdhgefbonaaGreatDoorZTx
namespace Go.Abs
set_option linter.unusedVariables false
set_option linter.unusedSimpArgs false
section
variable {P : Program} {G : Nat → D} {g g' : Gh} {l l' : Lo} {A A' : AH} {wr : Bool} {Prot : Nat → Prop} {w w' : World} {o : Oper} {ρ : Operand → D} {S : AH → Prop}
theorem q_callX {x : Operand} {args : Array Operand} {Ts : Array TypeId} {f : FuncId} [FN P f] {us vs : List D} {ds : List D} {v : D} (ho : o.op = .call { callee := .value x, args := args, argTypes := Ts }) (hx : ρ x = .fn f us vs) (hds : us ++ args.toList.map ρ ++ vs = ds) (hext : ext.extL ds = true) (hc : ACall P G f true ds A.h (fun v' h' => v' = v ∧ h' = A.h)) : AQ P G true o ρ (ExtA A) v := by
  intro g l Prot w a A' hS hr hops K Q hK
  obtain ⟨cargs, h1, h2⟩ := run_callN (P := P) (w := w) ho hx hds hext hops
  unfold Oper.wp
  rw [h1, Oper.upon_enter]
  rw [← hS.h] at hc
  refine (hc g _ w cargs (call_inW hr) h2).mono ?_
  rintro e w' ⟨cv, v1, h', g', rfl, ⟨rfl, hh⟩, hf, hr', hv⟩
  subst hh
  obtain ⟨k1, k2⟩ := call_backW hr hf hr'
  exact hK g' w' cv k2 k1 (rep_mono (Gh.le.refl _) _ (Lo.le.none _) hv)
theorem own_fz {A : AH} {e n : Nat} {d : D} {xs : List D} (h : IsOwn A e d n xs) : fz d = .im xs n := by
  rcases h with ⟨rfl, rfl, rfl⟩ | ⟨t, rfl, _⟩ <;> rfl
end
/-- What the shelf's Join finds in a row of texts. -/
theorem repL_sts {g : Gh} {l : Lo} : ∀ {ts : List (List UInt8)} {vs : List Value}, repL g l (ts.map st) vs → vs = ts.map fun s => Value.string ⟨⟨s⟩⟩
  | [], vs, h => by simpa [repL] using h
  | s :: ts, vs, h => by
    simp only [List.map_cons, repL] at h
    obtain ⟨v, r, rfl, h1, h2⟩ := h
    simp only [rep] at h1
    subst h1
    rw [repL_sts h2]; rfl
/-- How far a walk along a list has come. -/
def idxE (es : List (Nat × D)) : D → Nat
  | .hp id _ => es.findIdx fun p => p.1 == id
  | _ => es.length
theorem idx_at {h : Heap} {k : Nat} {es : List (Nat × D)} (H : IsList h k es) {i : Nat} (hi : i < es.length) : idxE es (.hp es[i].1 0) = i := by
  have hn := (List.nodup_cons.1 H.nodup).2
  rw [List.Nodup, List.pairwise_iff_getElem] at hn
  show es.findIdx _ = i
  rw [List.findIdx_eq hi]
  refine ⟨by simp, fun j hj => ?_⟩
  have := hn j i (by simpa using (by omega : j < es.length)) (by simpa using hi) hj
  simp only [List.getElem_map] at this
  simpa using this
theorem mu_step {h : Heap} {k : Nat} {es : List (Nat × D)} (H : IsList h k es) {i : Nat} (hi : i < es.length) : es.length - idxE es (ptrAt es (i + 1)) < es.length - idxE es (.hp es[i].1 0) := by
  rw [idx_at H hi]
  by_cases h1 : i + 1 < es.length
  · rw [ptrAt_lt h1, idx_at H h1]; omega
  · rw [ptrAt_ge h1]
    show es.length - es.length < _
    omega
end Go.Abs
