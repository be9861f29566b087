/-
  The abstract logic, part K: facts on types, from the program's tables.
-/
import Derived.Test.YtjobmjfdlkjaoaaGreatDoorZAbsJ
namespace Go.Abs
set_option linter.unusedVariables false
set_option linter.unusedSimpArgs false
section
variable {P : Program}

theorem info_of {T : TypeId} {i : TypeInfo} (h : ∀ w, (typeInfo T).run P w = .ok i w) : P.info? T = some i := by
  have := h default
  simp only [typeInfo, Sem.run_bind, run_program, Result.andThen_ok] at this
  cases hi : P.info? T with
  | none => rw [hi] at this; simp at this
  | some j => rw [hi] at this; simpa using this

theorem ZV.of {T : TypeId} {i : TypeInfo} {z : Value} {zs : List Value} {b : Nat} (h : ∀ w, (typeInfo T).run P w = .ok i w) (hz : i.zero = some z) (hc : z.cells = zs.toArray) (hs : i.size = zs.length) (hb : i.bytes = b) (h1 : zs.all (·.oneCell') = true) : ZV P T b zs :=
  ⟨⟨i, z, info_of h, hz, hc, hs, hb⟩, h1⟩

theorem BL.of {T : TypeId} {i : TypeInfo} {z : Value} {zs : List Value} {fs : Array Field} {places : List (Nat × Nat)} (h : ∀ w, (typeInfo T).run P w = .ok i w) (hz : i.zero = some z) (hc : z.cells = zs.toArray) (hu : P.underlying T = some (.struct fs))
    (hp : fs.toList.mapM (fun f => (P.info? f.type).map fun i => (f.offset, i.size)) = some places) : BL P T zs places := ⟨i, z, fs, info_of h, hz, hc, hu, hp⟩

theorem FI.of {T : TypeId} {fs : Array Field} {f : Nat} {fld : Field} {off sz : Nat} (hu : P.underlying T = some (.struct fs)) (hf : fs[f]? = some fld) (ho : fld.offset = off) (hs : ∀ w, (sizeOf fld.type).run P w = .ok sz w) (h0 : sz ≠ 0) : FI P T f off :=
  ⟨fun ad w => by
    have hsure : Instr.sureAddr (.pointer (some ad)) = (pure ad : Sem Addr) := rfl
    simp [Instr.fieldAt, run_underlying hu, hf, hsure, fieldPlace, hs, h0, ho]⟩

theorem FV.of {T : TypeId} {fs : Array Field} {f : Nat} {fld : Field} {off sz : Nat} {agg : Bool} (hu : P.underlying T = some (.struct fs)) (hf : fs[f]? = some fld) (ho : fld.offset = off) (hs : ∀ w, (sizeOf fld.type).run P w = .ok sz w)
    (ha : ∀ w, (isAgg fld.type).run P w = .ok agg w) : FV P T f off agg sz :=
  ⟨fun vs w v hv => by
    have hA : asAgg (.agg vs) = (pure vs : Sem (Array Value)) := rfl
    simp only [Instr.field, Sem.run_bind, run_underlying hu, Result.andThen_ok, hf, hA, Sem.run_pure, part, ha, ho]
    cases agg with
    | true => simp at hv; simp [hs, hv]
    | false => simp at hv ⊢; simp [hv]⟩

end
end Go.Abs
