/-
  Tables whose rows lie among the shared objects; rows of zeros; what stays alive beside a row that grows.
-/
import Derived.Test.YtpjckdhgefbonaaGreatDoorZHs
import Derived.Test.YtpjckdhgefbonaaGreatDoorZIter
import Derived.Test.YtpjckdhgefbonaaGreatDoorZDoor
namespace Go.Abs
set_option linter.unusedVariables false
set_option linter.unusedSimpArgs false
theorem live_tags_old {A : AH} {t : Nat} (h : A.live t = true) : (A.tags 1).live t = true := by
  show (A.live t || _) = true
  rw [h]; rfl
theorem live_app_old {A : AH} {t t2 : Nat} (h : A.live t = true) (hne : t ≠ t2) : (A.app t2).live t = true := by
  simp [AH.app, AH.row, AH.kill, h, beq_false hne]
theorem app_ln (A : AH) (t : Nat) : (A.app t).ln = A.ln + 1 := rfl
theorem tags_ln (A : AH) : (A.tags 1).ln = A.ln + 1 := rfl

/-- A row of zeros, as makeSlice lays it. -/
theorem made_rep (zs : List Value) (h : 0 < zs.length) : ∀ c : Nat, ((List.range (c * zs.length)).map fun i => zs.toArray[i % zs.length]!) = (List.replicate c zs).flatten
  | 0 => by simp
  | c + 1 => by
    rw [Nat.add_mul, Nat.one_mul, List.range_add, List.map_append, made_rep zs h c, List.replicate_succ', List.flatten_append, List.flatten_singleton]
    congr 1
    rw [List.map_map]
    apply List.ext_getElem
    · simp
    · intro i h1 h2
      simp only [List.length_map, List.length_range] at h1
      simp [Nat.mul_add_mod_of_lt, Nat.mul_comm c, h1, Nat.mod_eq_of_lt h1]
theorem zeros_D (zs : List Value) (c : Nat) : ((List.replicate c zs).flatten).map D.sc = (List.replicate c (zs.map D.sc)).flatten := by
  rw [List.map_flatten, List.map_replicate]
/-- Writing the next element of a row of zeros. -/
theorem splice_next {α : Type} (f : α → List D) (sz : Nat) (hf : ∀ x, (f x).length = sz) (xs : List α) (x : α) (z : List D) (hz : z.length = sz) (c : Nat) : splice (xs.flatMap f ++ (List.replicate (c + 1) z).flatten) (xs.length * sz) (f x) = (xs ++ [x]).flatMap f ++ (List.replicate c z).flatten := by
  unfold splice
  have hl := length_flat f sz hf xs
  rw [hf, ← hl, List.take_left, List.replicate_succ, List.flatten_cons, ← hz, ← List.length_append, ← List.append_assoc, List.drop_left, List.flatMap_append]
  simp

def F.c (f : F) : List D := [st [], fl f.num, st f.str, .im [] 0, .im [] 0, bl f.bool, st f.err, .sc (.int .u8 f.ty), .sc (.pointer none), .sc (.pointer none)]
theorem F.c_len (f : F) : (F.c f).length = 10 := rfl
theorem F.d_c (f : F) : f.d = .agg (F.c f) := rfl

/-- A table: a row of rows, each of them whole. -/
structure IsMat (h : Heap) (id n cap : Nat) (ids : List Nat) (k kc : Nat) (rows : List (List F)) : Prop where
  len : ids.length = n
  rlen : rows.length = n
  top : ∃ sp, h id = some (ids.map (fun r => D.hs r 0 k kc) ++ sp)
  row : ∀ i (h1 : i < ids.length) (h2 : i < rows.length), h ids[i] = some (rows[i].flatMap F.c) ∧ rows[i].length = k
theorem IsMat.at {h : Heap} {id n cap k kc : Nat} {ids : List Nat} {rows : List (List F)} (H : IsMat h id n cap ids k kc rows) {i : Nat} (h1 : i < ids.length) : Heap.get h id i = some (.hs ids[i] 0 k kc) := by
  obtain ⟨sp, hs⟩ := H.top
  simp only [Heap.get, hs, Option.bind_some]
  rw [List.getElem?_append_left (by simpa using h1)]
  simp [h1]
theorem load_row {A : AH} {h : Heap} {id : Nat} {r : List F} (hh : A.h = h) (hr : h id = some (r.flatMap F.c)) {j : Nat} (hj : j < r.length) : loadD A true 10 (.hp id (0 + (j : Int).toNat * 10)) = some (.agg (F.c r[j])) := by
  subst hh
  simp only [loadD, cellsAt, hr, Nat.zero_add]
  exact take_flat F.c 10 F.c_len hj
end Go.Abs
