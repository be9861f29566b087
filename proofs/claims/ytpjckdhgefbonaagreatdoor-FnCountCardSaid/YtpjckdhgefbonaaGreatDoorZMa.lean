/- Walks of the functions, printed by program, and the logic behind them: each theorem says what one function or one step answers. -/
import Derived.Test.YtpjckdhgefbonaaGreatDoorZHs
import Derived.Test.YtpjckdhgefbonaaGreatDoorZIt2
import Derived.Test.YtpjckdhgefbonaaGreatDoorZDoor
namespace Go.Abs
set_option linter.unusedVariables false
set_option linter.unusedSimpArgs false
theorem live_tags_old {A : AH} {t : Nat} (h : A.live t = true) : (A.tags 1).live t = true := by
  show (A.live t || _) = true
  rw [h]; rfl
theorem live_app_old {A : AH} {t t2 : Nat} (h : A.live t = true) (hne : t ≠ t2) : (A.app t2).live t = true := by
  simp [AH.app, AH.row, AH.kill, h, beq_false hne]
theorem app_ln (A : AH) (t : Nat) : (A.app t).ln = A.ln + 1 := rfl
theorem tags_ln (A : AH) : (A.tags 1).ln = A.ln + 1 := rfl

/-- A row of zeros, as makeSlice lays it. -/
theorem made_rep (zs : List Value) (h : 0 < zs.length) : ∀ c : Nat, ((List.range (c * zs.length)).map fun i => zs.toArray[i % zs.length]!) = (List.replicate c zs).flatten
  | 0 => by simp
  | c + 1 => by
    rw [Nat.add_mul, Nat.one_mul, List.range_add, List.map_append, made_rep zs h c, List.replicate_succ', List.flatten_append, List.flatten_singleton]
    congr 1
    rw [List.map_map]
    apply List.ext_getElem
    · simp
    · intro i h1 h2
      simp only [List.length_map, List.length_range] at h1
      simp [Nat.mul_add_mod_of_lt, Nat.mul_comm c, h1, Nat.mod_eq_of_lt h1]
theorem zeros_D (zs : List Value) (c : Nat) : ((List.replicate c zs).flatten).map D.sc = (List.replicate c (zs.map D.sc)).flatten := by
  rw [List.map_flatten, List.map_replicate]
/-- Writing the next element of a row of zeros. -/
theorem splice_next {α : Type} (f : α → List D) (sz : Nat) (hf : ∀ x, (f x).length = sz) (xs : List α) (x : α) (z : List D) (hz : z.length = sz) (c : Nat) : splice (xs.flatMap f ++ (List.replicate (c + 1) z).flatten) (xs.length * sz) (f x) = (xs ++ [x]).flatMap f ++ (List.replicate c z).flatten := by
  unfold splice
  have hl := length_flat f sz hf xs
  rw [hf, ← hl, List.take_left, List.replicate_succ, List.flatten_cons, ← hz, ← List.length_append, ← List.append_assoc, List.drop_left, List.flatMap_append]
  simp

def F.c (f : F) : List D := [st [], fl f.num, st f.str, .im [] 0, .im [] 0, bl f.bool, st f.err, .sc (.int .u8 f.ty), .sc (.pointer none), .sc (.pointer none)]
theorem F.c_len (f : F) : (F.c f).length = 10 := rfl
theorem F.d_c (f : F) : f.d = .agg (F.c f) := rfl

/-- A table: a row of rows, each of them whole. -/
structure IsMat (h : Heap) (id n cap : Nat) (ids : List Nat) (k kc : Nat) (rows : List (List F)) : Prop where
  len : ids.length = n
  rlen : rows.length = n
  top : ∃ sp, h id = some (ids.map (fun r => D.hs r 0 k kc) ++ sp)
  row : ∀ i (h1 : i < ids.length) (h2 : i < rows.length), h ids[i] = some (rows[i].flatMap F.c) ∧ rows[i].length = k
theorem IsMat.at {h : Heap} {id n cap k kc : Nat} {ids : List Nat} {rows : List (List F)} (H : IsMat h id n cap ids k kc rows) {i : Nat} (h1 : i < ids.length) : Heap.get h id i = some (.hs ids[i] 0 k kc) := by
  obtain ⟨sp, hs⟩ := H.top
  simp only [Heap.get, hs, Option.bind_some]
  rw [List.getElem?_append_left (by simpa using h1)]
  simp [h1]
theorem load_row {A : AH} {h : Heap} {id : Nat} {r : List F} (hh : A.h = h) (hr : h id = some (r.flatMap F.c)) {j : Nat} (hj : j < r.length) : loadD A true 10 (.hp id (0 + (j : Int).toNat * 10)) = some (.agg (F.c r[j])) := by
  subst hh
  simp only [loadD, cellsAt, hr, Nat.zero_add]
  exact take_flat F.c 10 F.c_len hj
end Go.Abs
namespace Go.Abs
set_option linter.unusedVariables false
set_option linter.unusedSimpArgs false
def munCell (i j : Nat) : U := ⟨1, if i = j then 1 else 0, 1, []⟩
def munRow (k i : Nat) : List U := (List.range k).map (munCell i)
def munR (k i : Nat) : List (List U) := (List.range i).map (munRow k)
theorem range_more {α : Type} (f : Nat → α) (j : Nat) : (List.range (j + 1)).map f = (List.range j).map f ++ [f j] := by rw [List.range_succ, List.map_append]; rfl
theorem munCell_yes {i j : Nat} (h : i = j) : munCell i j = ⟨1, 1, 1, []⟩ := by unfold munCell; rw [if_pos h]
theorem munCell_no {i j : Nat} (h : ¬ i = j) : munCell i j = ⟨1, 0, 1, []⟩ := by unfold munCell; rw [if_neg h]
def munF (i j : Nat) : F := fNum (if i = j then 4607182418800017408 else 0)
theorem munF_yes {i j : Nat} (h : i = j) : munF i j = fNum 4607182418800017408 := by unfold munF; rw [if_pos h]
theorem munF_no {i j : Nat} (h : ¬ i = j) : munF i j = fNum 0 := by unfold munF; rw [if_neg h]
def munRF (k i : Nat) : List F := (List.range k).map (munF i)
def munFs (k i : Nat) : List (List F) := (List.range i).map (munRF k)
def IU.v (x : IU) : IV := ⟨x.kind, x.num, x.text, []⟩
theorem ilst_U (r : List IU) : ilst (r.map IU.v) = ilstU r := by
  unfold ilst ilstU
  rw [List.length_map, List.flatMap_map]; rfl
theorem take_ilstU {r : List IU} {j : Nat} (h : j < r.length) : takeAt true 4 (r.flatMap IU.c) ((j : Int).toNat * 4) = some (IU.v r[j]).d := take_flat IU.c 4 (fun _ => rfl) h
theorem len_ilstU (l : List IU) : (l.flatMap IU.c).length = l.length * 4 := length_flat IU.c 4 (fun _ => rfl) l
theorem take_lstU {r : List U} {j : Nat} (h : j < r.length) : takeAt true 5 (r.flatMap U.c) ((j : Int).toNat * 5) = some (U.v r[j]).d := take_flat U.c 5 (fun _ => rfl) h
/-- A single value of the reference, as one of the thin package. -/
def numI (u : U) : IU := ⟨1, if u.num = 1 then 4607182418800017408 else 0, []⟩
def tabI (rows : List (List IU)) : IV := ⟨5, 0, [], rows⟩
/-- What stands in a row's cell, in the program: a table. -/
def matD (id n cap : Nat) : D := .agg [st [], fl 0, st [], .im [] 0, .hs id 0 n cap, bl false, st [], .sc (.int .u8 4), .sc (.pointer none), .sc (.pointer none)]
abbrev zF : List D := [.sc (.string ⟨⟨[]⟩⟩), .sc (.float .f64 0), .sc (.string ⟨⟨[]⟩⟩), .sc (.slice none 0 0), .sc (.slice none 0 0), .sc (.bool false), .sc (.string ⟨⟨[]⟩⟩), .sc (.int .u8 0), .sc (.pointer none), .sc (.pointer none)]
theorem mun_store {i j k : Nat} (hj : j < k) {f : F} (hf : munF i j = f) : splice (((List.range j).map (munF i)).flatMap F.c ++ (List.replicate (k - j) zF).flatten) (0 + (j : Int).toNat * 10) (F.c f) = ((List.range (j + 1)).map (munF i)).flatMap F.c ++ (List.replicate (k - (j + 1)) zF).flatten := by
  have h := splice_next F.c 10 F.c_len ((List.range j).map (munF i)) f zF rfl (k - (j + 1))
  rw [show k - (j + 1) + 1 = k - j by omega, List.length_map, List.length_range] at h
  rw [range_more, hf, Nat.zero_add]
  exact h
/-- The table as it grows. -/
structure Mun (hh : Heap) (id i cap : Nat) (ids : List Nat) (k : Nat) : Prop where
  row : IsRow hh 1 (.hs id 0 i cap) i (ids.map fun r => .hs r 0 k k)
  has : ∃ cs, hh id = some cs
  len : ids.length = i
  cells : ∀ j (h : j < ids.length), hh ids[j] = some ((munRF k j).flatMap F.c)
  ne : ∀ r ∈ ids, r ≠ id
theorem mun_zero {h : Heap} {id k : Nat} (h1 : 1 ≤ k) (h20 : k ≤ 20) {cs : List D} (hl : cs.length = k) : Mun (fun x => if x = id then some cs else h x) id 0 k [] k where
  row := .inr ⟨id, k, cs, rfl, by simp, rfl, by simpa using hl, Nat.zero_le _, by simp only [maxLen]; omega, h1⟩
  has := ⟨cs, by simp⟩
  len := rfl
  cells := fun j h => by cases h
  ne := fun r hr => by cases hr
theorem mun_next {hh hh2 : Heap} {id i cap k rid k2 cap2 : Nat} {ids : List Nat} {sp2 : List D} (M : Mun hh id i cap ids k) (hrid : hh rid = none) (h2 : hh2 rid = some ((munRF k i).flatMap F.c)) (h3 : ∀ x, ¬ x = rid → hh2 x = hh x)
    (hk2 : hh2 k2 = none ∨ ∃ c, D.hs id 0 i cap = .hs k2 0 i c) (hc1 : i + 1 ≤ cap2) (hc2 : cap2 ≤ maxLen) (hc3 : (ids.map (fun r => D.hs r 0 k k) ++ [D.hs rid 0 k k] ++ sp2).length = cap2 * 1) :
    Mun (fun x => if x = k2 then some (ids.map (fun r => D.hs r 0 k k) ++ [D.hs rid 0 k k] ++ sp2) else hh2 x) k2 (i + 1) cap2 (ids ++ [rid]) k := by
  obtain ⟨cs0, hid⟩ := M.has
  have hne : ¬ id = rid := fun e => by rw [e, hrid] at hid; cases hid
  have hr2 : ¬ rid = k2 := fun e => by
    rcases hk2 with h | ⟨c, h⟩
    · rw [← e, h2] at h; cases h
    · cases h; exact hne e.symm
  have hold : ∀ j (h : j < ids.length), ¬ ids[j] = rid ∧ ¬ ids[j] = k2 := fun j h => by
    have h4 := M.cells j h
    have h5 : ¬ ids[j] = rid := fun e => by rw [e, hrid] at h4; cases h4
    refine ⟨h5, fun e => ?_⟩
    rcases hk2 with h6 | ⟨c, h6⟩
    · rw [← e, h3 _ h5, h4] at h6; cases h6
    · cases h6; exact M.ne _ (List.getElem_mem h) e
  refine ⟨.inr ⟨k2, cap2, sp2, rfl, by simp, by simp [M.len], by simpa using hc3, hc1, hc2, by omega⟩, ⟨_, if_pos rfl⟩, by simp [M.len], fun j h => ?_, fun r hr => ?_⟩
  · by_cases hj : j < ids.length
    · have := hold j hj
      simp only [List.getElem_append_left hj]
      rw [if_neg this.2, h3 _ this.1]
      exact M.cells j hj
    · have hj2 : j = ids.length := by simp at h; omega
      subst hj2
      simp only [List.getElem_append_right (Nat.le_refl _), Nat.sub_self, List.getElem_cons_zero]
      rw [if_neg hr2, h2, M.len]
  · rcases List.mem_append.1 hr with hr | hr
    · obtain ⟨j, hj, rfl⟩ := List.mem_iff_getElem.1 hr
      exact (hold j hj).2
    · rw [List.mem_singleton.1 hr]; exact hr2
theorem mun_row {hh hh2 : Heap} {id i cap k rid : Nat} {ids : List Nat} (M : Mun hh id i cap ids k) (hrid : hh rid = none) (h3 : ∀ x, ¬ x = rid → hh2 x = hh x) : IsRow hh2 1 (.hs id 0 i cap) i (ids.map fun r => .hs r 0 k k) := by
  obtain ⟨cs0, hid⟩ := M.has
  have hne : ¬ id = rid := fun e => by rw [e, hrid] at hid; cases hid
  rcases M.row with h | ⟨k1, c1, sp, h1, h4, h5⟩
  · exact .inl h
  · cases h1
    exact .inr ⟨id, cap, sp, rfl, by rw [h3 _ hne]; exact h4, h5⟩
theorem mun_mat {hh : Heap} {id cap k : Nat} {ids : List Nat} (M : Mun hh id k cap ids k) : IsMat hh id k cap ids k k (munFs k k) where
  len := M.len
  rlen := by simp [munFs]
  top := by
    rcases M.row with ⟨_, _, h⟩ | ⟨k1, c1, sp, h1, h4, h5⟩
    · cases h
    · cases h1; exact ⟨sp, h4⟩
  row := fun i h1 h2 => by
    refine ⟨?_, ?_⟩
    · rw [M.cells i h1]; simp [munFs]
    · simp [munFs, munRF]
def fI (f : F) : IU := ⟨1, f.num, []⟩
theorem mun_same (k : Nat) : (munFs k k).map (·.map fI) = (munR k k).map (·.map numI) := by
  unfold munFs munR
  rw [List.map_map, List.map_map]
  refine List.map_congr_left fun i _ => ?_
  show (munRF k i).map fI = (munRow k i).map numI
  unfold munRF munRow
  rw [List.map_map, List.map_map]
  refine List.map_congr_left fun j _ => ?_
  show fI (munF i j) = numI (munCell i j)
  by_cases h : i = j
  · rw [munF_yes h, munCell_yes h]; rfl
  · rw [munF_no h, munCell_no h]; rfl
theorem mun_mem {k : Nat} {r : List U} (hr : r ∈ munR k k) {u : U} (hu : u ∈ r) : u = ⟨1, 1, 1, []⟩ ∨ u = ⟨1, 0, 1, []⟩ := by
  simp only [munR, List.mem_map] at hr
  obtain ⟨i, _, rfl⟩ := hr
  simp only [munRow, List.mem_map] at hu
  obtain ⟨j, _, rfl⟩ := hu
  by_cases h : i = j
  · exact .inl (munCell_yes h)
  · exact .inr (munCell_no h)
theorem mun_memF {k : Nat} {r : List F} (hr : r ∈ munFs k k) {f : F} (hf : f ∈ r) : ∃ x, f = fNum x := by
  simp only [munFs, List.mem_map] at hr
  obtain ⟨i, _, rfl⟩ := hr
  simp only [munRF, List.mem_map] at hf
  obtain ⟨j, _, rfl⟩ := hf
  exact ⟨_, rfl⟩
theorem munR_len (k : Nat) : (munR k k).length = k := by simp [munR]
theorem munR_row {k : Nat} {r : List U} (hr : r ∈ munR k k) : r.length = k := by
  simp only [munR, List.mem_map] at hr
  obtain ⟨i, _, rfl⟩ := hr
  simp [munRow]
theorem munR_flat (k : Nat) : (munR k k).flatten.length = k * k := by
  rw [List.length_flatten, show (munR k k).map List.length = List.replicate k k by
    rw [List.eq_replicate_iff]
    exact ⟨by simp [munR], fun b hb => by obtain ⟨r, hr, rfl⟩ := List.mem_map.1 hb; exact munR_row hr⟩, List.sum_replicate_nat]
theorem len_made (k : Nat) (zs : List Value) (h : zs.length = 1) : (((List.range (k * zs.length)).map fun i => zs.toArray[i % zs.length]!).map D.sc).length = k := by simp [h]
end Go.Abs
