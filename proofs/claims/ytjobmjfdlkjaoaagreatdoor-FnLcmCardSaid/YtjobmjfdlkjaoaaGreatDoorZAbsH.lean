/-
  The abstract logic, part H: values built of parts; new rows; rows that grow.
-/
import Derived.Test.YtjobmjfdlkjaoaaGreatDoorZAbsG
import Derived.Laws.OwnMore
import Derived.Great.BuildSlice
namespace Go.Abs
set_option linter.unusedVariables false
set_option linter.unusedSimpArgs false

/-- A struct's zero cells and the places of its fields. -/
class BL (P : Program) (T : TypeId) (zs : outParam (List Value)) (places : outParam (List (Nat × Nat))) : Prop where
  eq : ∃ it z fields, P.info? T = some it ∧ it.zero = some z ∧ z.cells = zs.toArray ∧ P.underlying T = some (.struct fields) ∧
    fields.toList.mapM (fun f => (P.info? f.type).map fun i => (f.offset, i.size)) = some places

/-- A field of a struct that is a value. -/
class FV (P : Program) (T : TypeId) (f : Nat) (off : outParam Nat) (agg : outParam Bool) (sz : outParam Nat) : Prop where
  run : ∀ (vs : Array Value) (w : World) (v : Value), (if agg then some (Value.agg (vs.extract off (off + sz))) else vs[off]?) = some v → (Instr.field T (.agg vs) f).run P w = .ok v w

def fillD (place : Nat → Option (Nat × Nat)) (cs : List D) : List (Nat × D) → Option (List D)
  | [] => some cs
  | (i, d) :: rest =>
    match place i with
    | none => none
    | some (off, size) => if oneL (partsD d) && (partsD d).length == size && decide (off + size ≤ cs.length) then fillD place (splice cs off (partsD d)) rest else none

section
variable {P : Program} {G : Nat → D} {g g' : Gh} {l l' : Lo} {A A' : AH} {wr : Bool} {Prot : Nat → Prop} {w w' : World} {N : Nat} {o : Oper} {ρ : Operand → D} {S : AH → Prop}

theorem set_fold (off : Nat) : ∀ (vs : List Value) (j : Nat) (cs : Array Value), off + j + vs.length ≤ cs.size →
    (((vs.zipIdx j).foldl (fun cs (p : Value × Nat) => cs.setIfInBounds (off + p.2) p.1) cs)).toList = cs.toList.take (off + j) ++ vs ++ cs.toList.drop (off + j + vs.length)
  | [], j, cs, _ => by simp
  | v :: vs, j, cs, h => by
    simp only [List.zipIdx_cons, List.foldl_cons]
    simp only [List.length_cons] at h
    rw [set_fold off vs (j + 1) _ (by simp; omega)]
    have e := list_seg_step cs.toList (off + j) v vs (by simp; omega)
    simpa [Array.toList_setIfInBounds, Nat.add_assoc] using e

theorem fill_rep (place : Nat → Option (Nat × Nat)) : ∀ (ps : List (Nat × D)) (cs : List D) (xs : Array Value) (out : List D) (vs : List (Nat × Value)), fillD place cs ps = some out → repL g l cs xs.toList →
    vs.map (·.1) = ps.map (·.1) → repL g l (ps.map (·.2)) (vs.map (·.2)) → ∃ ys : Array Value, Instr.fill place xs vs = some ys ∧ repL g l out ys.toList
  | [], cs, xs, out, vs, h, hr, hi, hv => by
    simp only [fillD] at h; cases h
    cases vs with
    | nil => exact ⟨xs, rfl, hr⟩
    | cons _ _ => simp at hi
  | (i, d) :: ps, cs, xs, out, vs, h, hr, hi, hv => by
    cases vs with
    | nil => simp at hi
    | cons p vs =>
      obtain ⟨i', v⟩ := p
      simp only [List.map_cons, List.cons.injEq] at hi
      obtain ⟨rfl, hi⟩ := hi
      simp only [List.map_cons, repL] at hv
      obtain ⟨v', r, e, hv1, hv2⟩ := hv
      cases e
      simp only [fillD] at h
      cases hp : place i' with
      | none => rw [hp] at h; cases h
      | some q =>
        obtain ⟨off, size⟩ := q
        rw [hp] at h
        simp only at h
        split at h
        · rename_i hc
          simp only [Bool.and_eq_true, beq_iff_eq, decide_eq_true_eq] at hc
          obtain ⟨⟨h1, h2⟩, h3⟩ := hc
          obtain ⟨h4, h5⟩ := rep_parts hv1 h1
          have h6 := repL_length h4
          have h7 := repL_length hr
          have hsz : v.cells.size = size := by simp at h6; omega
          have hxs : xs.size = cs.length := by simpa using h7
          have hf : (v.cells.zipIdx.foldl (fun cs (c, j) => cs.setIfInBounds (off + j) c) xs).toList = xs.toList.take off ++ v.cells.toList ++ xs.toList.drop (off + v.cells.toList.length) := by
            rw [← Array.foldl_toList, Array.toList_zipIdx]
            exact set_fold off v.cells.toList 0 xs (by simp; omega)
          obtain ⟨ys, h8, h9⟩ := fill_rep place ps _ (v.cells.zipIdx.foldl (fun cs (c, j) => cs.setIfInBounds (off + j) c) xs) out vs h (by rw [hf]; exact repL_splice hr h4 off) hi hv2
          refine ⟨ys, ?_, h9⟩
          simp only [Instr.fill, hp]
          rw [if_neg (by simp; omega)]
          exact h8
        · cases h

theorem parts_rep {a : Act} : ∀ (parts : List (Nat × Operand)), (∀ p ∈ parts, rep g l (ρ p.2) (a.eval p.2)) → repL g l ((parts.map fun p => (p.1, ρ p.2)).map (·.2)) ((parts.map fun p => (p.1, a.eval p.2)).map (·.2))
  | [], _ => by simp [repL]
  | p :: ps, h => by
    simp only [List.map_cons, repL]
    exact ⟨_, _, rfl, h p (by simp), parts_rep ps fun q hq => h q (by simp [hq])⟩

theorem q_build {T : TypeId} {parts : Array (Nat × Operand)} {zs : List Value} {places : List (Nat × Nat)} [hB : BL P T zs places] {ps : List (Nat × D)} {cs : List D} (ho : o.op = .build T parts) (hps : (parts.toList.map fun p => (p.1, ρ p.2)) = ps) (h : fillD (places[·]?) (zs.map .sc) ps = some cs) : AQ P G wr o ρ S (.agg cs) :=
  AQ.run fun g l _ w a _ _ _ hops => by
    obtain ⟨it, z, fields, h1, h2, h3, h4, h5⟩ := hB.eq
    subst hps
    obtain ⟨ys, h6, h7⟩ := fill_rep (g := g) (l := l) (places[·]?) _ (zs.map .sc) zs.toArray cs (parts.toList.map fun p => (p.1, a.eval p.2)) h (by simpa using repL_sc zs) (by simp [List.map_map, Function.comp_def])
      (parts_rep parts.toList fun p hp => hops p.2 (by simp [ho, Op.operands]; exact ⟨p.1, by simpa using hp⟩))
    refine ⟨.agg ys, ?_, by simp only [rep]; exact ⟨ys.toList, by simp, h7⟩⟩
    have hb : P.built T (parts.map fun (i, x) => (i, a.eval x)).toList = some ys := by
      unfold Program.built
      simp only [h1, h2, h4, h5, h3, Array.toList_map]
      have e : (fun x : Nat => (places.toArray[x]? : Option (Nat × Nat))) = (fun x : Nat => places[x]?) := by funext x; simp
      rw [e]
      exact h6
    simp only [execOp, ho, Sem.run_bind, run_build w T _ _ hb, Result.andThen_ok, Sem.run_pure]

/-- A struct's field, of a value. -/
theorem q_nth {T : TypeId} {f off : Nat} {agg : Bool} {sz : Nat} [hF : FV P T f off agg sz] {x : Operand} {cs : List D} {d : D} (ho : o.op = .field T x f) (hx : ρ x = .agg cs) (hd : takeAt agg sz cs off = some d) : AQ P G wr o ρ S d :=
  AQ.run fun g l _ w a _ _ _ hops => by
    have hx0 := hops x (by simp [ho, Op.operands])
    rw [hx] at hx0
    simp only [rep] at hx0
    obtain ⟨vs, h1, h2⟩ := hx0
    unfold takeAt at hd
    cases agg with
    | false =>
      simp only [cond_false] at hd
      obtain ⟨v, h3, h4⟩ := repL_get h2 _ _ hd
      refine ⟨v, ?_, h4⟩
      have := hF.run vs.toArray w v (by simpa using h3)
      simp only [execOp, ho, h1, Sem.run_bind, this, Result.andThen_ok, Sem.run_pure]
    | true =>
      simp only [cond_true] at hd
      split at hd
      · cases hd
        refine ⟨.agg ((vs.drop off).take sz).toArray, ?_, by simp only [rep]; exact ⟨_, rfl, repL_take (repL_drop h2 off) sz⟩⟩
        have := hF.run vs.toArray w (.agg ((vs.drop off).take sz).toArray) (by simp [List.extract_eq_take_drop])
        simp only [execOp, ho, h1, Sem.run_bind, this, Result.andThen_ok, Sem.run_pure]
      · cases hd

/-- A slice literal. -/
theorem q_buildSlice {T e : TypeId} {by_ : Nat} {zs : List Value} {n : Nat} {parts : Array (Nat × Operand)} [hT : UN P T (.slice e)] [hZ : ZV P e by_ zs] {ps : List (Nat × D)} {cs : List D} (ho : o.op = .buildSlice T n parts) (hps : (parts.toList.map fun p => (p.1, ρ p.2)) = ps) (hn : 0 < n * zs.length) (hn' : n * zs.length ≤ 16777216) (h : fillD (fun i => some (i * zs.length, zs.length)) ((List.range (n * zs.length)).map fun i => .sc (zs.getD (i % zs.length) undef)) ps = some cs) (he : ext.extL (fzL cs) = true) (h1 : oneL cs = true) : AQ P G wr o ρ S (.lit (fzL cs) n) := by
  intro g l Prot w a A hS hr hops K Q hk
  obtain ⟨it, z, hi, hz, hzc, hsz, _⟩ := hZ.eq
  subst hps
  have h0 : ((Array.range (n * it.size)).map (z.cells[· % z.cells.size]!)).toList = (List.range (n * zs.length)).map fun i => zs.getD (i % zs.length) undef := by
    rw [hzc, hsz]
    simp only [Array.toList_map, Array.toList_range, List.size_toArray]
    apply List.map_congr_left
    intro i hi
    have hpos : 0 < zs.length := Nat.pos_of_ne_zero fun e => by rw [e] at hn; simp at hn
    have hlt : i % zs.length < zs.length := Nat.mod_lt _ hpos
    simp [hlt]
  obtain ⟨ys, h6, h7⟩ := fill_rep (g := g) (l := l) (fun i => some (i * zs.length, zs.length)) _ _ ((Array.range (n * it.size)).map (z.cells[· % z.cells.size]!)) cs (parts.toList.map fun p => (p.1, a.eval p.2)) h (by
      rw [h0]
      have := repL_sc (g := g) (l := l) ((List.range (n * zs.length)).map fun i => zs.getD (i % zs.length) undef)
      simpa [List.map_map, Function.comp_def] using this) (by simp [List.map_map, Function.comp_def])
      (parts_rep parts.toList fun p hp => hops p.2 (by simp [ho, Op.operands]; exact ⟨p.1, by simpa using hp⟩))
  have hrun : (execOp a.eval o).run P w = .ok (.value (.slice (some ⟨w.heap.size, 0, none⟩) n n)) (w.alloc (.cells ys e)) := by
    have := run_buildSlice (P := P) w T e n (parts.map fun (i, x) => (i, a.eval x)) ys it z hT.eq hi hz (by rw [hsz]; omega) (by rw [hsz]; omega) (by rw [hsz, Array.toList_map]; rw [hsz] at h6; exact h6)
    simp only [execOp, ho, Sem.run_bind, this, Result.andThen_ok, Sem.run_pure]
  unfold Oper.wp
  rw [hrun]
  obtain ⟨h2, h3⟩ := hr.alloc_sealed ys.toList [] e (0, 0)
  simp only [List.append_nil, Array.toArray_toList] at h2 h3
  have h8 : repL g Lo.none (fzL cs) ys.toList := repL_ext _ he (repL_fz _ h7)
  have hone : ∀ v ∈ ys.toList, v.oneCell' = true := by
    have h9 := (rep_parts (d := .agg cs) (x := .agg ys) (by simp only [rep]; exact ⟨ys.toList, by simp, h7⟩) h1).2
    simpa [Value.cells] using h9
  exact hk _ _ _ h3 h2 (by simp only [rep]; exact ⟨_, rfl, repS_sealed (repL_mono h3.le _ (Lo.le.refl _) h8) hone⟩)

/-! Rows that grow. -/
def AH.kill (A : AH) (t : Nat) : AH := { A with live := fun i => A.live i && !(Nat.beq i t) }
def AH.row (A : AH) : AH := { A with live := fun i => Nat.beq i A.ln || A.live i, ln := A.ln + 1 }
def AH.app (A : AH) (t : Nat) : AH := (A.kill t).row
def Lo.row (l : Lo) (t : Nat) (r : Row) : Lo := { l with τ := fun i => if i = t then some r else l.τ i }

theorem beq_false {i j : Nat} (h : i ≠ j) : Nat.beq i j = false := by
  cases hb : Nat.beq i j with
  | false => rfl
  | true => exact absurd (Nat.eq_of_beq_eq_true hb) h

/-- A growing row is written, outside its sealed part, and given up. -/
theorem Rel.kill_set (h : Rel P G g l A wr Prot w) {t : Nat} {r : Row} (ht : A.live t = true) (hr : l.τ t = some r) (hs : w'.heap.size = w.heap.size) (eb : ∀ b', b' ≠ r.b → w'.heap[b']? = w.heap[b']?)
    (hc : ∀ o v, g.σ r.b o = some v → w'.cell? ⟨r.b, o, none⟩ = some v) : Rel P G g l (A.kill t) wr Prot w' := by
  obtain ⟨cur, h2, h3, h4, h5, h6, h7, h8, h9⟩ := h.tag t r ht hr
  have lv : ∀ {i}, (A.kill t).live i = true → A.live i = true ∧ i ≠ t := fun {i} hi => by
    simp only [AH.kill, Bool.and_eq_true, Bool.not_eq_true'] at hi
    refine ⟨hi.1, fun e => ?_⟩
    rw [e] at hi
    simp at hi
  refine ⟨h.glob, fun b hb => by rw [hs]; exact h.prot b hb, fun b o v hv => ?_, fun id ob hi => ?_, h.locN, h.locInj, h.locFree, fun i r' hi hr' => ?_, fun i hi => ?_, fun i j r r' hi hj => h.tagInj i j r r' (lv hi).1 (lv hj).1,
    fun k cs hk => ?_, h.shN, h.shInj, fun k b hk => by rw [hs]; exact h.shLt k b hk⟩
  · by_cases e : b = r.b
    · subst e; exact hc o v hv
    · exact (cell?_block (eb b e)).trans (h.sld b o v hv)
  · obtain ⟨b, k1, k2, k3, k4⟩ := h.loc id ob hi
    exact ⟨b, k1, k2, by rw [hs]; exact k3, k4.of_block (eb b fun e => h8 id (e ▸ k1))⟩
  · obtain ⟨cur', k2, k3, k4, k5, k6, k7, k8, k9⟩ := h.tag i r' (lv hi).1 hr'
    exact ⟨cur', k2, (eb _ fun e => (lv hi).2 (h.tagInj i t r' r (lv hi).1 ht hr' hr e)).trans k3, k4, k5, k6, k7, k8, k9⟩
  · have := h.tagN i hi
    exact ⟨this.1, by simp [AH.kill, this.2]⟩
  · obtain ⟨b, vs, e, k1, k2, k3, k4⟩ := h.sh k cs hk
    exact ⟨b, vs, e, k1, k2, (eb _ fun e => h9 k (e ▸ k1)).trans k3, k4⟩

theorem Rel.kill (h : Rel P G g l A wr Prot w) (t : Nat) : Rel P G g l (A.kill t) wr Prot w := by
  have lv : ∀ {i}, (A.kill t).live i = true → A.live i = true := fun {i} hi => by
    simp only [AH.kill, Bool.and_eq_true] at hi; exact hi.1
  exact ⟨h.glob, h.prot, h.sld, h.loc, h.locN, h.locInj, h.locFree, fun i r hi => h.tag i r (lv hi), fun i hi => by have := h.tagN i hi; exact ⟨this.1, by simp [AH.kill, this.2]⟩,
    fun i j r r' hi hj => h.tagInj i j r r' (lv hi) (lv hj), h.sh, h.shN, h.shInj, h.shLt⟩

theorem Lo.le_row {t : Nat} {r : Row} (h : l.τ t = Option.none) : l.le (l.row t r) :=
  ⟨fun _ _ h => h, fun i r' hi => by
    simp only [Lo.row]
    by_cases e : i = t
    · subst e; rw [h] at hi; cases hi
    · rw [if_neg e]; exact hi⟩

theorem Rel.add_row (h : Rel P G g l A wr Prot w) {r : Row} {cur : Array Value} (h2 : ¬ Prot r.b) (h3 : w.heap[r.b]? = some (.cells cur r.e (0, 0))) (h4 : r.len ≤ r.cap) (h5 : r.cap ≤ maxLen) (h6 : cur.size = r.cap * P.cellsOf r.e)
    (h7 : ∀ o, r.len * P.cellsOf r.e ≤ o → g.σ r.b o = none) (h8 : ∀ id, l.ι id ≠ some r.b) (h9 : ∀ k, g.κ k ≠ some r.b) (h10 : ∀ t r', A.live t = true → l.τ t = some r' → r'.b ≠ r.b) :
    Rel P G g (l.row A.ln r) A.row wr Prot w ∧ l.le (l.row A.ln r) := by
  have hn := h.tagN A.ln (Nat.le_refl _)
  have hle : l.le (l.row A.ln r) := Lo.le_row hn.1
  have cs : ∀ {i r'}, A.row.live i = true → (l.row A.ln r).τ i = some r' → (i = A.ln ∧ r' = r) ∨ (A.live i = true ∧ l.τ i = some r') := fun {i r'} hi hr' => by
    simp only [Lo.row] at hr'
    by_cases e : i = A.ln
    · rw [if_pos e] at hr'; cases hr'; exact .inl ⟨e, rfl⟩
    · rw [if_neg e] at hr'
      simp only [AH.row, beq_false e, Bool.false_or] at hi
      exact .inr ⟨hi, hr'⟩
  refine ⟨⟨h.glob, h.prot, h.sld, fun id ob hi => ?_, h.locN, h.locInj, h.locFree, fun i r' hi hr' => ?_, fun i hi => ?_, fun i j r1 r2 hi hj h1 h2 e => ?_, h.sh, h.shN, h.shInj, h.shLt⟩, hle⟩
  · obtain ⟨b, k1, k2, k3, k4⟩ := h.loc id ob hi
    exact ⟨b, k1, k2, k3, k4.mono (Gh.le.refl _) hle⟩
  · rcases cs hi hr' with ⟨_, rfl⟩ | ⟨k1, k2⟩
    · exact ⟨cur, h2, h3, h4, h5, h6, h7, h8, h9⟩
    · exact h.tag i r' k1 k2
  · simp only [AH.row] at hi
    have := h.tagN i (by omega)
    exact ⟨by simp only [Lo.row]; rw [if_neg (by omega)]; exact this.1, by simp [AH.row, this.2, beq_false (show i ≠ A.ln by omega)]⟩
  · rcases cs hi h1 with ⟨k1, rfl⟩ | ⟨k1, k2⟩ <;> rcases cs hj h2 with ⟨k3, rfl⟩ | ⟨k3, k4⟩
    · omega
    · exact absurd e.symm (h10 j r2 k3 k4)
    · exact absurd e (h10 i r1 k1 k2)
    · exact h.tagInj i j r1 r2 k1 k3 k2 k4 e

theorem Rel.add_none (h : Rel P G g l A wr Prot w) : Rel P G g l A.row wr Prot w := by
  have h1 := h.tags 1
  have e : A.tags 1 = A.row := by
    simp only [AH.tags, AH.row]
    congr 1
    funext i
    by_cases hi : i = A.ln
    · subst hi; simp
    · have e1 : (Nat.ble A.ln i && Nat.blt i (A.ln + 1)) = false := by
        rw [Bool.and_eq_false_iff]
        rcases Nat.lt_or_ge i A.ln with h | h
        · left
          cases hb : Nat.ble A.ln i with
          | false => rfl
          | true => have := Nat.le_of_ble_eq_true hb; omega
        · right
          cases hb : Nat.blt i (A.ln + 1) with
          | false => rfl
          | true => simp [Nat.blt_eq] at hb; omega
      rw [e1, beq_false hi]; simp
  exact e ▸ h1

theorem repS_append : ∀ {as bs : List D} {b oo : Nat}, repS g as b oo → repS g bs b (oo + as.length) → repS g (as ++ bs) b oo
  | [], _, _, _, _, h => by simpa using h
  | a :: as, bs, b, oo, h, h' => by
    simp only [List.cons_append, repS] at h ⊢
    refine ⟨h.1, repS_append h.2 ?_⟩
    have e : oo + 1 + as.length = oo + (a :: as).length := by simp; omega
    rw [e]; exact h'

theorem repS_vals : ∀ {ds : List D} {b oo : Nat}, repS g ds b oo → ∃ vs : List Value, repL g Lo.none ds vs ∧ (∀ j u, vs[j]? = some u → g.σ b (oo + j) = some u) ∧ ∀ u ∈ vs, u.oneCell' = true
  | [], _, _, _ => ⟨[], by simp [repL], fun j u h => by simp at h, fun u h => by cases h⟩
  | d :: ds, b, oo, h => by
    simp only [repS] at h
    obtain ⟨⟨v, h1, h2, h3⟩, h4⟩ := h
    obtain ⟨vs, h5, h6, h7⟩ := repS_vals h4
    refine ⟨v :: vs, by simp only [repL]; exact ⟨v, vs, rfl, h3, h5⟩, fun j u hj => ?_, fun u hu => ?_⟩
    · cases j with
      | zero => simp at hj; subst hj; exact h1
      | succ j => simp at hj; rw [← h6 j u hj]; congr 1; omega
    · rcases List.mem_cons.1 hu with rfl | hu
      · exact h2
      · exact h7 u hu

theorem repS_of {ds : List D} {vs : List Value} {b oo : Nat} (h : repL g Lo.none ds vs) (hc : ∀ j u, vs[j]? = some u → g.σ b (oo + j) = some u) (h1 : ∀ u ∈ vs, u.oneCell' = true) : repS g ds b oo :=
  repS_mk fun i d e => by
    obtain ⟨v, hv, h2⟩ := repL_get h i d e
    exact ⟨v, hc i v hv, h1 v (List.mem_of_getElem? hv), h2⟩

/-- A new block becomes a growing row. -/
theorem Rel.new_row (h : Rel P G g l A wr Prot w) {vs sp : List Value} {e : TypeId} (hd : w'.heap = (w.alloc (.cells (vs ++ sp).toArray e (0, 0))).heap) (hos : w'.os = w.os ∧ w'.output = w.output) {n cap : Nat} (hn : vs.length = n * P.cellsOf e) (hc : n ≤ cap) (hm : cap ≤ maxLen) (hsz : (vs ++ sp).length = cap * P.cellsOf e) :
    Rel P G (g.sealing w.heap.size fun o => vs[o]?) (l.row A.ln ⟨w.heap.size, cap, n, e⟩) A.row wr Prot w' ∧ Fr Prot g (g.sealing w.heap.size fun o => vs[o]?) w w' ∧ l.le (l.row A.ln ⟨w.heap.size, cap, n, e⟩) := by
  obtain ⟨h1, h2⟩ := h.alloc_sealed vs sp e (0, 0)
  have h1' := h1.of_heap hd
  have h2' := h2.trans (Fr.of_heap (g := g.sealing w.heap.size fun o => vs[o]?) hd hos)
  have hb := heap_alloc_at w (.cells (vs ++ sp).toArray e (0, 0))
  have := h1'.add_row (r := ⟨w.heap.size, cap, n, e⟩) (cur := (vs ++ sp).toArray) (fun e => absurd (h.prot _ e) (Nat.lt_irrefl _)) (by rw [hd]; exact hb) hc hm (by simpa using hsz)
    (fun o ho => by simp only at ho; simp only [Gh.sealing, if_pos]; rw [List.getElem?_eq_none]; omega) (fun id e => absurd (h.ι_lt e).1 (Nat.lt_irrefl _)) (fun k e => absurd (h.κ_lt e) (Nat.lt_irrefl _))
    (fun t r' ht hr' e => by
      obtain ⟨cur, _, h3, _⟩ := h.tag t r' ht hr'
      have := (Array.getElem?_eq_some_iff.1 h3).1
      simp only at e
      omega)
  exact ⟨this.1, h2', this.2⟩

end
end Go.Abs
