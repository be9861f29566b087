/-
  The abstract logic, part B: the relation of the abstract state to a world; what changes keep it.
-/
import Derived.Test.YtjobmjfdlkjaoaaGreatDoorZAbsA
namespace Go.Abs
set_option linter.unusedVariables false
set_option linter.unusedSimpArgs false

/-- An object lies in a block. -/
def Holds (g : Gh) (l : Lo) (w : World) : LO → Nat → Prop
  | .cells cs, b => ∃ (vs sp : List Value) (e : TypeId) (f : Nat × Nat), w.heap[b]? = some (.cells (vs ++ sp).toArray e f) ∧ repL g l cs vs ∧ ∀ o, o < cs.length → ¬ (f.1 ≤ o ∧ o < f.2)
  | .iter s pos, b => w.heap[b]? = some (.stringIter s pos)
  | .map es, b => ∃ (ms : List MapEntry) (clock : Nat), w.heap[b]? = some (.map ms.toArray clock) ∧ repL g l (es.map (·.1)) (ms.map (·.key)) ∧ repL g l (es.map (·.2)) (ms.map (·.val))

structure Rel (P : Program) (G : Nat → D) (g : Gh) (l : Lo) (A : AH) (wr : Bool) (Prot : Nat → Prop) (w : World) : Prop where
  glob : ∀ i, rep g Lo.none (G i) (.pointer (some ⟨i, 0, none⟩))
  prot : ∀ b, Prot b → b < w.heap.size
  sld : ∀ b o v, g.σ b o = some v → w.cell? ⟨b, o, none⟩ = some v
  loc : ∀ id ob, A.o[id]? = some ob → ∃ b, l.ι id = some b ∧ ¬ Prot b ∧ b < w.heap.size ∧ Holds g l w ob b
  locN : ∀ id, A.o.length ≤ id → l.ι id = none
  locInj : ∀ i j b, l.ι i = some b → l.ι j = some b → i = j
  locFree : ∀ id b, l.ι id = some b → (∀ o, g.σ b o = none) ∧ (∀ k, g.κ k ≠ some b)
  tag : ∀ t r, A.live t = true → l.τ t = some r → ∃ cur, ¬ Prot r.b ∧ w.heap[r.b]? = some (.cells cur r.e (0, 0)) ∧ r.len ≤ r.cap ∧ r.cap ≤ maxLen ∧ cur.size = r.cap * P.cellsOf r.e ∧
    (∀ o, r.len * P.cellsOf r.e ≤ o → g.σ r.b o = none) ∧ (∀ id, l.ι id ≠ some r.b) ∧ (∀ k, g.κ k ≠ some r.b)
  tagN : ∀ t, A.ln ≤ t → l.τ t = none ∧ A.live t = false
  tagInj : ∀ t t' r r', A.live t = true → A.live t' = true → l.τ t = some r → l.τ t' = some r' → r.b = r'.b → t = t'
  sh : ∀ k cs, A.h k = some cs → ∃ b, ∃ (vs : List Value) (e : TypeId), g.κ k = some b ∧ (wr = true → ¬ Prot b) ∧ w.heap[b]? = some (.cells vs.toArray e (0, 0)) ∧ repL g Lo.none cs vs
  shN : ∃ n, ∀ k, n ≤ k → g.κ k = none
  shInj : ∀ i j b, g.κ i = some b → g.κ j = some b → i = j
  shLt : ∀ k b, g.κ k = some b → b < w.heap.size ∧ ∀ o, g.σ b o = none

/-- What must not change has not; nothing is taken away; more is known, but not of what must not change. -/
structure Fr (Prot : Nat → Prop) (g g' : Gh) (w w' : World) : Prop where
  le : g.le g'
  size : w.heap.size ≤ w'.heap.size
  heap : ∀ b, Prot b → w'.heap[b]? = w.heap[b]?
  sig : ∀ b o, Prot b → g'.σ b o = g.σ b o
  kap : ∀ k b, Prot b → g'.κ k = some b → g.κ k = some b
  os : w'.os = w.os ∧ w'.output = w.output

theorem Fr.refl (Prot : Nat → Prop) (g : Gh) (w : World) : Fr Prot g g w w := ⟨Gh.le.refl _, Nat.le_refl _, fun _ _ => rfl, fun _ _ _ => rfl, fun _ _ _ h => h, rfl, rfl⟩
theorem Fr.trans {Prot : Nat → Prop} {g g' g'' : Gh} {a b c : World} (h : Fr Prot g g' a b) (h' : Fr Prot g' g'' b c) : Fr Prot g g'' a c :=
  ⟨h.le.trans h'.le, Nat.le_trans h.size h'.size, fun x hx => (h'.heap x hx).trans (h.heap x hx), fun x o hx => (h'.sig x o hx).trans (h.sig x o hx), fun k x hx e => h.kap k x hx (h'.kap k x hx e), h'.os.1.trans h.os.1, h'.os.2.trans h.os.2⟩
theorem Fr.of_heap {Prot : Nat → Prop} {g : Gh} {w w' : World} (e : w'.heap = w.heap) (eo : w'.os = w.os ∧ w'.output = w.output) : Fr Prot g g w w' := ⟨Gh.le.refl _, by rw [e]; exact Nat.le_refl _, fun _ _ => by rw [e], fun _ _ _ => rfl, fun _ _ _ h => h, eo⟩

section
variable {P : Program} {G : Nat → D} {g : Gh} {l : Lo} {A : AH} {wr : Bool} {Prot : Nat → Prop} {w w' : World}

theorem Rel.ι_lt (h : Rel P G g l A wr Prot w) {id b : Nat} (e : l.ι id = some b) : b < w.heap.size ∧ ¬ Prot b := by
  rcases Nat.lt_or_ge id A.o.length with hlt | hge
  · obtain ⟨b', h1, h2, h3, _⟩ := h.loc id _ (List.getElem?_eq_getElem hlt)
    rw [e] at h1; cases h1; exact ⟨h3, h2⟩
  · rw [h.locN id hge] at e; cases e

theorem Rel.σ_lt (h : Rel P G g l A wr Prot w) {b o : Nat} {v : Value} (e : g.σ b o = some v) : b < w.heap.size :=
  World.block_lt_of_cell? w ⟨b, o, none⟩ (h.sld _ _ _ e)

theorem Rel.σ_new (h : Rel P G g l A wr Prot w) {b : Nat} (hb : w.heap.size ≤ b) (o : Nat) : g.σ b o = none := by
  cases e : g.σ b o with
  | none => rfl
  | some v => exact absurd (h.σ_lt e) (by omega)

theorem Rel.κ_lt (h : Rel P G g l A wr Prot w) {k b : Nat} (e : g.κ k = some b) : b < w.heap.size := (h.shLt k b e).1

theorem Holds.of_block {ob : LO} {b : Nat} (h : Holds g l w ob b) (e : w'.heap[b]? = w.heap[b]?) : Holds g l w' ob b := by
  cases ob <;> simp only [Holds] at h ⊢ <;> rw [e] <;> exact h

theorem Holds.mono {g' : Gh} {l' : Lo} (hg : g.le g') (hl : l.le l') {ob : LO} {b : Nat} (h : Holds g l w ob b) : Holds g' l' w ob b := by
  cases ob <;> simp only [Holds] at h ⊢
  · obtain ⟨vs, sp, e, f, h1, h2, h3⟩ := h; exact ⟨vs, sp, e, f, h1, repL_mono hg _ hl h2, h3⟩
  · exact h
  · obtain ⟨ms, c, h1, h2, h3⟩ := h; exact ⟨ms, c, h1, repL_mono hg _ hl h2, repL_mono hg _ hl h3⟩

theorem cell?_block {w w' : World} {b o : Nat} (e : w'.heap[b]? = w.heap[b]?) : w'.cell? ⟨b, o, none⟩ = w.cell? ⟨b, o, none⟩ := by
  simp [World.cell?, e]

/-- The heap alone counts. -/
theorem Rel.of_heap (h : Rel P G g l A wr Prot w) (e : w'.heap = w.heap) : Rel P G g l A wr Prot w' := by
  have eb : ∀ b : Nat, w'.heap[b]? = w.heap[b]? := fun b => by rw [e]
  exact ⟨h.glob, fun b hb => by rw [e]; exact h.prot b hb, fun b o v hv => (cell?_block (eb b)).trans (h.sld b o v hv),
    fun id ob ho => by obtain ⟨b, h1, h2, h3, h4⟩ := h.loc id ob ho; exact ⟨b, h1, h2, by rw [e]; exact h3, h4.of_block (eb b)⟩,
    h.locN, h.locInj, h.locFree, fun t r ht h1 => by obtain ⟨cur, h2, h3, h4⟩ := h.tag t r ht h1; exact ⟨cur, h2, (eb _).trans h3, h4⟩,
    h.tagN, h.tagInj, fun k cs hk => by obtain ⟨b, vs, t, h1, h2, h3, h4⟩ := h.sh k cs hk; exact ⟨b, vs, t, h1, h2, (eb _).trans h3, h4⟩,
    h.shN, h.shInj, fun k b hk => by rw [e]; exact h.shLt k b hk⟩

/-- What lies in blocks that stay stays. -/
theorem Rel.grow (h : Rel P G g l A wr Prot w) (hs : w.heap.size ≤ w'.heap.size) (eb : ∀ b, b < w.heap.size → w'.heap[b]? = w.heap[b]?) : Rel P G g l A wr Prot w' := by
  have lt : ∀ {b x}, w.heap[b]? = some x → b < w.heap.size := fun hx => (Array.getElem?_eq_some_iff.1 hx).1
  exact ⟨h.glob, fun b hb => Nat.lt_of_lt_of_le (h.prot b hb) hs, fun b o v hv => (cell?_block (eb b (h.σ_lt hv))).trans (h.sld b o v hv),
    fun id ob ho => by obtain ⟨b, h1, h2, h3, h4⟩ := h.loc id ob ho; exact ⟨b, h1, h2, Nat.lt_of_lt_of_le h3 hs, h4.of_block (eb b h3)⟩,
    h.locN, h.locInj, h.locFree, fun t r ht h1 => by obtain ⟨cur, h2, h3, h4⟩ := h.tag t r ht h1; exact ⟨cur, h2, (eb _ (lt h3)).trans h3, h4⟩,
    h.tagN, h.tagInj, fun k cs hk => by obtain ⟨b, vs, t, h1, h2, h3, h4⟩ := h.sh k cs hk; exact ⟨b, vs, t, h1, h2, (eb _ (lt h3)).trans h3, h4⟩,
    h.shN, h.shInj, fun k b hk => ⟨Nat.lt_of_lt_of_le (h.shLt k b hk).1 hs, (h.shLt k b hk).2⟩⟩

theorem heap_alloc_lt (w : World) (o : Obj) : ∀ b, b < w.heap.size → (w.alloc o).heap[b]? = w.heap[b]? := fun _ hb => heap_alloc_old w o hb
theorem heap_alloc_at (w : World) (o : Obj) : (w.alloc o).heap[w.heap.size]? = some o := heap_alloc_new w o

theorem Rel.alloc (h : Rel P G g l A wr Prot w) (o : Obj) : Rel P G g l A wr Prot (w.alloc o) := h.grow (by simp) (heap_alloc_lt w o)
theorem Fr.alloc (h : Rel P G g l A wr Prot w) (o : Obj) : Fr Prot g g w (w.alloc o) := ⟨Gh.le.refl _, by simp, fun b hb => heap_alloc_lt w o b (h.prot b hb), fun _ _ _ => rfl, fun _ _ _ h => h, rfl, rfl⟩

/-- The cells of a block that nobody owns are sealed. -/
def Gh.sealing (g : Gh) (b : Nat) (f : Nat → Option Value) : Gh := { g with σ := fun b' o => if b' = b then f o else g.σ b' o }

theorem Gh.le_sealing {b : Nat} {f : Nat → Option Value} (hn : ∀ o v, g.σ b o = some v → f o = some v) : g.le (g.sealing b f) := by
  refine ⟨fun b' o v hv => ?_, fun _ _ h => h⟩
  simp only [Gh.sealing]
  by_cases e : b' = b
  · subst e; simp only [if_pos]; exact hn o v hv
  · simp only [if_neg e]; exact hv

theorem Rel.sealing (h : Rel P G g l A wr Prot w) {b : Nat} {f : Nat → Option Value} (hn : ∀ o v, g.σ b o = some v → f o = some v)
    (hc : ∀ o v, f o = some v → w.cell? ⟨b, o, none⟩ = some v) (hι : ∀ id, l.ι id ≠ some b) (hκ : ∀ k, g.κ k ≠ some b)
    (hτ : ∀ t r, A.live t = true → l.τ t = some r → r.b = b → ∀ o, r.len * P.cellsOf r.e ≤ o → f o = none) : Rel P G (g.sealing b f) l A wr Prot w := by
  have hle : g.le (g.sealing b f) := Gh.le_sealing hn
  refine ⟨fun i => rep_mono hle _ (Lo.le.refl _) (h.glob i), h.prot, fun b' o v hv => ?_, fun id ob ho => ?_, h.locN, h.locInj, fun id b' hi => ⟨fun o => ?_, (h.locFree id b' hi).2⟩,
    fun t r ht h1 => ?_, h.tagN, h.tagInj, fun k cs hk => ?_, h.shN, h.shInj, fun k b' hk => ⟨h.κ_lt hk, fun o => ?_⟩⟩
  · simp only [Gh.sealing] at hv
    by_cases e : b' = b
    · subst e; simp only [if_pos] at hv; exact hc o v hv
    · simp only [if_neg e] at hv; exact h.sld _ _ _ hv
  · obtain ⟨b', h1, h2, h3, h4⟩ := h.loc id ob ho
    exact ⟨b', h1, h2, h3, h4.mono hle (Lo.le.refl _)⟩
  · simp only [Gh.sealing]
    rw [if_neg (fun e => hι id (by rw [← e]; exact hi))]
    exact (h.locFree id b' hi).1 o
  · obtain ⟨cur, h2, h3, h4, h5, h6, h7, h8, h9⟩ := h.tag t r ht h1
    refine ⟨cur, h2, h3, h4, h5, h6, fun o ho => ?_, h8, h9⟩
    simp only [Gh.sealing]
    by_cases e : r.b = b
    · rw [if_pos e]; exact hτ t r ht h1 e o ho
    · rw [if_neg e]; exact h7 o ho
  · obtain ⟨b', vs, t, h1, h2, h3, h4⟩ := h.sh k cs hk
    exact ⟨b', vs, t, h1, h2, h3, repL_mono hle _ (Lo.le.refl _) h4⟩
  · simp only [Gh.sealing]
    rw [if_neg (fun e => hκ k (by rw [← e]; exact hk))]
    exact (h.shLt k b' hk).2 o

/-- A new block whose cells are sealed at once. -/
theorem Rel.alloc_sealed (h : Rel P G g l A wr Prot w) (vs : List Value) (sp : List Value) (e : TypeId) (f : Nat × Nat) :
    Rel P G (g.sealing w.heap.size fun o => vs[o]?) l A wr Prot (w.alloc (.cells (vs ++ sp).toArray e f)) ∧ Fr Prot g (g.sealing w.heap.size fun o => vs[o]?) w (w.alloc (.cells (vs ++ sp).toArray e f)) := by
  have hno : ∀ o v, g.σ w.heap.size o = some v → vs[o]? = some v := fun o v hv => by rw [h.σ_new (Nat.le_refl _)] at hv; cases hv
  refine ⟨(h.alloc _).sealing hno (fun o v hv => ?_) (fun id e => ?_) (fun k e => ?_) (fun t r ht hr e o _ => ?_), ⟨Gh.le_sealing hno, by simp, fun b hb => heap_alloc_lt w _ b (h.prot b hb), fun b o hb => ?_, fun _ _ _ h => h, rfl, rfl⟩⟩
  · have : (vs ++ sp)[o]? = some v := by rw [List.getElem?_append_left (List.getElem?_eq_some_iff.1 hv).1]; exact hv
    have hb := heap_alloc_at w (.cells (vs ++ sp).toArray e f)
    simp only [World.cell?, hb]
    simpa using this
  · exact absurd (h.ι_lt e).1 (Nat.lt_irrefl _)
  · exact absurd (h.κ_lt e) (Nat.lt_irrefl _)
  · obtain ⟨cur, h2, h3, _⟩ := h.tag t r ht hr
    have := (Array.getElem?_eq_some_iff.1 h3).1
    omega
  · simp only [Gh.sealing]
    rw [if_neg (fun e => absurd (h.prot b hb) (by omega))]

theorem repS_sealed {gs : List D} {vs : List Value} {b : Nat} (h : repL (g.sealing b fun o => vs[o]?) Lo.none gs vs) (h1 : ∀ v ∈ vs, v.oneCell' = true) : repS (g.sealing b fun o => vs[o]?) gs b 0 :=
  repS_mk fun i d e => by
    obtain ⟨v, hv, h2⟩ := repL_get h i d e
    exact ⟨v, by simp [Gh.sealing, hv], h1 v (List.mem_of_getElem? hv), h2⟩

/-- A new local object. -/
def Lo.push (l : Lo) (id b : Nat) : Lo := { l with ι := fun i => if i = id then some b else l.ι i }

theorem Lo.le_push {id b : Nat} (h : l.ι id = Option.none) : l.le (l.push id b) :=
  ⟨fun i b' hi => by
    simp only [Lo.push]
    by_cases e : i = id
    · subst e; rw [h] at hi; cases hi
    · rw [if_neg e]; exact hi, fun _ _ h => h⟩

def AH.push (A : AH) (ob : LO) : AH := { A with o := A.o ++ [ob] }

theorem Rel.alloc_local (h : Rel P G g l A wr Prot w) (o : Obj) (ob : LO) (hh : Holds g (l.push A.o.length w.heap.size) (w.alloc o) ob w.heap.size) :
    Rel P G g (l.push A.o.length w.heap.size) (A.push ob) wr Prot (w.alloc o) ∧ l.le (l.push A.o.length w.heap.size) := by
  have hle : l.le (l.push A.o.length w.heap.size) := Lo.le_push (h.locN _ (Nat.le_refl _))
  have ha := h.alloc o
  have np : ¬ Prot w.heap.size := fun e => absurd (h.prot _ e) (Nat.lt_irrefl _)
  refine ⟨⟨h.glob, ha.prot, ha.sld, fun id ob' ho => ?_, fun id hid => ?_, fun i j b hi hj => ?_, fun id b hi => ?_, fun t r ht h1 => ?_, h.tagN, fun t t' r r' => h.tagInj t t' r r', ha.sh, h.shN, h.shInj, ha.shLt⟩, hle⟩
  · simp only [AH.push] at ho
    rcases Nat.lt_or_ge id A.o.length with hlt | hge
    · rw [List.getElem?_append_left hlt] at ho
      obtain ⟨b, h1, h2, h3, h4⟩ := ha.loc id ob' ho
      exact ⟨b, hle.ι _ _ h1, h2, h3, h4.mono (Gh.le.refl _) hle⟩
    · rw [List.getElem?_append_right hge] at ho
      have e0 : id - A.o.length = 0 := by
        rcases Nat.eq_zero_or_pos (id - A.o.length) with e | e
        · exact e
        · rw [List.getElem?_eq_none (by simp; omega)] at ho; cases ho
      have e1 : id = A.o.length := by omega
      subst e1
      simp at ho; subst ho
      exact ⟨w.heap.size, by simp [Lo.push], np, by simp, hh⟩
  · simp only [AH.push, List.length_append, List.length_cons, List.length_nil] at hid
    simp only [Lo.push]
    rw [if_neg (by omega)]
    exact h.locN id (by omega)
  · simp only [Lo.push] at hi hj
    by_cases ei : i = A.o.length <;> by_cases ej : j = A.o.length
    · omega
    · rw [if_pos ei] at hi; rw [if_neg ej] at hj; cases hi
      exact absurd (h.ι_lt hj).1 (Nat.lt_irrefl _)
    · rw [if_neg ei] at hi; rw [if_pos ej] at hj; cases hj
      exact absurd (h.ι_lt hi).1 (Nat.lt_irrefl _)
    · rw [if_neg ei] at hi; rw [if_neg ej] at hj; exact h.locInj i j b hi hj
  · simp only [Lo.push] at hi
    by_cases ei : id = A.o.length
    · rw [if_pos ei] at hi; cases hi
      exact ⟨fun o => h.σ_new (Nat.le_refl _) o, fun k hk => absurd (h.κ_lt hk) (Nat.lt_irrefl _)⟩
    · rw [if_neg ei] at hi; exact h.locFree id b hi
  · obtain ⟨cur, h2, h3, h4, h5, h6, h7, h8, h9⟩ := ha.tag t r ht h1
    refine ⟨cur, h2, h3, h4, h5, h6, h7, fun id hi => ?_, h9⟩
    simp only [Lo.push] at hi
    by_cases ei : id = A.o.length
    · rw [if_pos ei] at hi
      obtain ⟨cur', _, h3', _⟩ := h.tag t r ht h1
      have := (Array.getElem?_eq_some_iff.1 h3').1
      have := Option.some.inj hi; omega
    · rw [if_neg ei] at hi; exact h8 id hi

/-- A local object is written. -/
def AH.set (A : AH) (id : Nat) (ob : LO) : AH := { A with o := A.o.set id ob }

theorem Rel.set_local (h : Rel P G g l A wr Prot w) {id b : Nat} {ob : LO} (hid : id < A.o.length) (hι : l.ι id = some b) (hs : w'.heap.size = w.heap.size)
    (eb : ∀ b', b' ≠ b → w'.heap[b']? = w.heap[b']?) (hh : Holds g l w' ob b) : Rel P G g l (A.set id ob) wr Prot w' := by
  refine ⟨h.glob, fun b hb => by rw [hs]; exact h.prot b hb, fun b' o v hv => ?_, fun id' ob' ho => ?_, fun id' hid' => h.locN id' (by simpa [AH.set] using hid'), h.locInj, h.locFree, fun t r ht h1 => ?_, h.tagN, h.tagInj, fun k cs hk => ?_, h.shN, h.shInj,
    fun k b' hk => by rw [hs]; exact h.shLt k b' hk⟩
  · have hne : b' ≠ b := fun e => by rw [e, (h.locFree id b hι).1 o] at hv; cases hv
    exact (cell?_block (eb b' hne)).trans (h.sld _ _ _ hv)
  · simp only [AH.set, List.getElem?_set] at ho
    by_cases e : id = id'
    · subst e
      rw [if_pos rfl] at ho
      rw [if_pos hid] at ho
      cases ho
      exact ⟨b, hι, (h.ι_lt hι).2, by rw [hs]; exact (h.ι_lt hι).1, hh⟩
    · rw [if_neg e] at ho
      obtain ⟨b', h1, h2, h3, h4⟩ := h.loc id' ob' ho
      have hne : b' ≠ b := fun e' => e (h.locInj _ _ _ (e' ▸ hι) h1)
      exact ⟨b', h1, h2, by rw [hs]; exact h3, h4.of_block (eb b' hne)⟩
  · obtain ⟨cur, h2, h3, h4, h5, h6, h7, h8, h9⟩ := h.tag t r ht h1
    exact ⟨cur, h2, (eb _ fun e => h8 id (by rw [e]; exact hι)).trans h3, h4, h5, h6, h7, h8, h9⟩
  · obtain ⟨b', vs, t, h1, h2, h3, h4⟩ := h.sh k cs hk
    exact ⟨b', vs, t, h1, h2, (eb _ fun e => (h.locFree id b hι).2 k (by rw [← e]; exact h1)).trans h3, h4⟩

/-- A new shared object. -/
def Gh.share (g : Gh) (k b : Nat) : Gh := { g with κ := fun i => if i = k then some b else g.κ i }
def AH.hset (A : AH) (k : Nat) (cs : List D) : AH := { A with h := fun i => if i = k then some cs else A.h i }

theorem Gh.le_share {k b : Nat} (h : g.κ k = none) : g.le (g.share k b) :=
  ⟨fun _ _ _ h => h, fun i b' hi => by
    simp only [Gh.share]
    by_cases e : i = k
    · subst e; rw [h] at hi; cases hi
    · rw [if_neg e]; exact hi⟩

theorem Rel.alloc_shared (h : Rel P G g l A wr Prot w) {k : Nat} (hk0 : g.κ k = none) (vs : List Value) (e : TypeId) (cs : List D) (hr : repL (g.share k w.heap.size) Lo.none cs vs) :
    Rel P G (g.share k w.heap.size) l (A.hset k cs) wr Prot (w.alloc (.cells vs.toArray e)) ∧ Fr Prot g (g.share k w.heap.size) w (w.alloc (.cells vs.toArray e)) := by
  have hle : g.le (g.share k w.heap.size) := Gh.le_share hk0
  have ha := h.alloc (.cells vs.toArray e)
  have np : ¬ Prot w.heap.size := fun e => absurd (h.prot _ e) (Nat.lt_irrefl _)
  refine ⟨⟨fun i => rep_mono hle _ (Lo.le.refl _) (h.glob i), ha.prot, ha.sld, fun id ob ho => ?_, h.locN, h.locInj, fun id b hi => ⟨(h.locFree id b hi).1, fun k' hk => ?_⟩, fun t r ht h1 => ?_, h.tagN, h.tagInj, fun k' cs' hk => ?_, ?_, fun i j b hi hj => ?_, fun k' b hk => ?_⟩,
    ⟨hle, by simp, fun b hb => heap_alloc_lt w _ b (h.prot b hb), fun _ _ _ => rfl, fun k' b hb hk => ?_, rfl, rfl⟩⟩
  · obtain ⟨b, h1, h2, h3, h4⟩ := ha.loc id ob ho
    exact ⟨b, h1, h2, h3, h4.mono hle (Lo.le.refl _)⟩
  · simp only [Gh.share] at hk
    by_cases e : k' = k
    · rw [if_pos e] at hk; cases hk; exact absurd (h.ι_lt hi).1 (Nat.lt_irrefl _)
    · rw [if_neg e] at hk; exact (h.locFree id b hi).2 k' hk
  · obtain ⟨cur, h2, h3, h4, h5, h6, h7, h8, h9⟩ := ha.tag t r ht h1
    refine ⟨cur, h2, h3, h4, h5, h6, h7, h8, fun k' hk => ?_⟩
    simp only [Gh.share] at hk
    by_cases e : k' = k
    · rw [if_pos e] at hk
      obtain ⟨cur', _, h3', _⟩ := h.tag t r ht h1
      have := (Array.getElem?_eq_some_iff.1 h3').1
      have := Option.some.inj hk; omega
    · rw [if_neg e] at hk; exact h9 k' hk
  · simp only [AH.hset] at hk
    by_cases e' : k' = k
    · rw [if_pos e'] at hk; cases hk
      exact ⟨w.heap.size, vs, e, by simp [Gh.share, e'], fun _ => np, heap_alloc_at _ _, hr⟩
    · rw [if_neg e'] at hk
      obtain ⟨b, vs', t, h1, h2, h3, h4⟩ := ha.sh k' cs' hk
      exact ⟨b, vs', t, hle.κ _ _ h1, h2, h3, repL_mono hle _ (Lo.le.refl _) h4⟩
  · obtain ⟨n, hn⟩ := h.shN
    refine ⟨max n (k + 1), fun k' hk' => ?_⟩
    simp only [Gh.share]
    rw [if_neg (by omega)]
    exact hn k' (by omega)
  · simp only [Gh.share] at hi hj
    by_cases ei : i = k <;> by_cases ej : j = k
    · omega
    · rw [if_pos ei] at hi; rw [if_neg ej] at hj; cases hi
      exact absurd (h.κ_lt hj) (Nat.lt_irrefl _)
    · rw [if_neg ei] at hi; rw [if_pos ej] at hj; cases hj
      exact absurd (h.κ_lt hi) (Nat.lt_irrefl _)
    · rw [if_neg ei] at hi; rw [if_neg ej] at hj; exact h.shInj i j b hi hj
  · simp only [Gh.share] at hk
    by_cases e : k' = k
    · rw [if_pos e] at hk; cases hk
      exact ⟨by simp, fun o => h.σ_new (Nat.le_refl _) o⟩
    · rw [if_neg e] at hk
      exact ⟨Nat.lt_of_lt_of_le (h.shLt k' b hk).1 (by simp), (h.shLt k' b hk).2⟩
  · simp only [Gh.share] at hk
    by_cases e : k' = k
    · rw [if_pos e] at hk; cases hk; exact absurd hb np
    · rw [if_neg e] at hk; exact hk

/-- A shared object is written. -/
theorem Rel.set_shared (h : Rel P G g l A true Prot w) {k b : Nat} {cs₀ cs : List D} (hk : A.h k = some cs₀) (hκ : g.κ k = some b) (hs : w'.heap.size = w.heap.size)
    (eb : ∀ b', b' ≠ b → w'.heap[b']? = w.heap[b']?) {vs : List Value} {e : TypeId} (hb : w'.heap[b]? = some (.cells vs.toArray e (0, 0))) (hr : repL g Lo.none cs vs) :
    Rel P G g l (A.hset k cs) true Prot w' ∧ ¬ Prot b := by
  have hp : ¬ Prot b := by
    obtain ⟨b', _, _, h1, h2, _⟩ := h.sh k _ hk
    rw [hκ] at h1; cases h1; exact h2 rfl
  have hsig := (h.shLt k b hκ).2
  refine ⟨⟨h.glob, fun b hb => by rw [hs]; exact h.prot b hb, fun b' o v hv => ?_, fun id' ob' ho => ?_, h.locN, h.locInj, h.locFree, fun t r ht h1 => ?_, h.tagN, h.tagInj, fun k' cs' hk' => ?_, h.shN, h.shInj,
    fun k b' hk => by rw [hs]; exact h.shLt k b' hk⟩, hp⟩
  · have hne : b' ≠ b := fun e => by rw [e, hsig o] at hv; cases hv
    exact (cell?_block (eb b' hne)).trans (h.sld _ _ _ hv)
  · obtain ⟨b', h1, h2, h3, h4⟩ := h.loc id' ob' ho
    have hne : b' ≠ b := fun e' => (h.locFree id' b' h1).2 k (e' ▸ hκ)
    exact ⟨b', h1, h2, by rw [hs]; exact h3, h4.of_block (eb b' hne)⟩
  · obtain ⟨cur, h2, h3, h4, h5, h6, h7, h8, h9⟩ := h.tag t r ht h1
    exact ⟨cur, h2, (eb _ fun e => h9 k (by rw [e]; exact hκ)).trans h3, h4, h5, h6, h7, h8, h9⟩
  · simp only [AH.hset] at hk'
    by_cases e' : k' = k
    · rw [if_pos e'] at hk'; cases hk'
      exact ⟨b, vs, e, e' ▸ hκ, fun _ => hp, hb, hr⟩
    · rw [if_neg e'] at hk'
      obtain ⟨b', vs', t, h1, h2, h3, h4⟩ := h.sh k' cs' hk'
      exact ⟨b', vs', t, h1, h2, (eb _ fun e => e' (h.shInj _ _ _ (e ▸ h1) hκ)).trans h3, h4⟩

end
end Go.Abs
