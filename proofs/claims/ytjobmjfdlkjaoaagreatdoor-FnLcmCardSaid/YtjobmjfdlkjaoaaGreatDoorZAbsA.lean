/-
  The abstract logic, part A: abstract values, what they stand for, the abstract state, and the relation to the machine's world.
-/
import Derived.WalkKit
import Derived.Orders
import Derived.Laws.FloatArith
namespace Go.Abs
set_option linter.unusedVariables false
set_option linter.unusedSimpArgs false

/-- An abstract value. -/
inductive D where
  | sc (v : Value)
  | box (id off : Nat)
  | hp (id off : Nat)
  | pin (cs : List D) (off : Nat)
  | im (cs : List D) (len : Nat)
  | lit (cs : List D) (len : Nat)
  | gs (tag : Nat) (e : TypeId) (cs : List D) (len : Nat)
  | ms (id off len : Nat)
  | agg (cs : List D)
  | tup (vs : List D)
  | ifc (t : TypeId) (v : D)
  | fn (f : FuncId) (a b : List D)
  | mp (id : Nat)

/-- What is known of memory beside the locals: sealed cells, and where shared objects lie. -/
structure Gh where
  σ : Nat → Nat → Option Value
  κ : Nat → Option Nat

/-- A growing row: its block, capacity, length and element type. -/
structure Row where
  b : Nat
  cap : Nat
  len : Nat
  e : TypeId

/-- Where the locals lie: objects by number; growing rows by tag. -/
structure Lo where
  ι : Nat → Option Nat
  τ : Nat → Option Row

def Lo.none : Lo := ⟨fun _ => .none, fun _ => .none⟩

structure Gh.le (g g' : Gh) : Prop where
  σ : ∀ b o v, g.σ b o = some v → g'.σ b o = some v
  κ : ∀ i b, g.κ i = some b → g'.κ i = some b

structure Lo.le (l l' : Lo) : Prop where
  ι : ∀ i b, l.ι i = some b → l'.ι i = some b
  τ : ∀ i b, l.τ i = some b → l'.τ i = some b

theorem Gh.le.refl (g : Gh) : g.le g := ⟨fun _ _ _ h => h, fun _ _ h => h⟩
theorem Lo.le.refl (l : Lo) : l.le l := ⟨fun _ _ h => h, fun _ _ h => h⟩
theorem Gh.le.trans {a b c : Gh} (h : a.le b) (h' : b.le c) : a.le c := ⟨fun _ _ _ x => h'.σ _ _ _ (h.σ _ _ _ x), fun _ _ x => h'.κ _ _ (h.κ _ _ x)⟩
theorem Lo.le.trans {a b c : Lo} (h : a.le b) (h' : b.le c) : a.le c := ⟨fun _ _ x => h'.ι _ _ (h.ι _ _ x), fun _ _ x => h'.τ _ _ (h.τ _ _ x)⟩
theorem Lo.le.none (l : Lo) : Lo.none.le l := ⟨fun _ _ h => by simp [Lo.none] at h, fun _ _ h => by simp [Lo.none] at h⟩

mutual
/-- A value stands for an abstract one. -/
def rep (g : Gh) : Lo → D → Value → Prop
  | _, .sc v, x => x = v
  | l, .box id off, x => ∃ b, l.ι id = some b ∧ x = .pointer (some ⟨b, off, none⟩)
  | _, .hp id off, x => ∃ b, g.κ id = some b ∧ x = .pointer (some ⟨b, off, none⟩)
  | _, .pin cs off, x => ∃ b o, x = .pointer (some ⟨b, o + off, none⟩) ∧ repS g cs b o
  | _, .im cs len, x => (len = 0 ∧ cs = [] ∧ x = .slice none 0 0) ∨ ∃ b o cap, x = .slice (some ⟨b, o, none⟩) len cap ∧ len ≤ cap ∧ repS g cs b o
  | _, .lit cs len, x => ∃ b, x = .slice (some ⟨b, 0, none⟩) len len ∧ repS g cs b 0
  | l, .gs t e cs len, x => (len = 0 ∧ cs = [] ∧ x = .slice none 0 0) ∨ ∃ r, l.τ t = some r ∧ r.len = len ∧ r.e = e ∧ x = .slice (some ⟨r.b, 0, none⟩) len r.cap ∧ len ≤ r.cap ∧ repS g cs r.b 0
  | l, .ms id off len, x => ∃ b cap, l.ι id = some b ∧ x = .slice (some ⟨b, off, none⟩) len cap ∧ len ≤ cap
  | l, .agg cs, x => ∃ vs : List Value, x = .agg vs.toArray ∧ repL g l cs vs
  | l, .tup cs, x => ∃ vs : List Value, x = .tuple vs.toArray ∧ repL g l cs vs
  | l, .ifc t d, x => ∃ v, x = .iface t v ∧ rep g l d v
  | l, .fn f a b, x => ∃ u v : List Value, x = .func (.func f) u.toArray v.toArray ∧ repL g l a u ∧ repL g l b v
  | l, .mp id, x => ∃ b, l.ι id = some b ∧ x = .map (some b)
def repL (g : Gh) : Lo → List D → List Value → Prop
  | _, [], vs => vs = []
  | l, d :: ds, vs => ∃ v r, vs = v :: r ∧ rep g l d v ∧ repL g l ds r
def repS (g : Gh) : List D → Nat → Nat → Prop
  | [], _, _ => True
  | d :: ds, b, o => (∃ v, g.σ b o = some v ∧ v.oneCell' = true ∧ rep g Lo.none d v) ∧ repS g ds b (o + 1)
end

mutual
theorem rep_mono {g g' : Gh} (hg : g.le g') : ∀ (d : D) {l l' : Lo} (_ : l.le l') {x : Value}, rep g l d x → rep g' l' d x
  | .sc _, _, _, _, _, h => by simpa [rep] using h
  | .box _ _, _, _, hl, _, h => by simp only [rep] at h ⊢; obtain ⟨b, h1, h2⟩ := h; exact ⟨b, hl.ι _ _ h1, h2⟩
  | .hp _ _, _, _, _, _, h => by simp only [rep] at h ⊢; obtain ⟨b, h1, h2⟩ := h; exact ⟨b, hg.κ _ _ h1, h2⟩
  | .pin cs _, _, _, _, _, h => by simp only [rep] at h ⊢; obtain ⟨b, o, h1, h2⟩ := h; exact ⟨b, o, h1, repS_mono hg cs h2⟩
  | .im cs _, _, _, _, _, h => by
    simp only [rep] at h ⊢
    rcases h with h | ⟨b, o, c, h1, hc, h2⟩
    · exact .inl h
    · exact .inr ⟨b, o, c, h1, hc, repS_mono hg cs h2⟩
  | .lit cs _, _, _, _, _, h => by simp only [rep] at h ⊢; obtain ⟨b, h1, h2⟩ := h; exact ⟨b, h1, repS_mono hg cs h2⟩
  | .gs _ _ cs _, _, _, hl, _, h => by
    simp only [rep] at h ⊢
    rcases h with h | ⟨r, h1, hn, he, h2, hc, h3⟩
    · exact .inl h
    · exact .inr ⟨r, hl.τ _ _ h1, hn, he, h2, hc, repS_mono hg cs h3⟩
  | .ms _ _ _, _, _, hl, _, h => by simp only [rep] at h ⊢; obtain ⟨b, c, h1, h2, h3⟩ := h; exact ⟨b, c, hl.ι _ _ h1, h2, h3⟩
  | .agg cs, _, _, hl, _, h => by simp only [rep] at h ⊢; obtain ⟨vs, h1, h2⟩ := h; exact ⟨vs, h1, repL_mono hg cs hl h2⟩
  | .tup cs, _, _, hl, _, h => by simp only [rep] at h ⊢; obtain ⟨vs, h1, h2⟩ := h; exact ⟨vs, h1, repL_mono hg cs hl h2⟩
  | .ifc _ d, _, _, hl, _, h => by simp only [rep] at h ⊢; obtain ⟨v, h1, h2⟩ := h; exact ⟨v, h1, rep_mono hg d hl h2⟩
  | .fn _ a b, _, _, hl, _, h => by simp only [rep] at h ⊢; obtain ⟨u, v, h1, h2, h3⟩ := h; exact ⟨u, v, h1, repL_mono hg a hl h2, repL_mono hg b hl h3⟩
  | .mp _, _, _, hl, _, h => by simp only [rep] at h ⊢; obtain ⟨b, h1, h2⟩ := h; exact ⟨b, hl.ι _ _ h1, h2⟩
theorem repL_mono {g g' : Gh} (hg : g.le g') : ∀ (ds : List D) {l l' : Lo} (_ : l.le l') {xs : List Value}, repL g l ds xs → repL g' l' ds xs
  | [], _, _, _, _, h => by simpa [repL] using h
  | d :: ds, _, _, hl, _, h => by simp only [repL] at h ⊢; obtain ⟨v, r, h1, h2, h3⟩ := h; exact ⟨v, r, h1, rep_mono hg d hl h2, repL_mono hg ds hl h3⟩
theorem repS_mono {g g' : Gh} (hg : g.le g') : ∀ (ds : List D) {b o : Nat}, repS g ds b o → repS g' ds b o
  | [], _, _, _ => by simp [repS]
  | d :: ds, _, _, h => by simp only [repS] at h ⊢; obtain ⟨⟨v, h1, ho, h2⟩, h3⟩ := h; exact ⟨⟨v, hg.σ _ _ _ h1, ho, rep_mono hg d (Lo.le.refl _) h2⟩, repS_mono hg ds h3⟩
end

/-! Freezing: what a value is to a callee, a caller, or a row. -/
mutual
def fz : D → D
  | .sc (.slice none 0 0) => .im [] 0
  | .gs _ _ cs len => .im cs len
  | .lit cs len => .im cs len
  | .agg cs => .agg (fzL cs)
  | .tup cs => .tup (fzL cs)
  | .ifc t d => .ifc t (fz d)
  | .fn f a b => .fn f (fzL a) (fzL b)
  | d => d
def fzL : List D → List D
  | [] => []
  | d :: ds => fz d :: fzL ds
end

/-- No local is named. -/
def ext : D → Bool
  | .box .. | .ms .. | .mp .. | .gs .. => false
  | .agg cs => extL cs
  | .tup cs => extL cs
  | .ifc _ d => ext d
  | .fn _ a b => extL a && extL b
  | _ => true
where extL : List D → Bool
  | [] => true
  | d :: ds => ext d && extL ds

mutual
theorem rep_fz {g : Gh} : ∀ (d : D) {l : Lo} {x : Value}, rep g l d x → rep g l (fz d) x
  | .sc v, l, x, h => by
    unfold fz
    split
    · rename_i heq; cases heq; simp only [rep] at h ⊢; exact .inl ⟨trivial, trivial, h⟩
    all_goals first | (rename_i heq; cases heq; done) | exact h
  | .box _ _, _, _, h => by simpa [fz] using h
  | .hp _ _, _, _, h => by simpa [fz] using h
  | .pin _ _, _, _, h => by simpa [fz] using h
  | .im _ _, _, _, h => by simpa [fz] using h
  | .lit _ _, _, _, h => by simp only [fz, rep] at h ⊢; obtain ⟨b, h1, h2⟩ := h; exact .inr ⟨b, 0, _, h1, Nat.le_refl _, h2⟩
  | .ms _ _ _, _, _, h => by simpa [fz] using h
  | .mp _, _, _, h => by simpa [fz] using h
  | .gs _ _ cs _, _, _, h => by
    simp only [fz, rep] at h ⊢
    rcases h with h | ⟨r, _, _, _, h2, hc, h3⟩
    · exact .inl h
    · exact .inr ⟨r.b, 0, r.cap, h2, hc, h3⟩
  | .agg cs, _, _, h => by simp only [fz, rep] at h ⊢; obtain ⟨vs, h1, h2⟩ := h; exact ⟨vs, h1, repL_fz cs h2⟩
  | .tup cs, _, _, h => by simp only [fz, rep] at h ⊢; obtain ⟨vs, h1, h2⟩ := h; exact ⟨vs, h1, repL_fz cs h2⟩
  | .ifc _ d, _, _, h => by simp only [fz, rep] at h ⊢; obtain ⟨v, h1, h2⟩ := h; exact ⟨v, h1, rep_fz d h2⟩
  | .fn _ a b, _, _, h => by simp only [fz, rep] at h ⊢; obtain ⟨u, v, h1, h2, h3⟩ := h; exact ⟨u, v, h1, repL_fz a h2, repL_fz b h3⟩
theorem repL_fz {g : Gh} : ∀ (ds : List D) {l : Lo} {xs : List Value}, repL g l ds xs → repL g l (fzL ds) xs
  | [], _, _, h => by simpa [fzL, repL] using h
  | d :: ds, _, _, h => by simp only [fzL, repL] at h ⊢; obtain ⟨v, r, h1, h2, h3⟩ := h; exact ⟨v, r, h1, rep_fz d h2, repL_fz ds h3⟩
end

mutual
theorem rep_ext {g : Gh} : ∀ (d : D) {l : Lo} {x : Value}, ext d = true → rep g l d x → rep g Lo.none d x
  | .sc _, _, _, _, h => by simpa [rep] using h
  | .box _ _, _, _, e, _ => by simp [ext] at e
  | .hp _ _, _, _, _, h => by simpa [rep] using h
  | .pin _ _, _, _, _, h => by simpa [rep] using h
  | .im _ _, _, _, _, h => by simpa [rep] using h
  | .lit _ _, _, _, _, h => by simpa [rep] using h
  | .ms _ _ _, _, _, e, _ => by simp [ext] at e
  | .mp _, _, _, e, _ => by simp [ext] at e
  | .gs _ _ _ _, _, _, e, _ => by simp [ext] at e
  | .agg cs, _, _, e, h => by simp only [ext] at e; simp only [rep] at h ⊢; obtain ⟨vs, h1, h2⟩ := h; exact ⟨vs, h1, repL_ext cs e h2⟩
  | .tup cs, _, _, e, h => by simp only [ext] at e; simp only [rep] at h ⊢; obtain ⟨vs, h1, h2⟩ := h; exact ⟨vs, h1, repL_ext cs e h2⟩
  | .ifc _ d, _, _, e, h => by simp only [ext] at e; simp only [rep] at h ⊢; obtain ⟨v, h1, h2⟩ := h; exact ⟨v, h1, rep_ext d e h2⟩
  | .fn _ a b, _, _, e, h => by
    simp only [ext, Bool.and_eq_true] at e; simp only [rep] at h ⊢; obtain ⟨u, v, h1, h2, h3⟩ := h; exact ⟨u, v, h1, repL_ext a e.1 h2, repL_ext b e.2 h3⟩
theorem repL_ext {g : Gh} : ∀ (ds : List D) {l : Lo} {xs : List Value}, ext.extL ds = true → repL g l ds xs → repL g Lo.none ds xs
  | [], _, _, _, h => by simpa [repL] using h
  | d :: ds, _, _, e, h => by
    simp only [ext.extL, Bool.and_eq_true] at e; simp only [repL] at h ⊢; obtain ⟨v, r, h1, h2, h3⟩ := h; exact ⟨v, r, h1, rep_ext d e.1 h2, repL_ext ds e.2 h3⟩
end

/-! Lists of cells. -/
theorem repL_length {g : Gh} {l : Lo} : ∀ {ds : List D} {xs : List Value}, repL g l ds xs → xs.length = ds.length
  | [], _, h => by simp only [repL] at h; simp [h]
  | d :: ds, _, h => by simp only [repL] at h; obtain ⟨v, r, rfl, _, h3⟩ := h; simp [repL_length h3]

theorem repL_get {g : Gh} {l : Lo} : ∀ {ds : List D} {xs : List Value}, repL g l ds xs → ∀ (i : Nat) (d : D), ds[i]? = some d → ∃ v, xs[i]? = some v ∧ rep g l d v
  | [], _, _, i, d, e => by simp at e
  | d :: ds, _, h, 0, d', e => by simp only [repL] at h; obtain ⟨v, r, rfl, h2, _⟩ := h; simp at e; subst e; exact ⟨v, rfl, h2⟩
  | d :: ds, _, h, i + 1, d', e => by
    simp only [repL] at h; obtain ⟨v, r, rfl, _, h3⟩ := h
    simp only [List.getElem?_cons_succ] at e ⊢
    exact repL_get h3 i d' e

theorem repL_mk {g : Gh} {l : Lo} : ∀ {ds : List D} {xs : List Value}, xs.length = ds.length → (∀ (i : Nat) (d : D), ds[i]? = some d → ∃ v, xs[i]? = some v ∧ rep g l d v) → repL g l ds xs
  | [], [], _, _ => by simp [repL]
  | [], _ :: _, h, _ => by simp at h
  | _ :: _, [], h, _ => by simp at h
  | d :: ds, x :: xs, h, hh => by
    simp only [repL]
    refine ⟨x, xs, rfl, ?_, repL_mk (by simpa using h) fun i d' e => ?_⟩
    · obtain ⟨v, h1, h2⟩ := hh 0 d rfl
      simp at h1; subst h1; exact h2
    · obtain ⟨v, h1, h2⟩ := hh (i + 1) d' (by simpa using e)
      exact ⟨v, by simpa using h1, h2⟩

theorem repS_get {g : Gh} : ∀ {ds : List D} {b o : Nat}, repS g ds b o → ∀ (i : Nat) (d : D), ds[i]? = some d → ∃ v, g.σ b (o + i) = some v ∧ v.oneCell' = true ∧ rep g Lo.none d v
  | [], _, _, _, i, d, e => by simp at e
  | d :: ds, b, o, h, 0, d', e => by simp only [repS] at h; simp at e; subst e; exact h.1
  | d :: ds, b, o, h, i + 1, d', e => by
    simp only [repS] at h
    simp only [List.getElem?_cons_succ] at e
    obtain ⟨v, h1, ho, h2⟩ := repS_get h.2 i d' e
    exact ⟨v, by rw [← h1]; congr 1; omega, ho, h2⟩

theorem repS_mk {g : Gh} : ∀ {ds : List D} {b o : Nat}, (∀ (i : Nat) (d : D), ds[i]? = some d → ∃ v, g.σ b (o + i) = some v ∧ v.oneCell' = true ∧ rep g Lo.none d v) → repS g ds b o
  | [], _, _, _ => by simp [repS]
  | d :: ds, b, o, hh => by
    simp only [repS]
    refine ⟨by simpa using hh 0 d rfl, repS_mk fun i d' e => ?_⟩
    obtain ⟨v, h1, ho, h2⟩ := hh (i + 1) d' (by simpa using e)
    exact ⟨v, by rw [← h1]; congr 1; omega, ho, h2⟩

theorem repS_drop {g : Gh} {ds : List D} {b o : Nat} (h : repS g ds b o) (k : Nat) : repS g (ds.drop k) b (o + k) :=
  repS_mk fun i d e => by
    rw [List.getElem?_drop] at e
    obtain ⟨v, h1, ho, h2⟩ := repS_get h _ d e
    exact ⟨v, by rw [← h1]; congr 1; omega, ho, h2⟩

theorem repS_take {g : Gh} {ds : List D} {b o : Nat} (h : repS g ds b o) (k : Nat) : repS g (ds.take k) b o :=
  repS_mk fun i d e => by
    rw [List.getElem?_take] at e
    split at e
    · exact repS_get h _ d e
    · cases e

theorem repL_append {g : Gh} {l : Lo} : ∀ {as : List D} {xs : List Value} {bs ys}, repL g l as xs → repL g l bs ys → repL g l (as ++ bs) (xs ++ ys)
  | [], _, _, _, h, h' => by simp only [repL] at h; subst h; simpa using h'
  | a :: as, _, _, _, h, h' => by
    simp only [repL] at h; obtain ⟨v, r, rfl, h2, h3⟩ := h
    simp only [List.cons_append, repL]
    exact ⟨v, _, rfl, h2, repL_append h3 h'⟩

/-- One cell's value. -/
def oneD : D → Bool
  | .sc v => v.oneCell'
  | .agg _ | .tup _ => false
  | _ => true
def oneL (ds : List D) : Bool := ds.all oneD

theorem one_of {g : Gh} {l : Lo} {d : D} {v : Value} (h : rep g l d v) (ho : oneD d = true) : v.oneCell' = true := by
  cases d <;> simp only [rep] at h <;> simp only [oneD] at ho <;> first | (cases ho; done) | skip
  · subst h; exact ho
  · obtain ⟨_, _, rfl⟩ := h; rfl
  · obtain ⟨_, _, rfl⟩ := h; rfl
  · obtain ⟨_, _, rfl, _⟩ := h; rfl
  · rcases h with ⟨_, _, rfl⟩ | ⟨_, _, _, rfl, _⟩ <;> rfl
  · obtain ⟨_, rfl, _⟩ := h; rfl
  · rcases h with ⟨_, _, rfl⟩ | ⟨_, _, _, _, rfl, _⟩ <;> rfl
  · obtain ⟨_, _, _, rfl, _⟩ := h; rfl
  · obtain ⟨_, rfl, _⟩ := h; rfl
  · obtain ⟨_, _, rfl, _⟩ := h; rfl
  · obtain ⟨_, _, rfl⟩ := h; rfl

/-! The abstract state. -/
inductive LO where
  | cells (cs : List D)
  | iter (s : ByteArray) (pos : Nat)
  | map (es : List (D × D))

structure AH where
  o : List LO
  live : Nat → Bool
  ln : Nat
  h : Nat → Option (List D)

abbrev Env := Nat → D
def upd (e : Env) (d : Nat) (v : D) : Env := fun t => bif Nat.beq t d then v else e t
def updO (e : Env) (d : Option Nat) (v : D) : Env := match d with | some d => upd e d v | none => e

def evalD (G : Nat → D) (e : Env) : Operand → D
  | .tmp t => e t
  | .const v => .sc v
  | .global g => G g
  | .func f => .fn f [] []

end Go.Abs
