/- Walks of the functions, printed by program, and the logic behind them: each theorem says what one function or one step answers. -/
import Derived.WalkKit
import Derived.Orders
import Derived.Laws.FloatArith
namespace Go.Abs
set_option linter.unusedVariables false
set_option linter.unusedSimpArgs false

/-- An abstract value. -/
inductive D where
  | sc (v : Value)
  | box (id off : Nat)
  | hp (id off : Nat)
  | pin (cs : List D) (off : Nat)
  | im (cs : List D) (len : Nat)
  | lit (cs : List D) (len : Nat)
  | gs (tag : Nat) (e : TypeId) (cs : List D) (len : Nat)
  | ms (id off len : Nat)
  | hs (id off len cap : Nat)
  | agg (cs : List D)
  | tup (vs : List D)
  | ifc (t : TypeId) (v : D)
  | fn (f : FuncId) (a b : List D)
  | mp (id : Nat)

/-- What is known of memory beside the locals: sealed cells, and where shared objects lie. -/
structure Gh where
  σ : Nat → Nat → Option Value
  κ : Nat → Option Nat

/-- A growing row: its block, capacity, length and element type. -/
structure Row where
  b : Nat
  cap : Nat
  len : Nat
  e : TypeId

/-- Where the locals lie: objects by number; growing rows by tag. -/
structure Lo where
  ι : Nat → Option Nat
  τ : Nat → Option Row

def Lo.none : Lo := ⟨fun _ => .none, fun _ => .none⟩

structure Gh.le (g g' : Gh) : Prop where
  σ : ∀ b o v, g.σ b o = some v → g'.σ b o = some v
  κ : ∀ i b, g.κ i = some b → g'.κ i = some b

structure Lo.le (l l' : Lo) : Prop where
  ι : ∀ i b, l.ι i = some b → l'.ι i = some b
  τ : ∀ i b, l.τ i = some b → l'.τ i = some b

theorem Gh.le.refl (g : Gh) : g.le g := ⟨fun _ _ _ h => h, fun _ _ h => h⟩
theorem Lo.le.refl (l : Lo) : l.le l := ⟨fun _ _ h => h, fun _ _ h => h⟩
theorem Gh.le.trans {a b c : Gh} (h : a.le b) (h' : b.le c) : a.le c := ⟨fun _ _ _ x => h'.σ _ _ _ (h.σ _ _ _ x), fun _ _ x => h'.κ _ _ (h.κ _ _ x)⟩
theorem Lo.le.trans {a b c : Lo} (h : a.le b) (h' : b.le c) : a.le c := ⟨fun _ _ x => h'.ι _ _ (h.ι _ _ x), fun _ _ x => h'.τ _ _ (h.τ _ _ x)⟩
theorem Lo.le.none (l : Lo) : Lo.none.le l := ⟨fun _ _ h => by simp [Lo.none] at h, fun _ _ h => by simp [Lo.none] at h⟩

mutual
/-- A value stands for an abstract one. -/
def rep (g : Gh) : Lo → D → Value → Prop
  | _, .sc v, x => x = v
  | l, .box id off, x => ∃ b, l.ι id = some b ∧ x = .pointer (some ⟨b, off, none⟩)
  | _, .hp id off, x => ∃ b, g.κ id = some b ∧ x = .pointer (some ⟨b, off, none⟩)
  | _, .pin cs off, x => ∃ b o, x = .pointer (some ⟨b, o + off, none⟩) ∧ repS g cs b o
  | _, .im cs len, x => (len = 0 ∧ cs = [] ∧ x = .slice none 0 0) ∨ ∃ b o cap, x = .slice (some ⟨b, o, none⟩) len cap ∧ len ≤ cap ∧ repS g cs b o
  | _, .lit cs len, x => ∃ b, x = .slice (some ⟨b, 0, none⟩) len len ∧ repS g cs b 0
  | l, .gs t e cs len, x => (len = 0 ∧ cs = [] ∧ x = .slice none 0 0) ∨ ∃ r, l.τ t = some r ∧ r.len = len ∧ r.e = e ∧ x = .slice (some ⟨r.b, 0, none⟩) len r.cap ∧ len ≤ r.cap ∧ repS g cs r.b 0
  | l, .ms id off len, x => ∃ b cap, l.ι id = some b ∧ x = .slice (some ⟨b, off, none⟩) len cap ∧ len ≤ cap
  | _, .hs id off len cap, x => ∃ b, g.κ id = some b ∧ x = .slice (some ⟨b, off, none⟩) len cap
  | l, .agg cs, x => ∃ vs : List Value, x = .agg vs.toArray ∧ repL g l cs vs
  | l, .tup cs, x => ∃ vs : List Value, x = .tuple vs.toArray ∧ repL g l cs vs
  | l, .ifc t d, x => ∃ v, x = .iface t v ∧ rep g l d v
  | l, .fn f a b, x => ∃ u v : List Value, x = .func (.func f) u.toArray v.toArray ∧ repL g l a u ∧ repL g l b v
  | l, .mp id, x => ∃ b, l.ι id = some b ∧ x = .map (some b)
def repL (g : Gh) : Lo → List D → List Value → Prop
  | _, [], vs => vs = []
  | l, d :: ds, vs => ∃ v r, vs = v :: r ∧ rep g l d v ∧ repL g l ds r
def repS (g : Gh) : List D → Nat → Nat → Prop
  | [], _, _ => True
  | d :: ds, b, o => (∃ v, g.σ b o = some v ∧ v.oneCell' = true ∧ rep g Lo.none d v) ∧ repS g ds b (o + 1)
end

mutual
theorem rep_mono {g g' : Gh} (hg : g.le g') : ∀ (d : D) {l l' : Lo} (_ : l.le l') {x : Value}, rep g l d x → rep g' l' d x
  | .sc _, _, _, _, _, h => by simpa [rep] using h
  | .box _ _, _, _, hl, _, h => by simp only [rep] at h ⊢; obtain ⟨b, h1, h2⟩ := h; exact ⟨b, hl.ι _ _ h1, h2⟩
  | .hp _ _, _, _, _, _, h => by simp only [rep] at h ⊢; obtain ⟨b, h1, h2⟩ := h; exact ⟨b, hg.κ _ _ h1, h2⟩
  | .pin cs _, _, _, _, _, h => by simp only [rep] at h ⊢; obtain ⟨b, o, h1, h2⟩ := h; exact ⟨b, o, h1, repS_mono hg cs h2⟩
  | .im cs _, _, _, _, _, h => by
    simp only [rep] at h ⊢
    rcases h with h | ⟨b, o, c, h1, hc, h2⟩
    · exact .inl h
    · exact .inr ⟨b, o, c, h1, hc, repS_mono hg cs h2⟩
  | .lit cs _, _, _, _, _, h => by simp only [rep] at h ⊢; obtain ⟨b, h1, h2⟩ := h; exact ⟨b, h1, repS_mono hg cs h2⟩
  | .gs _ _ cs _, _, _, hl, _, h => by
    simp only [rep] at h ⊢
    rcases h with h | ⟨r, h1, hn, he, h2, hc, h3⟩
    · exact .inl h
    · exact .inr ⟨r, hl.τ _ _ h1, hn, he, h2, hc, repS_mono hg cs h3⟩
  | .ms _ _ _, _, _, hl, _, h => by simp only [rep] at h ⊢; obtain ⟨b, c, h1, h2, h3⟩ := h; exact ⟨b, c, hl.ι _ _ h1, h2, h3⟩
  | .hs _ _ _ _, _, _, _, _, h => by simp only [rep] at h ⊢; obtain ⟨b, h1, h2⟩ := h; exact ⟨b, hg.κ _ _ h1, h2⟩
  | .agg cs, _, _, hl, _, h => by simp only [rep] at h ⊢; obtain ⟨vs, h1, h2⟩ := h; exact ⟨vs, h1, repL_mono hg cs hl h2⟩
  | .tup cs, _, _, hl, _, h => by simp only [rep] at h ⊢; obtain ⟨vs, h1, h2⟩ := h; exact ⟨vs, h1, repL_mono hg cs hl h2⟩
  | .ifc _ d, _, _, hl, _, h => by simp only [rep] at h ⊢; obtain ⟨v, h1, h2⟩ := h; exact ⟨v, h1, rep_mono hg d hl h2⟩
  | .fn _ a b, _, _, hl, _, h => by simp only [rep] at h ⊢; obtain ⟨u, v, h1, h2, h3⟩ := h; exact ⟨u, v, h1, repL_mono hg a hl h2, repL_mono hg b hl h3⟩
  | .mp _, _, _, hl, _, h => by simp only [rep] at h ⊢; obtain ⟨b, h1, h2⟩ := h; exact ⟨b, hl.ι _ _ h1, h2⟩
theorem repL_mono {g g' : Gh} (hg : g.le g') : ∀ (ds : List D) {l l' : Lo} (_ : l.le l') {xs : List Value}, repL g l ds xs → repL g' l' ds xs
  | [], _, _, _, _, h => by simpa [repL] using h
  | d :: ds, _, _, hl, _, h => by simp only [repL] at h ⊢; obtain ⟨v, r, h1, h2, h3⟩ := h; exact ⟨v, r, h1, rep_mono hg d hl h2, repL_mono hg ds hl h3⟩
theorem repS_mono {g g' : Gh} (hg : g.le g') : ∀ (ds : List D) {b o : Nat}, repS g ds b o → repS g' ds b o
  | [], _, _, _ => by simp [repS]
  | d :: ds, _, _, h => by simp only [repS] at h ⊢; obtain ⟨⟨v, h1, ho, h2⟩, h3⟩ := h; exact ⟨⟨v, hg.σ _ _ _ h1, ho, rep_mono hg d (Lo.le.refl _) h2⟩, repS_mono hg ds h3⟩
end

/-! Freezing: what a value is to a callee, a caller, or a row. -/
mutual
def fz : D → D
  | .sc (.slice none 0 0) => .im [] 0
  | .gs _ _ cs len => .im cs len
  | .lit cs len => .im cs len
  | .agg cs => .agg (fzL cs)
  | .tup cs => .tup (fzL cs)
  | .ifc t d => .ifc t (fz d)
  | .fn f a b => .fn f (fzL a) (fzL b)
  | d => d
def fzL : List D → List D
  | [] => []
  | d :: ds => fz d :: fzL ds
end

/-- No local is named. -/
def ext : D → Bool
  | .box .. | .ms .. | .mp .. | .gs .. => false
  | .agg cs => extL cs
  | .tup cs => extL cs
  | .ifc _ d => ext d
  | .fn _ a b => extL a && extL b
  | _ => true
where extL : List D → Bool
  | [] => true
  | d :: ds => ext d && extL ds

mutual
theorem rep_fz {g : Gh} : ∀ (d : D) {l : Lo} {x : Value}, rep g l d x → rep g l (fz d) x
  | .sc v, l, x, h => by
    unfold fz
    split
    · rename_i heq; cases heq; simp only [rep] at h ⊢; exact .inl ⟨trivial, trivial, h⟩
    all_goals first | (rename_i heq; cases heq; done) | exact h
  | .box _ _, _, _, h => by simpa [fz] using h
  | .hp _ _, _, _, h => by simpa [fz] using h
  | .pin _ _, _, _, h => by simpa [fz] using h
  | .im _ _, _, _, h => by simpa [fz] using h
  | .lit _ _, _, _, h => by simp only [fz, rep] at h ⊢; obtain ⟨b, h1, h2⟩ := h; exact .inr ⟨b, 0, _, h1, Nat.le_refl _, h2⟩
  | .ms _ _ _, _, _, h => by simpa [fz] using h
  | .hs _ _ _ _, _, _, h => by simpa [fz] using h
  | .mp _, _, _, h => by simpa [fz] using h
  | .gs _ _ cs _, _, _, h => by
    simp only [fz, rep] at h ⊢
    rcases h with h | ⟨r, _, _, _, h2, hc, h3⟩
    · exact .inl h
    · exact .inr ⟨r.b, 0, r.cap, h2, hc, h3⟩
  | .agg cs, _, _, h => by simp only [fz, rep] at h ⊢; obtain ⟨vs, h1, h2⟩ := h; exact ⟨vs, h1, repL_fz cs h2⟩
  | .tup cs, _, _, h => by simp only [fz, rep] at h ⊢; obtain ⟨vs, h1, h2⟩ := h; exact ⟨vs, h1, repL_fz cs h2⟩
  | .ifc _ d, _, _, h => by simp only [fz, rep] at h ⊢; obtain ⟨v, h1, h2⟩ := h; exact ⟨v, h1, rep_fz d h2⟩
  | .fn _ a b, _, _, h => by simp only [fz, rep] at h ⊢; obtain ⟨u, v, h1, h2, h3⟩ := h; exact ⟨u, v, h1, repL_fz a h2, repL_fz b h3⟩
theorem repL_fz {g : Gh} : ∀ (ds : List D) {l : Lo} {xs : List Value}, repL g l ds xs → repL g l (fzL ds) xs
  | [], _, _, h => by simpa [fzL, repL] using h
  | d :: ds, _, _, h => by simp only [fzL, repL] at h ⊢; obtain ⟨v, r, h1, h2, h3⟩ := h; exact ⟨v, r, h1, rep_fz d h2, repL_fz ds h3⟩
end

mutual
theorem rep_ext {g : Gh} : ∀ (d : D) {l : Lo} {x : Value}, ext d = true → rep g l d x → rep g Lo.none d x
  | .sc _, _, _, _, h => by simpa [rep] using h
  | .box _ _, _, _, e, _ => by simp [ext] at e
  | .hp _ _, _, _, _, h => by simpa [rep] using h
  | .pin _ _, _, _, _, h => by simpa [rep] using h
  | .im _ _, _, _, _, h => by simpa [rep] using h
  | .lit _ _, _, _, _, h => by simpa [rep] using h
  | .ms _ _ _, _, _, e, _ => by simp [ext] at e
  | .hs _ _ _ _, _, _, _, h => by simpa [rep] using h
  | .mp _, _, _, e, _ => by simp [ext] at e
  | .gs _ _ _ _, _, _, e, _ => by simp [ext] at e
  | .agg cs, _, _, e, h => by simp only [ext] at e; simp only [rep] at h ⊢; obtain ⟨vs, h1, h2⟩ := h; exact ⟨vs, h1, repL_ext cs e h2⟩
  | .tup cs, _, _, e, h => by simp only [ext] at e; simp only [rep] at h ⊢; obtain ⟨vs, h1, h2⟩ := h; exact ⟨vs, h1, repL_ext cs e h2⟩
  | .ifc _ d, _, _, e, h => by simp only [ext] at e; simp only [rep] at h ⊢; obtain ⟨v, h1, h2⟩ := h; exact ⟨v, h1, rep_ext d e h2⟩
  | .fn _ a b, _, _, e, h => by
    simp only [ext, Bool.and_eq_true] at e; simp only [rep] at h ⊢; obtain ⟨u, v, h1, h2, h3⟩ := h; exact ⟨u, v, h1, repL_ext a e.1 h2, repL_ext b e.2 h3⟩
theorem repL_ext {g : Gh} : ∀ (ds : List D) {l : Lo} {xs : List Value}, ext.extL ds = true → repL g l ds xs → repL g Lo.none ds xs
  | [], _, _, _, h => by simpa [repL] using h
  | d :: ds, _, _, e, h => by
    simp only [ext.extL, Bool.and_eq_true] at e; simp only [repL] at h ⊢; obtain ⟨v, r, h1, h2, h3⟩ := h; exact ⟨v, r, h1, rep_ext d e.1 h2, repL_ext ds e.2 h3⟩
end

/-! Lists of cells. -/
theorem repL_length {g : Gh} {l : Lo} : ∀ {ds : List D} {xs : List Value}, repL g l ds xs → xs.length = ds.length
  | [], _, h => by simp only [repL] at h; simp [h]
  | d :: ds, _, h => by simp only [repL] at h; obtain ⟨v, r, rfl, _, h3⟩ := h; simp [repL_length h3]

theorem repL_get {g : Gh} {l : Lo} : ∀ {ds : List D} {xs : List Value}, repL g l ds xs → ∀ (i : Nat) (d : D), ds[i]? = some d → ∃ v, xs[i]? = some v ∧ rep g l d v
  | [], _, _, i, d, e => by simp at e
  | d :: ds, _, h, 0, d', e => by simp only [repL] at h; obtain ⟨v, r, rfl, h2, _⟩ := h; simp at e; subst e; exact ⟨v, rfl, h2⟩
  | d :: ds, _, h, i + 1, d', e => by
    simp only [repL] at h; obtain ⟨v, r, rfl, _, h3⟩ := h
    simp only [List.getElem?_cons_succ] at e ⊢
    exact repL_get h3 i d' e

theorem repL_mk {g : Gh} {l : Lo} : ∀ {ds : List D} {xs : List Value}, xs.length = ds.length → (∀ (i : Nat) (d : D), ds[i]? = some d → ∃ v, xs[i]? = some v ∧ rep g l d v) → repL g l ds xs
  | [], [], _, _ => by simp [repL]
  | [], _ :: _, h, _ => by simp at h
  | _ :: _, [], h, _ => by simp at h
  | d :: ds, x :: xs, h, hh => by
    simp only [repL]
    refine ⟨x, xs, rfl, ?_, repL_mk (by simpa using h) fun i d' e => ?_⟩
    · obtain ⟨v, h1, h2⟩ := hh 0 d rfl
      simp at h1; subst h1; exact h2
    · obtain ⟨v, h1, h2⟩ := hh (i + 1) d' (by simpa using e)
      exact ⟨v, by simpa using h1, h2⟩

theorem repS_get {g : Gh} : ∀ {ds : List D} {b o : Nat}, repS g ds b o → ∀ (i : Nat) (d : D), ds[i]? = some d → ∃ v, g.σ b (o + i) = some v ∧ v.oneCell' = true ∧ rep g Lo.none d v
  | [], _, _, _, i, d, e => by simp at e
  | d :: ds, b, o, h, 0, d', e => by simp only [repS] at h; simp at e; subst e; exact h.1
  | d :: ds, b, o, h, i + 1, d', e => by
    simp only [repS] at h
    simp only [List.getElem?_cons_succ] at e
    obtain ⟨v, h1, ho, h2⟩ := repS_get h.2 i d' e
    exact ⟨v, by rw [← h1]; congr 1; omega, ho, h2⟩

theorem repS_mk {g : Gh} : ∀ {ds : List D} {b o : Nat}, (∀ (i : Nat) (d : D), ds[i]? = some d → ∃ v, g.σ b (o + i) = some v ∧ v.oneCell' = true ∧ rep g Lo.none d v) → repS g ds b o
  | [], _, _, _ => by simp [repS]
  | d :: ds, b, o, hh => by
    simp only [repS]
    refine ⟨by simpa using hh 0 d rfl, repS_mk fun i d' e => ?_⟩
    obtain ⟨v, h1, ho, h2⟩ := hh (i + 1) d' (by simpa using e)
    exact ⟨v, by rw [← h1]; congr 1; omega, ho, h2⟩

theorem repS_drop {g : Gh} {ds : List D} {b o : Nat} (h : repS g ds b o) (k : Nat) : repS g (ds.drop k) b (o + k) :=
  repS_mk fun i d e => by
    rw [List.getElem?_drop] at e
    obtain ⟨v, h1, ho, h2⟩ := repS_get h _ d e
    exact ⟨v, by rw [← h1]; congr 1; omega, ho, h2⟩

theorem repS_take {g : Gh} {ds : List D} {b o : Nat} (h : repS g ds b o) (k : Nat) : repS g (ds.take k) b o :=
  repS_mk fun i d e => by
    rw [List.getElem?_take] at e
    split at e
    · exact repS_get h _ d e
    · cases e

theorem repL_append {g : Gh} {l : Lo} : ∀ {as : List D} {xs : List Value} {bs ys}, repL g l as xs → repL g l bs ys → repL g l (as ++ bs) (xs ++ ys)
  | [], _, _, _, h, h' => by simp only [repL] at h; subst h; simpa using h'
  | a :: as, _, _, _, h, h' => by
    simp only [repL] at h; obtain ⟨v, r, rfl, h2, h3⟩ := h
    simp only [List.cons_append, repL]
    exact ⟨v, _, rfl, h2, repL_append h3 h'⟩

/-- One cell's value. -/
def oneD : D → Bool
  | .sc v => v.oneCell'
  | .agg _ | .tup _ => false
  | _ => true
def oneL (ds : List D) : Bool := ds.all oneD

theorem one_of {g : Gh} {l : Lo} {d : D} {v : Value} (h : rep g l d v) (ho : oneD d = true) : v.oneCell' = true := by
  cases d <;> simp only [rep] at h <;> simp only [oneD] at ho <;> first | (cases ho; done) | skip
  · subst h; exact ho
  · obtain ⟨_, _, rfl⟩ := h; rfl
  · obtain ⟨_, _, rfl⟩ := h; rfl
  · obtain ⟨_, _, rfl, _⟩ := h; rfl
  · rcases h with ⟨_, _, rfl⟩ | ⟨_, _, _, rfl, _⟩ <;> rfl
  · obtain ⟨_, rfl, _⟩ := h; rfl
  · rcases h with ⟨_, _, rfl⟩ | ⟨_, _, _, _, rfl, _⟩ <;> rfl
  · obtain ⟨_, _, _, rfl, _⟩ := h; rfl
  · obtain ⟨_, _, rfl⟩ := h; rfl
  · obtain ⟨_, rfl, _⟩ := h; rfl
  · obtain ⟨_, _, rfl, _⟩ := h; rfl
  · obtain ⟨_, _, rfl⟩ := h; rfl

/-! The abstract state. -/
inductive LO where
  | cells (cs : List D)
  | iter (s : ByteArray) (pos : Nat)
  | map (es : List (D × D))

structure AH where
  o : List LO
  live : Nat → Bool
  ln : Nat
  h : Nat → Option (List D)

abbrev Env := Nat → D
def upd (e : Env) (d : Nat) (v : D) : Env := fun t => bif Nat.beq t d then v else e t
def updO (e : Env) (d : Option Nat) (v : D) : Env := match d with | some d => upd e d v | none => e

def evalD (G : Nat → D) (e : Env) : Operand → D
  | .tmp t => e t
  | .const v => .sc v
  | .global g => G g
  | .func f => .fn f [] []

end Go.Abs
namespace Go.Abs
set_option linter.unusedVariables false
set_option linter.unusedSimpArgs false

/-- An object lies in a block. -/
def Holds (g : Gh) (l : Lo) (w : World) : LO → Nat → Prop
  | .cells cs, b => ∃ (vs sp : List Value) (e : TypeId) (f : Nat × Nat), w.heap[b]? = some (.cells (vs ++ sp).toArray e f) ∧ repL g l cs vs ∧ ∀ o, o < cs.length → ¬ (f.1 ≤ o ∧ o < f.2)
  | .iter s pos, b => w.heap[b]? = some (.stringIter s pos)
  | .map es, b => ∃ (ms : List MapEntry) (clock : Nat), w.heap[b]? = some (.map ms.toArray clock) ∧ repL g l (es.map (·.1)) (ms.map (·.key)) ∧ repL g l (es.map (·.2)) (ms.map (·.val))

structure Rel (P : Program) (G : Nat → D) (g : Gh) (l : Lo) (A : AH) (wr : Bool) (Prot : Nat → Prop) (w : World) : Prop where
  glob : ∀ i, rep g Lo.none (G i) (.pointer (some ⟨i, 0, none⟩))
  prot : ∀ b, Prot b → b < w.heap.size
  sld : ∀ b o v, g.σ b o = some v → w.cell? ⟨b, o, none⟩ = some v
  loc : ∀ id ob, A.o[id]? = some ob → ∃ b, l.ι id = some b ∧ ¬ Prot b ∧ b < w.heap.size ∧ Holds g l w ob b
  locN : ∀ id, A.o.length ≤ id → l.ι id = none
  locInj : ∀ i j b, l.ι i = some b → l.ι j = some b → i = j
  locFree : ∀ id b, l.ι id = some b → (∀ o, g.σ b o = none) ∧ (∀ k, g.κ k ≠ some b)
  tag : ∀ t r, A.live t = true → l.τ t = some r → ∃ cur, ¬ Prot r.b ∧ w.heap[r.b]? = some (.cells cur r.e (0, 0)) ∧ r.len ≤ r.cap ∧ r.cap ≤ maxLen ∧ cur.size = r.cap * P.cellsOf r.e ∧
    (∀ o, r.len * P.cellsOf r.e ≤ o → g.σ r.b o = none) ∧ (∀ id, l.ι id ≠ some r.b) ∧ (∀ k, g.κ k ≠ some r.b)
  tagN : ∀ t, A.ln ≤ t → l.τ t = none ∧ A.live t = false
  tagInj : ∀ t t' r r', A.live t = true → A.live t' = true → l.τ t = some r → l.τ t' = some r' → r.b = r'.b → t = t'
  sh : ∀ k cs, A.h k = some cs → ∃ b, ∃ (vs : List Value) (e : TypeId), g.κ k = some b ∧ (wr = true → ¬ Prot b) ∧ w.heap[b]? = some (.cells vs.toArray e (0, 0)) ∧ repL g Lo.none cs vs
  shN : ∃ n, ∀ k, n ≤ k → g.κ k = none
  shInj : ∀ i j b, g.κ i = some b → g.κ j = some b → i = j
  shLt : ∀ k b, g.κ k = some b → b < w.heap.size ∧ ∀ o, g.σ b o = none

/-- What must not change has not; nothing is taken away; more is known, but not of what must not change. -/
structure Fr (Prot : Nat → Prop) (g g' : Gh) (w w' : World) : Prop where
  le : g.le g'
  size : w.heap.size ≤ w'.heap.size
  heap : ∀ b, Prot b → w'.heap[b]? = w.heap[b]?
  sig : ∀ b o, Prot b → g'.σ b o = g.σ b o
  kap : ∀ k b, Prot b → g'.κ k = some b → g.κ k = some b
  os : w'.os = w.os ∧ w'.output = w.output

theorem Fr.refl (Prot : Nat → Prop) (g : Gh) (w : World) : Fr Prot g g w w := ⟨Gh.le.refl _, Nat.le_refl _, fun _ _ => rfl, fun _ _ _ => rfl, fun _ _ _ h => h, rfl, rfl⟩
theorem Fr.trans {Prot : Nat → Prop} {g g' g'' : Gh} {a b c : World} (h : Fr Prot g g' a b) (h' : Fr Prot g' g'' b c) : Fr Prot g g'' a c :=
  ⟨h.le.trans h'.le, Nat.le_trans h.size h'.size, fun x hx => (h'.heap x hx).trans (h.heap x hx), fun x o hx => (h'.sig x o hx).trans (h.sig x o hx), fun k x hx e => h.kap k x hx (h'.kap k x hx e), h'.os.1.trans h.os.1, h'.os.2.trans h.os.2⟩
theorem Fr.of_heap {Prot : Nat → Prop} {g : Gh} {w w' : World} (e : w'.heap = w.heap) (eo : w'.os = w.os ∧ w'.output = w.output) : Fr Prot g g w w' := ⟨Gh.le.refl _, by rw [e]; exact Nat.le_refl _, fun _ _ => by rw [e], fun _ _ _ => rfl, fun _ _ _ h => h, eo⟩

section
variable {P : Program} {G : Nat → D} {g : Gh} {l : Lo} {A : AH} {wr : Bool} {Prot : Nat → Prop} {w w' : World}

theorem Rel.ι_lt (h : Rel P G g l A wr Prot w) {id b : Nat} (e : l.ι id = some b) : b < w.heap.size ∧ ¬ Prot b := by
  rcases Nat.lt_or_ge id A.o.length with hlt | hge
  · obtain ⟨b', h1, h2, h3, _⟩ := h.loc id _ (List.getElem?_eq_getElem hlt)
    rw [e] at h1; cases h1; exact ⟨h3, h2⟩
  · rw [h.locN id hge] at e; cases e

theorem Rel.σ_lt (h : Rel P G g l A wr Prot w) {b o : Nat} {v : Value} (e : g.σ b o = some v) : b < w.heap.size :=
  World.block_lt_of_cell? w ⟨b, o, none⟩ (h.sld _ _ _ e)

theorem Rel.σ_new (h : Rel P G g l A wr Prot w) {b : Nat} (hb : w.heap.size ≤ b) (o : Nat) : g.σ b o = none := by
  cases e : g.σ b o with
  | none => rfl
  | some v => exact absurd (h.σ_lt e) (by omega)

theorem Rel.κ_lt (h : Rel P G g l A wr Prot w) {k b : Nat} (e : g.κ k = some b) : b < w.heap.size := (h.shLt k b e).1

theorem Holds.of_block {ob : LO} {b : Nat} (h : Holds g l w ob b) (e : w'.heap[b]? = w.heap[b]?) : Holds g l w' ob b := by
  cases ob <;> simp only [Holds] at h ⊢ <;> rw [e] <;> exact h

theorem Holds.mono {g' : Gh} {l' : Lo} (hg : g.le g') (hl : l.le l') {ob : LO} {b : Nat} (h : Holds g l w ob b) : Holds g' l' w ob b := by
  cases ob <;> simp only [Holds] at h ⊢
  · obtain ⟨vs, sp, e, f, h1, h2, h3⟩ := h; exact ⟨vs, sp, e, f, h1, repL_mono hg _ hl h2, h3⟩
  · exact h
  · obtain ⟨ms, c, h1, h2, h3⟩ := h; exact ⟨ms, c, h1, repL_mono hg _ hl h2, repL_mono hg _ hl h3⟩

theorem cell?_block {w w' : World} {b o : Nat} (e : w'.heap[b]? = w.heap[b]?) : w'.cell? ⟨b, o, none⟩ = w.cell? ⟨b, o, none⟩ := by
  simp [World.cell?, e]

/-- The heap alone counts. -/
theorem Rel.of_heap (h : Rel P G g l A wr Prot w) (e : w'.heap = w.heap) : Rel P G g l A wr Prot w' := by
  have eb : ∀ b : Nat, w'.heap[b]? = w.heap[b]? := fun b => by rw [e]
  exact ⟨h.glob, fun b hb => by rw [e]; exact h.prot b hb, fun b o v hv => (cell?_block (eb b)).trans (h.sld b o v hv),
    fun id ob ho => by obtain ⟨b, h1, h2, h3, h4⟩ := h.loc id ob ho; exact ⟨b, h1, h2, by rw [e]; exact h3, h4.of_block (eb b)⟩,
    h.locN, h.locInj, h.locFree, fun t r ht h1 => by obtain ⟨cur, h2, h3, h4⟩ := h.tag t r ht h1; exact ⟨cur, h2, (eb _).trans h3, h4⟩,
    h.tagN, h.tagInj, fun k cs hk => by obtain ⟨b, vs, t, h1, h2, h3, h4⟩ := h.sh k cs hk; exact ⟨b, vs, t, h1, h2, (eb _).trans h3, h4⟩,
    h.shN, h.shInj, fun k b hk => by rw [e]; exact h.shLt k b hk⟩

/-- What lies in blocks that stay stays. -/
theorem Rel.grow (h : Rel P G g l A wr Prot w) (hs : w.heap.size ≤ w'.heap.size) (eb : ∀ b, b < w.heap.size → w'.heap[b]? = w.heap[b]?) : Rel P G g l A wr Prot w' := by
  have lt : ∀ {b x}, w.heap[b]? = some x → b < w.heap.size := fun hx => (Array.getElem?_eq_some_iff.1 hx).1
  exact ⟨h.glob, fun b hb => Nat.lt_of_lt_of_le (h.prot b hb) hs, fun b o v hv => (cell?_block (eb b (h.σ_lt hv))).trans (h.sld b o v hv),
    fun id ob ho => by obtain ⟨b, h1, h2, h3, h4⟩ := h.loc id ob ho; exact ⟨b, h1, h2, Nat.lt_of_lt_of_le h3 hs, h4.of_block (eb b h3)⟩,
    h.locN, h.locInj, h.locFree, fun t r ht h1 => by obtain ⟨cur, h2, h3, h4⟩ := h.tag t r ht h1; exact ⟨cur, h2, (eb _ (lt h3)).trans h3, h4⟩,
    h.tagN, h.tagInj, fun k cs hk => by obtain ⟨b, vs, t, h1, h2, h3, h4⟩ := h.sh k cs hk; exact ⟨b, vs, t, h1, h2, (eb _ (lt h3)).trans h3, h4⟩,
    h.shN, h.shInj, fun k b hk => ⟨Nat.lt_of_lt_of_le (h.shLt k b hk).1 hs, (h.shLt k b hk).2⟩⟩

theorem heap_alloc_lt (w : World) (o : Obj) : ∀ b, b < w.heap.size → (w.alloc o).heap[b]? = w.heap[b]? := fun _ hb => heap_alloc_old w o hb
theorem heap_alloc_at (w : World) (o : Obj) : (w.alloc o).heap[w.heap.size]? = some o := heap_alloc_new w o

theorem Rel.alloc (h : Rel P G g l A wr Prot w) (o : Obj) : Rel P G g l A wr Prot (w.alloc o) := h.grow (by simp) (heap_alloc_lt w o)
theorem Fr.alloc (h : Rel P G g l A wr Prot w) (o : Obj) : Fr Prot g g w (w.alloc o) := ⟨Gh.le.refl _, by simp, fun b hb => heap_alloc_lt w o b (h.prot b hb), fun _ _ _ => rfl, fun _ _ _ h => h, rfl, rfl⟩

/-- The cells of a block that nobody owns are sealed. -/
def Gh.sealing (g : Gh) (b : Nat) (f : Nat → Option Value) : Gh := { g with σ := fun b' o => if b' = b then f o else g.σ b' o }

theorem Gh.le_sealing {b : Nat} {f : Nat → Option Value} (hn : ∀ o v, g.σ b o = some v → f o = some v) : g.le (g.sealing b f) := by
  refine ⟨fun b' o v hv => ?_, fun _ _ h => h⟩
  simp only [Gh.sealing]
  by_cases e : b' = b
  · subst e; simp only [if_pos]; exact hn o v hv
  · simp only [if_neg e]; exact hv

theorem Rel.sealing (h : Rel P G g l A wr Prot w) {b : Nat} {f : Nat → Option Value} (hn : ∀ o v, g.σ b o = some v → f o = some v)
    (hc : ∀ o v, f o = some v → w.cell? ⟨b, o, none⟩ = some v) (hι : ∀ id, l.ι id ≠ some b) (hκ : ∀ k, g.κ k ≠ some b)
    (hτ : ∀ t r, A.live t = true → l.τ t = some r → r.b = b → ∀ o, r.len * P.cellsOf r.e ≤ o → f o = none) : Rel P G (g.sealing b f) l A wr Prot w := by
  have hle : g.le (g.sealing b f) := Gh.le_sealing hn
  refine ⟨fun i => rep_mono hle _ (Lo.le.refl _) (h.glob i), h.prot, fun b' o v hv => ?_, fun id ob ho => ?_, h.locN, h.locInj, fun id b' hi => ⟨fun o => ?_, (h.locFree id b' hi).2⟩,
    fun t r ht h1 => ?_, h.tagN, h.tagInj, fun k cs hk => ?_, h.shN, h.shInj, fun k b' hk => ⟨h.κ_lt hk, fun o => ?_⟩⟩
  · simp only [Gh.sealing] at hv
    by_cases e : b' = b
    · subst e; simp only [if_pos] at hv; exact hc o v hv
    · simp only [if_neg e] at hv; exact h.sld _ _ _ hv
  · obtain ⟨b', h1, h2, h3, h4⟩ := h.loc id ob ho
    exact ⟨b', h1, h2, h3, h4.mono hle (Lo.le.refl _)⟩
  · simp only [Gh.sealing]
    rw [if_neg (fun e => hι id (by rw [← e]; exact hi))]
    exact (h.locFree id b' hi).1 o
  · obtain ⟨cur, h2, h3, h4, h5, h6, h7, h8, h9⟩ := h.tag t r ht h1
    refine ⟨cur, h2, h3, h4, h5, h6, fun o ho => ?_, h8, h9⟩
    simp only [Gh.sealing]
    by_cases e : r.b = b
    · rw [if_pos e]; exact hτ t r ht h1 e o ho
    · rw [if_neg e]; exact h7 o ho
  · obtain ⟨b', vs, t, h1, h2, h3, h4⟩ := h.sh k cs hk
    exact ⟨b', vs, t, h1, h2, h3, repL_mono hle _ (Lo.le.refl _) h4⟩
  · simp only [Gh.sealing]
    rw [if_neg (fun e => hκ k (by rw [← e]; exact hk))]
    exact (h.shLt k b' hk).2 o

/-- A new block whose cells are sealed at once. -/
theorem Rel.alloc_sealed (h : Rel P G g l A wr Prot w) (vs : List Value) (sp : List Value) (e : TypeId) (f : Nat × Nat) :
    Rel P G (g.sealing w.heap.size fun o => vs[o]?) l A wr Prot (w.alloc (.cells (vs ++ sp).toArray e f)) ∧ Fr Prot g (g.sealing w.heap.size fun o => vs[o]?) w (w.alloc (.cells (vs ++ sp).toArray e f)) := by
  have hno : ∀ o v, g.σ w.heap.size o = some v → vs[o]? = some v := fun o v hv => by rw [h.σ_new (Nat.le_refl _)] at hv; cases hv
  refine ⟨(h.alloc _).sealing hno (fun o v hv => ?_) (fun id e => ?_) (fun k e => ?_) (fun t r ht hr e o _ => ?_), ⟨Gh.le_sealing hno, by simp, fun b hb => heap_alloc_lt w _ b (h.prot b hb), fun b o hb => ?_, fun _ _ _ h => h, rfl, rfl⟩⟩
  · have : (vs ++ sp)[o]? = some v := by rw [List.getElem?_append_left (List.getElem?_eq_some_iff.1 hv).1]; exact hv
    have hb := heap_alloc_at w (.cells (vs ++ sp).toArray e f)
    simp only [World.cell?, hb]
    simpa using this
  · exact absurd (h.ι_lt e).1 (Nat.lt_irrefl _)
  · exact absurd (h.κ_lt e) (Nat.lt_irrefl _)
  · obtain ⟨cur, h2, h3, _⟩ := h.tag t r ht hr
    have := (Array.getElem?_eq_some_iff.1 h3).1
    omega
  · simp only [Gh.sealing]
    rw [if_neg (fun e => absurd (h.prot b hb) (by omega))]

theorem repS_sealed {gs : List D} {vs : List Value} {b : Nat} (h : repL (g.sealing b fun o => vs[o]?) Lo.none gs vs) (h1 : ∀ v ∈ vs, v.oneCell' = true) : repS (g.sealing b fun o => vs[o]?) gs b 0 :=
  repS_mk fun i d e => by
    obtain ⟨v, hv, h2⟩ := repL_get h i d e
    exact ⟨v, by simp [Gh.sealing, hv], h1 v (List.mem_of_getElem? hv), h2⟩

/-- A new local object. -/
def Lo.push (l : Lo) (id b : Nat) : Lo := { l with ι := fun i => if i = id then some b else l.ι i }

theorem Lo.le_push {id b : Nat} (h : l.ι id = Option.none) : l.le (l.push id b) :=
  ⟨fun i b' hi => by
    simp only [Lo.push]
    by_cases e : i = id
    · subst e; rw [h] at hi; cases hi
    · rw [if_neg e]; exact hi, fun _ _ h => h⟩

def AH.push (A : AH) (ob : LO) : AH := { A with o := A.o ++ [ob] }

theorem Rel.alloc_local (h : Rel P G g l A wr Prot w) (o : Obj) (ob : LO) (hh : Holds g (l.push A.o.length w.heap.size) (w.alloc o) ob w.heap.size) :
    Rel P G g (l.push A.o.length w.heap.size) (A.push ob) wr Prot (w.alloc o) ∧ l.le (l.push A.o.length w.heap.size) := by
  have hle : l.le (l.push A.o.length w.heap.size) := Lo.le_push (h.locN _ (Nat.le_refl _))
  have ha := h.alloc o
  have np : ¬ Prot w.heap.size := fun e => absurd (h.prot _ e) (Nat.lt_irrefl _)
  refine ⟨⟨h.glob, ha.prot, ha.sld, fun id ob' ho => ?_, fun id hid => ?_, fun i j b hi hj => ?_, fun id b hi => ?_, fun t r ht h1 => ?_, h.tagN, fun t t' r r' => h.tagInj t t' r r', ha.sh, h.shN, h.shInj, ha.shLt⟩, hle⟩
  · simp only [AH.push] at ho
    rcases Nat.lt_or_ge id A.o.length with hlt | hge
    · rw [List.getElem?_append_left hlt] at ho
      obtain ⟨b, h1, h2, h3, h4⟩ := ha.loc id ob' ho
      exact ⟨b, hle.ι _ _ h1, h2, h3, h4.mono (Gh.le.refl _) hle⟩
    · rw [List.getElem?_append_right hge] at ho
      have e0 : id - A.o.length = 0 := by
        rcases Nat.eq_zero_or_pos (id - A.o.length) with e | e
        · exact e
        · rw [List.getElem?_eq_none (by simp; omega)] at ho; cases ho
      have e1 : id = A.o.length := by omega
      subst e1
      simp at ho; subst ho
      exact ⟨w.heap.size, by simp [Lo.push], np, by simp, hh⟩
  · simp only [AH.push, List.length_append, List.length_cons, List.length_nil] at hid
    simp only [Lo.push]
    rw [if_neg (by omega)]
    exact h.locN id (by omega)
  · simp only [Lo.push] at hi hj
    by_cases ei : i = A.o.length <;> by_cases ej : j = A.o.length
    · omega
    · rw [if_pos ei] at hi; rw [if_neg ej] at hj; cases hi
      exact absurd (h.ι_lt hj).1 (Nat.lt_irrefl _)
    · rw [if_neg ei] at hi; rw [if_pos ej] at hj; cases hj
      exact absurd (h.ι_lt hi).1 (Nat.lt_irrefl _)
    · rw [if_neg ei] at hi; rw [if_neg ej] at hj; exact h.locInj i j b hi hj
  · simp only [Lo.push] at hi
    by_cases ei : id = A.o.length
    · rw [if_pos ei] at hi; cases hi
      exact ⟨fun o => h.σ_new (Nat.le_refl _) o, fun k hk => absurd (h.κ_lt hk) (Nat.lt_irrefl _)⟩
    · rw [if_neg ei] at hi; exact h.locFree id b hi
  · obtain ⟨cur, h2, h3, h4, h5, h6, h7, h8, h9⟩ := ha.tag t r ht h1
    refine ⟨cur, h2, h3, h4, h5, h6, h7, fun id hi => ?_, h9⟩
    simp only [Lo.push] at hi
    by_cases ei : id = A.o.length
    · rw [if_pos ei] at hi
      obtain ⟨cur', _, h3', _⟩ := h.tag t r ht h1
      have := (Array.getElem?_eq_some_iff.1 h3').1
      have := Option.some.inj hi; omega
    · rw [if_neg ei] at hi; exact h8 id hi

/-- A local object is written. -/
def AH.set (A : AH) (id : Nat) (ob : LO) : AH := { A with o := A.o.set id ob }

theorem Rel.set_local (h : Rel P G g l A wr Prot w) {id b : Nat} {ob : LO} (hid : id < A.o.length) (hι : l.ι id = some b) (hs : w'.heap.size = w.heap.size)
    (eb : ∀ b', b' ≠ b → w'.heap[b']? = w.heap[b']?) (hh : Holds g l w' ob b) : Rel P G g l (A.set id ob) wr Prot w' := by
  refine ⟨h.glob, fun b hb => by rw [hs]; exact h.prot b hb, fun b' o v hv => ?_, fun id' ob' ho => ?_, fun id' hid' => h.locN id' (by simpa [AH.set] using hid'), h.locInj, h.locFree, fun t r ht h1 => ?_, h.tagN, h.tagInj, fun k cs hk => ?_, h.shN, h.shInj,
    fun k b' hk => by rw [hs]; exact h.shLt k b' hk⟩
  · have hne : b' ≠ b := fun e => by rw [e, (h.locFree id b hι).1 o] at hv; cases hv
    exact (cell?_block (eb b' hne)).trans (h.sld _ _ _ hv)
  · simp only [AH.set, List.getElem?_set] at ho
    by_cases e : id = id'
    · subst e
      rw [if_pos rfl] at ho
      rw [if_pos hid] at ho
      cases ho
      exact ⟨b, hι, (h.ι_lt hι).2, by rw [hs]; exact (h.ι_lt hι).1, hh⟩
    · rw [if_neg e] at ho
      obtain ⟨b', h1, h2, h3, h4⟩ := h.loc id' ob' ho
      have hne : b' ≠ b := fun e' => e (h.locInj _ _ _ (e' ▸ hι) h1)
      exact ⟨b', h1, h2, by rw [hs]; exact h3, h4.of_block (eb b' hne)⟩
  · obtain ⟨cur, h2, h3, h4, h5, h6, h7, h8, h9⟩ := h.tag t r ht h1
    exact ⟨cur, h2, (eb _ fun e => h8 id (by rw [e]; exact hι)).trans h3, h4, h5, h6, h7, h8, h9⟩
  · obtain ⟨b', vs, t, h1, h2, h3, h4⟩ := h.sh k cs hk
    exact ⟨b', vs, t, h1, h2, (eb _ fun e => (h.locFree id b hι).2 k (by rw [← e]; exact h1)).trans h3, h4⟩

/-- A new shared object. -/
def Gh.share (g : Gh) (k b : Nat) : Gh := { g with κ := fun i => if i = k then some b else g.κ i }
def AH.hset (A : AH) (k : Nat) (cs : List D) : AH := { A with h := fun i => if i = k then some cs else A.h i }

theorem Gh.le_share {k b : Nat} (h : g.κ k = none) : g.le (g.share k b) :=
  ⟨fun _ _ _ h => h, fun i b' hi => by
    simp only [Gh.share]
    by_cases e : i = k
    · subst e; rw [h] at hi; cases hi
    · rw [if_neg e]; exact hi⟩

theorem Rel.alloc_shared (h : Rel P G g l A wr Prot w) {k : Nat} (hk0 : g.κ k = none) (vs : List Value) (e : TypeId) (cs : List D) (hr : repL (g.share k w.heap.size) Lo.none cs vs) :
    Rel P G (g.share k w.heap.size) l (A.hset k cs) wr Prot (w.alloc (.cells vs.toArray e)) ∧ Fr Prot g (g.share k w.heap.size) w (w.alloc (.cells vs.toArray e)) := by
  have hle : g.le (g.share k w.heap.size) := Gh.le_share hk0
  have ha := h.alloc (.cells vs.toArray e)
  have np : ¬ Prot w.heap.size := fun e => absurd (h.prot _ e) (Nat.lt_irrefl _)
  refine ⟨⟨fun i => rep_mono hle _ (Lo.le.refl _) (h.glob i), ha.prot, ha.sld, fun id ob ho => ?_, h.locN, h.locInj, fun id b hi => ⟨(h.locFree id b hi).1, fun k' hk => ?_⟩, fun t r ht h1 => ?_, h.tagN, h.tagInj, fun k' cs' hk => ?_, ?_, fun i j b hi hj => ?_, fun k' b hk => ?_⟩,
    ⟨hle, by simp, fun b hb => heap_alloc_lt w _ b (h.prot b hb), fun _ _ _ => rfl, fun k' b hb hk => ?_, rfl, rfl⟩⟩
  · obtain ⟨b, h1, h2, h3, h4⟩ := ha.loc id ob ho
    exact ⟨b, h1, h2, h3, h4.mono hle (Lo.le.refl _)⟩
  · simp only [Gh.share] at hk
    by_cases e : k' = k
    · rw [if_pos e] at hk; cases hk; exact absurd (h.ι_lt hi).1 (Nat.lt_irrefl _)
    · rw [if_neg e] at hk; exact (h.locFree id b hi).2 k' hk
  · obtain ⟨cur, h2, h3, h4, h5, h6, h7, h8, h9⟩ := ha.tag t r ht h1
    refine ⟨cur, h2, h3, h4, h5, h6, h7, h8, fun k' hk => ?_⟩
    simp only [Gh.share] at hk
    by_cases e : k' = k
    · rw [if_pos e] at hk
      obtain ⟨cur', _, h3', _⟩ := h.tag t r ht h1
      have := (Array.getElem?_eq_some_iff.1 h3').1
      have := Option.some.inj hk; omega
    · rw [if_neg e] at hk; exact h9 k' hk
  · simp only [AH.hset] at hk
    by_cases e' : k' = k
    · rw [if_pos e'] at hk; cases hk
      exact ⟨w.heap.size, vs, e, by simp [Gh.share, e'], fun _ => np, heap_alloc_at _ _, hr⟩
    · rw [if_neg e'] at hk
      obtain ⟨b, vs', t, h1, h2, h3, h4⟩ := ha.sh k' cs' hk
      exact ⟨b, vs', t, hle.κ _ _ h1, h2, h3, repL_mono hle _ (Lo.le.refl _) h4⟩
  · obtain ⟨n, hn⟩ := h.shN
    refine ⟨max n (k + 1), fun k' hk' => ?_⟩
    simp only [Gh.share]
    rw [if_neg (by omega)]
    exact hn k' (by omega)
  · simp only [Gh.share] at hi hj
    by_cases ei : i = k <;> by_cases ej : j = k
    · omega
    · rw [if_pos ei] at hi; rw [if_neg ej] at hj; cases hi
      exact absurd (h.κ_lt hj) (Nat.lt_irrefl _)
    · rw [if_neg ei] at hi; rw [if_pos ej] at hj; cases hj
      exact absurd (h.κ_lt hi) (Nat.lt_irrefl _)
    · rw [if_neg ei] at hi; rw [if_neg ej] at hj; exact h.shInj i j b hi hj
  · simp only [Gh.share] at hk
    by_cases e : k' = k
    · rw [if_pos e] at hk; cases hk
      exact ⟨by simp, fun o => h.σ_new (Nat.le_refl _) o⟩
    · rw [if_neg e] at hk
      exact ⟨Nat.lt_of_lt_of_le (h.shLt k' b hk).1 (by simp), (h.shLt k' b hk).2⟩
  · simp only [Gh.share] at hk
    by_cases e : k' = k
    · rw [if_pos e] at hk; cases hk; exact absurd hb np
    · rw [if_neg e] at hk; exact hk

/-- A shared object is written. -/
theorem Rel.set_shared (h : Rel P G g l A true Prot w) {k b : Nat} {cs₀ cs : List D} (hk : A.h k = some cs₀) (hκ : g.κ k = some b) (hs : w'.heap.size = w.heap.size)
    (eb : ∀ b', b' ≠ b → w'.heap[b']? = w.heap[b']?) {vs : List Value} {e : TypeId} (hb : w'.heap[b]? = some (.cells vs.toArray e (0, 0))) (hr : repL g Lo.none cs vs) :
    Rel P G g l (A.hset k cs) true Prot w' ∧ ¬ Prot b := by
  have hp : ¬ Prot b := by
    obtain ⟨b', _, _, h1, h2, _⟩ := h.sh k _ hk
    rw [hκ] at h1; cases h1; exact h2 rfl
  have hsig := (h.shLt k b hκ).2
  refine ⟨⟨h.glob, fun b hb => by rw [hs]; exact h.prot b hb, fun b' o v hv => ?_, fun id' ob' ho => ?_, h.locN, h.locInj, h.locFree, fun t r ht h1 => ?_, h.tagN, h.tagInj, fun k' cs' hk' => ?_, h.shN, h.shInj,
    fun k b' hk => by rw [hs]; exact h.shLt k b' hk⟩, hp⟩
  · have hne : b' ≠ b := fun e => by rw [e, hsig o] at hv; cases hv
    exact (cell?_block (eb b' hne)).trans (h.sld _ _ _ hv)
  · obtain ⟨b', h1, h2, h3, h4⟩ := h.loc id' ob' ho
    have hne : b' ≠ b := fun e' => (h.locFree id' b' h1).2 k (e' ▸ hκ)
    exact ⟨b', h1, h2, by rw [hs]; exact h3, h4.of_block (eb b' hne)⟩
  · obtain ⟨cur, h2, h3, h4, h5, h6, h7, h8, h9⟩ := h.tag t r ht h1
    exact ⟨cur, h2, (eb _ fun e => h9 k (by rw [e]; exact hκ)).trans h3, h4, h5, h6, h7, h8, h9⟩
  · simp only [AH.hset] at hk'
    by_cases e' : k' = k
    · rw [if_pos e'] at hk'; cases hk'
      exact ⟨b, vs, e, e' ▸ hκ, fun _ => hp, hb, hr⟩
    · rw [if_neg e'] at hk'
      obtain ⟨b', vs', t, h1, h2, h3, h4⟩ := h.sh k' cs' hk'
      exact ⟨b', vs', t, h1, h2, (eb _ fun e => e' (h.shInj _ _ _ (e ▸ h1) hκ)).trans h3, h4⟩

end
end Go.Abs
namespace Go.Abs
set_option linter.unusedVariables false
set_option linter.unusedSimpArgs false

structure Ag (g : Gh) (l : Lo) (N : Nat) (env : Env) (a : Act) : Prop where
  size : a.tmps.size = N
  defers : a.defers = []
  tmps : ∀ t, rep g l (env t) (a.tmps.getD t undef)

section
variable {P : Program} {G : Nat → D} {g g' : Gh} {l l' : Lo} {A A' : AH} {wr : Bool} {Prot : Nat → Prop} {w w' : World} {N : Nat} {env : Env} {a : Act}

theorem Ag.mono (h : Ag g l N env a) (hg : g.le g') (hl : l.le l') : Ag g' l' N env a := ⟨h.size, h.defers, fun t => rep_mono hg _ hl (h.tmps t)⟩

theorem rep_eval (h : ∀ t, rep g l (env t) (a.tmps.getD t undef)) (hg : ∀ i, rep g Lo.none (G i) (.pointer (some ⟨i, 0, none⟩))) (x : Operand) : rep g l (evalD G env x) (a.eval x) := by
  cases x with
  | tmp t => exact h t
  | const v => simp [evalD, Act.eval, rep]
  | global i => exact rep_mono (Gh.le.refl _) _ (Lo.le.none _) (hg i)
  | func f => simp only [evalD, Act.eval, rep]; exact ⟨[], [], rfl, by simp [repL], by simp [repL]⟩

theorem Ag.eval (h : Ag g l N env a) (hr : Rel P G g l A wr Prot w) (x : Operand) : rep g l (evalD G env x) (a.eval x) := rep_eval h.tmps hr.glob x

theorem getD_put (a : Act) (d t : Nat) (v : Value) (hd : d < a.tmps.size) : (a.put (some d) v).tmps.getD t undef = if t = d then v else a.tmps.getD t undef := by
  simp only [Act.put, Array.getD_eq_getD_getElem?, Array.getElem?_setIfInBounds]
  by_cases e : d = t
  · subst e; simp [hd]
  · simp [e, Ne.symm e]

theorem upd_at (e : Env) (d : Nat) (v : D) (t : Nat) : upd e d v t = if t = d then v else e t := by
  simp only [upd]
  by_cases h : t = d
  · subst h; simp
  · have : Nat.beq t d = false := by
      cases hb : Nat.beq t d with
      | false => rfl
      | true => exact absurd (Nat.eq_of_beq_eq_true hb) h
    simp [this, h]

theorem Ag.put (h : Ag g l N env a) {d : Option Nat} (hd : ∀ x, d = some x → x < N) {v : D} {cv : Value} (hv : rep g l v cv) : Ag g l N (updO env d v) (a.put d cv) := by
  cases d with
  | none => exact h
  | some d =>
    have hlt : d < a.tmps.size := by rw [h.size]; exact hd d rfl
    refine ⟨by simp [Act.put, h.size], h.defers, fun t => ?_⟩
    simp only [updO]
    rw [getD_put a d t cv hlt, upd_at]
    split
    · exact hv
    · exact h.tmps t

/-- What operation o gives, of operands as told, in each of some states; the state stays. -/
def AQ (P : Program) (G : Nat → D) (wr : Bool) (o : Oper) (ρ : Operand → D) (S : AH → Prop) (v : D) : Prop :=
  ∀ (g : Gh) (l : Lo) (Prot : Nat → Prop) (w : World) (a : Act) (A : AH), S A → Rel P G g l A wr Prot w → (∀ x ∈ o.op.operands, rep g l (ρ x) (a.eval x)) →
    ∀ (K : Act → World → Prop) (Q : Exit → Act → World → Prop), (∀ g' w' cv, Fr Prot g g' w w' → Rel P G g' l A wr Prot w' → rep g' l v cv → K (a.put o.dst cv) w') → o.wp P a w K Q

/-- What operation o gives, and the state behind it. -/
def AS (P : Program) (G : Nat → D) (wr : Bool) (o : Oper) (ρ : Operand → D) (A : AH) (v : D) (A' : AH) : Prop :=
  ∀ (g : Gh) (l : Lo) (Prot : Nat → Prop) (w : World) (a : Act), Rel P G g l A wr Prot w → (∀ x ∈ o.op.operands, rep g l (ρ x) (a.eval x)) →
    ∀ (K : Act → World → Prop) (Q : Exit → Act → World → Prop), (∀ g' l' w' cv, Fr Prot g g' w w' → l.le l' → Rel P G g' l' A' wr Prot w' → rep g' l' v cv → K (a.put o.dst cv) w') → o.wp P a w K Q

/-- The same, told by what the rest wants. -/
def AOp (P : Program) (G : Nat → D) (wr : Bool) (o : Oper) (ρ : Operand → D) (A : AH) (Kv : D → AH → Prop) : Prop :=
  ∀ (g : Gh) (l : Lo) (Prot : Nat → Prop) (w : World) (a : Act), Rel P G g l A wr Prot w → (∀ x ∈ o.op.operands, rep g l (ρ x) (a.eval x)) →
    ∀ (K : Act → World → Prop) (Q : Exit → Act → World → Prop), (∀ v A' g' l' w' cv, Kv v A' → Fr Prot g g' w w' → l.le l' → Rel P G g' l' A' wr Prot w' → rep g' l' v cv → K (a.put o.dst cv) w') → o.wp P a w K Q

theorem AQ.as {o : Oper} {ρ : Operand → D} {S : AH → Prop} {v : D} (h : AQ P G wr o ρ S v) (hS : S A) : AS P G wr o ρ A v A :=
  fun g l Prot w a hr hx _ _ hk => h g l Prot w a A hS hr hx _ _ fun g' w' cv h1 h2 h3 => hk g' l w' cv h1 (Lo.le.refl _) h2 h3
theorem AS.op {o : Oper} {ρ : Operand → D} {v : D} (h : AS P G wr o ρ A v A') {Kv : D → AH → Prop} (hK : Kv v A') : AOp P G wr o ρ A Kv :=
  fun g l Prot w a hr hx _ _ hk => h g l Prot w a hr hx _ _ fun g' l' w' cv h1 h2 h3 h4 => hk v A' g' l' w' cv hK h1 h2 h3 h4
theorem AOp.mono {o : Oper} {ρ : Operand → D} {Kv Kv' : D → AH → Prop} (h : AOp P G wr o ρ A Kv) (hk : ∀ v A', Kv v A' → Kv' v A') : AOp P G wr o ρ A Kv' :=
  fun g l Prot w a hr hx _ _ k => h g l Prot w a hr hx _ _ fun v A' g' l' w' cv h0 => k v A' g' l' w' cv (hk v A' h0)

/-- Is an operation with a guard carried out? -/
def wantedD (ops : Array Oper) (env : Env) (o : Oper) : Option Bool :=
  match o.guard with
  | none => some true
  | some (j, b) =>
    match (ops[j]?).bind (·.dst) with
    | some t => match env t with
      | .sc (.bool c) => some (c == b)
      | .sc (.tuple _) => some false
      | _ => none
    | none => none

theorem wanted_of (ops : Array Oper) (o : Oper) {b : Bool} (h : wantedD ops env o = some b) (ht : ∀ t, o.looksAt ops |>.contains t → rep g l (env t) (a.tmps.getD t undef)) :
    Region.wanted o (yielded ops a.tmps) = b := by
  unfold wantedD at h
  unfold Region.wanted
  cases hg : o.guard with
  | none => simp only [hg] at h ⊢; exact Option.some.inj h
  | some x =>
    obtain ⟨j, want⟩ := x
    simp only [hg] at h ⊢
    cases hd : (ops[j]?).bind (·.dst) with
    | none => simp only [hd] at h; cases h
    | some t =>
      simp only [hd] at h
      cases he : env t with
      | sc v =>
        simp only [he] at h
        have hr := ht t (by simp [Oper.looksAt, hg, hd])
        rw [he] at hr
        simp only [rep] at hr
        rw [Array.getD_eq_getD_getElem?] at hr
        cases v <;> simp only at h <;> first | (cases h; done) | skip
        · rename_i c
          have hy : yielded ops a.tmps j = some c := by
            unfold yielded
            rw [hd]
            cases hx : a.tmps[t]? with
            | none => rw [hx] at hr; simp [undef] at hr
            | some y => rw [hx] at hr; simp at hr; subst hr; simp [hx]
          rw [hy]
          cases h
          cases c <;> cases want <;> rfl
        · have hy : yielded ops a.tmps j = none := by
            unfold yielded
            rw [hd]
            cases hx : a.tmps[t]? with
            | none => simp [hx]
            | some y => rw [hx] at hr; simp at hr; subst hr; simp [hx]
          rw [hy]
          cases h
          cases want <;> rfl
      | _ => simp only [he] at h; cases h

/-- Operations one behind the other. -/
def aops (P : Program) (G : Nat → D) (wr : Bool) (ops : Array Oper) : List Oper → Env → AH → (Env → AH → Prop) → Prop
  | [], env, A, K => K env A
  | o :: rest, env, A, K =>
    (wantedD ops env o = some true ∧ AOp P G wr o (evalD G env) A fun v A' => aops P G wr ops rest (updO env o.dst v) A' K) ∨
    (wantedD ops env o = some false ∧ aops P G wr ops rest (updO env o.dst (.sc undef)) A K)

/-- What holds of the machine where K holds of the state. -/
def Post (P : Program) (G : Nat → D) (wr : Bool) (N : Nat) (g : Gh) (l : Lo) (Prot : Nat → Prop) (w : World) (K : Env → AH → Prop) (a' : Act) (w' : World) : Prop :=
  ∃ env' A' g' l', K env' A' ∧ Fr Prot g g' w w' ∧ l.le l' ∧ Rel P G g' l' A' wr Prot w' ∧ Ag g' l' N env' a'

theorem Post.of_later {K : Env → AH → Prop} {a' : Act} {w'' : World} (hf : Fr Prot g g' w w') (hl : l.le l') (h : Post P G wr N g' l' Prot w' K a' w'') : Post P G wr N g l Prot w K a' w'' := by
  obtain ⟨env', A', g'', l'', h1, h2, h3, h4, h5⟩ := h
  exact ⟨env', A', g'', l'', h1, hf.trans h2, hl.trans h3, h4, h5⟩

theorem aops_sound (ops : Array Oper) (hN : ∀ o ∈ ops.toList, ∀ x, o.dst = some x → x < N) {K : Env → AH → Prop} {Q : Exit → Act → World → Prop} :
    ∀ (rest : List Oper) (k : Nat), rest = ops.toList.drop k → ∀ (env : Env) (A : AH) (g : Gh) (l : Lo) (w : World) (a : Act),
      aops P G wr ops rest env A K → Rel P G g l A wr Prot w → Ag g l N env a → (∀ a' w', Post P G wr N g l Prot w K a' w' → Q .normal a' w') →
      wpOps P ops Q (List.range' k rest.length) a w
  | [], k, _, env, A, g, l, w, a, h, hr, ha, hQ => by
    simp only [List.length_nil, List.range'_zero, wpOps]
    exact hQ a w ⟨env, A, g, l, h, Fr.refl _ _ _, Lo.le.refl _, hr, ha⟩
  | o :: rest, k, hk, env, A, g, l, w, a, h, hr, ha, hQ => by
    have hmem : o ∈ ops.toList := List.mem_of_mem_drop (i := k) (by rw [← hk]; exact List.mem_cons_self)
    have hget : ops[k]? = some o := by
      have : (ops.toList.drop k)[0]? = some o := by rw [← hk]; rfl
      rw [List.getElem?_drop] at this
      simpa using this
    have hk' : rest = ops.toList.drop (k + 1) := by
      have : (ops.toList.drop k).drop 1 = rest := by rw [← hk]; rfl
      rw [← this, List.drop_drop]
    simp only [List.length_cons, List.range'_succ]
    rw [wpOps_cons]
    unfold wpOp
    simp only [hget]
    simp only [aops] at h
    rcases h with ⟨hw, h⟩ | ⟨hw, h⟩
    · rw [if_pos (wanted_of ops o hw fun t _ => ha.tmps t)]
      refine .inl (h g l Prot w a hr (fun x _ => ha.eval hr x) _ _ ?_)
      intro v A' g' l' w' cv hK hf hl hr' hv
      refine aops_sound ops hN rest (k + 1) hk' _ _ g' l' w' _ hK hr' ((ha.mono hf.le hl).put (fun x hx => hN o hmem x hx) hv) ?_
      exact fun a' w'' hp => hQ a' w'' (hp.of_later hf hl)
    · rw [if_neg (by rw [wanted_of ops o hw fun t _ => ha.tmps t]; simp)]
      exact aops_sound ops hN rest (k + 1) hk' _ _ g l w _ h hr (ha.put (fun x hx => hN o hmem x hx) (by simp [rep])) hQ

end
end Go.Abs
namespace Go.Abs
set_option linter.unusedVariables false
set_option linter.unusedSimpArgs false

/-- More locals, else the same. -/
structure ExtA (A A' : AH) : Prop where
  o : ∀ (i : Nat) (ob : LO), A.o[i]? = some ob → A'.o[i]? = some ob
  live : A'.live = A.live
  ln : A'.ln = A.ln
  h : A'.h = A.h
theorem ExtA.refl (A : AH) : ExtA A A := ⟨fun _ _ h => h, rfl, rfl, rfl⟩
theorem ExtA.trans {A B C : AH} (h : ExtA A B) (h' : ExtA B C) : ExtA A C :=
  ⟨fun i ob e => h'.o i ob (h.o i ob e), h'.live.trans h.live, h'.ln.trans h.ln, h'.h.trans h.h⟩
theorem ExtA.push (A : AH) (ob : LO) : ExtA A (A.push ob) :=
  ⟨fun i x h => by simp only [AH.push]; rw [List.getElem?_append_left (List.getElem?_eq_some_iff.1 h).1]; exact h, rfl, rfl, rfl⟩

/-- A region, in the order of its text. Kinds: 0: asks nothing of the state; 1: reads it; 2: a new local; 3: another change. -/
def adraw (P : Program) (G : Nat → D) (wr : Bool) (ops : Array Oper) : List Nat → List Oper → Env → AH → (Env → AH → Prop) → Prop
  | k :: ks, o :: rest, env, A, K =>
    (wantedD ops env o = some true ∧ k = 0 ∧ ∃ v, AQ P G wr o (evalD G env) (fun _ => True) v ∧ adraw P G wr ops ks rest (updO env o.dst v) A K) ∨
    (wantedD ops env o = some true ∧ k = 1 ∧ ∃ v, AQ P G wr o (evalD G env) (ExtA A) v ∧ adraw P G wr ops ks rest (updO env o.dst v) A K) ∨
    (wantedD ops env o = some true ∧ k = 2 ∧ ∃ v A', AS P G wr o (evalD G env) A v A' ∧ ExtA A A' ∧ adraw P G wr ops ks rest (updO env o.dst v) A' K) ∨
    (wantedD ops env o = some true ∧ k = 3 ∧ ∃ v A', AS P G wr o (evalD G env) A v A' ∧ adraw P G wr ops ks rest (updO env o.dst v) A' K) ∨
    (wantedD ops env o = some false ∧ adraw P G wr ops ks rest (updO env o.dst (.sc undef)) A K) ∨
    (wantedD ops env o = some true ∧ k = 4 ∧ ks = [] ∧ rest = [] ∧ AOp P G wr o (evalD G env) A fun v A' => K (updO env o.dst v) A')
  | [], [], env, A, K => K env A
  | _, _, _, _, _ => False

def drawOK (ops : Array Oper) (an : List Nat) (ks : List Nat) : Bool :=
  ks.length == ops.size &&
  (List.range ops.size).all fun i =>
    match ops.toList[i]? with
    | none => false
    | some o =>
      (o.after.toList.all fun e => !Region.binds .any e || decide (e.on < i)) &&
      ((List.range ops.size).all fun j => !(an.getD i 0).testBit j || o.after.toList.any fun e => Region.binds .any e && (e.on == j || (an.getD e.on 0).testBit j)) &&
      ((List.range ops.size).all fun j => j == i ||
        match ops.toList[j]? with
        | none => false
        | some p =>
          (match p.dst with
           | none => true
           | some t => o.dst != some t && (!(o.looksAt ops).contains t || (if j < i then (an.getD i 0).testBit j else (an.getD j 0).testBit i))) &&
          (decide (ks.getD j 0 < 2) || (if j < i then (an.getD i 0).testBit j else ((an.getD j 0).testBit i || (ks.getD j 0 == 2 && decide (ks.getD i 0 < 2)) || (ks.getD j 0 == 3 && ks.getD i 0 == 0)))))

structure DrawFacts (ops : Array Oper) (an : List Nat) (ks : List Nat) : Prop where
  len : ks.length = ops.size
  back : ∀ (i : Nat) o e, ops[i]? = some o → e ∈ o.after → Region.binds .any e = true → e.on < i
  anc : ∀ (i : Nat) o j, ops[i]? = some o → j < ops.size → (an.getD i 0).testBit j = true → ∃ e ∈ o.after, Region.binds .any e = true ∧ (e.on = j ∨ (an.getD e.on 0).testBit j = true)
  uniq : ∀ (i j : Nat) o p t, ops[i]? = some o → ops[j]? = some p → j ≠ i → p.dst = some t → o.dst ≠ some t
  look : ∀ (i j : Nat) o p t, ops[i]? = some o → ops[j]? = some p → j ≠ i → p.dst = some t → t ∈ o.looksAt ops → (j < i ∧ (an.getD i 0).testBit j = true) ∨ (i < j ∧ (an.getD j 0).testBit i = true)
  st : ∀ i j : Nat, i < ops.size → j < ops.size → j ≠ i → 2 ≤ ks.getD j 0 → (j < i ∧ (an.getD i 0).testBit j = true) ∨
    (i < j ∧ ((an.getD j 0).testBit i = true ∨ (ks.getD j 0 = 2 ∧ ks.getD i 0 < 2) ∨ (ks.getD j 0 = 3 ∧ ks.getD i 0 = 0)))

theorem drawOK.facts {ops : Array Oper} {an ks : List Nat} (h : drawOK ops an ks = true) : DrawFacts ops an ks := by
  unfold drawOK at h
  simp only [Bool.and_eq_true, beq_iff_eq, List.all_eq_true, List.mem_range] at h
  obtain ⟨h0, h⟩ := h
  have lt : ∀ {i : Nat} {o : Oper}, ops[i]? = some o → i < ops.size := fun e => (Array.getElem?_eq_some_iff.1 e).1
  have at_ : ∀ {i : Nat} {o : Oper}, ops[i]? = some o → ops.toList[i]? = some o := fun e => by rw [Array.getElem?_toList]; exact e
  have main : ∀ {i : Nat} {o : Oper} (hi : ops[i]? = some o), _ := fun {i o} hi => by
    have := h i (lt hi)
    rw [at_ hi] at this
    simp only [Bool.and_eq_true, List.all_eq_true, List.mem_range] at this
    exact this
  refine ⟨h0, fun i o e hi he hb => ?_, fun i o j hi hj ht => ?_, fun i j o p t hi hj hne hd => ?_, fun i j o p t hi hj hne hd hl => ?_, fun i j hi hj hne hk => ?_⟩
  · have := (main hi).1.1 e (by simpa using he)
    simpa [hb] using this
  · have := (main hi).1.2 j hj
    simp only [ht, Bool.not_true, Bool.false_or, List.any_eq_true, Bool.and_eq_true, Bool.or_eq_true, beq_iff_eq] at this
    obtain ⟨e, h1, h2, h3⟩ := this
    exact ⟨e, by simpa using h1, h2, h3⟩
  · have := (main hi).2 j (lt hj)
    rw [at_ hj] at this
    simp only [hd, Bool.or_eq_true, beq_iff_eq, Bool.and_eq_true, bne_iff_ne] at this
    rcases this with e | ⟨⟨h1, _⟩, _⟩
    · exact absurd e hne
    · exact h1
  · have := (main hi).2 j (lt hj)
    rw [at_ hj] at this
    simp only [hd, Bool.or_eq_true, beq_iff_eq, Bool.and_eq_true] at this
    rcases this with e | ⟨⟨_, h1⟩, _⟩
    · exact absurd e hne
    · have hc : (o.looksAt ops).contains t = true := by simpa using hl
      rw [hc] at h1
      simp only [Bool.not_true, Bool.false_eq_true, false_or] at h1
      by_cases hlt : j < i
      · rw [if_pos hlt] at h1; exact .inl ⟨hlt, h1⟩
      · rw [if_neg hlt] at h1; exact .inr ⟨by omega, h1⟩
  · obtain ⟨o, ho⟩ : ∃ o, ops[i]? = some o := ⟨ops[i], by simp [hi]⟩
    obtain ⟨p, hp⟩ : ∃ p, ops[j]? = some p := ⟨ops[j], by simp [hj]⟩
    have := (main ho).2 j hj
    rw [at_ hp] at this
    simp only [Bool.or_eq_true, beq_iff_eq, Bool.and_eq_true] at this
    rcases this with e | ⟨_, h1⟩
    · exact absurd e hne
    · rcases h1 with h1 | h1
      · have := of_decide_eq_true h1; omega
      · by_cases hlt : j < i
        · rw [if_pos hlt] at h1; exact .inl ⟨hlt, h1⟩
        · rw [if_neg hlt] at h1
          simp only [Bool.or_eq_true, Bool.and_eq_true, beq_iff_eq, decide_eq_true_eq] at h1
          refine .inr ⟨by omega, ?_⟩
          rcases h1 with (h1 | h1) | h1
          · exact .inl h1
          · exact .inr (.inl h1)
          · exact .inr (.inr h1)

section
variable {P : Program} {G : Nat → D} {wr : Bool} {N : Nat}

/-- One step of the text's run. -/
def StepAt (P : Program) (G : Nat → D) (wr : Bool) (ops : Array Oper) (k : Nat) (o : Oper) (E E' : Env) (S S' : AH) (v : D) : Prop :=
  E' = updO E o.dst v ∧
  ((wantedD ops E o = some true ∧ k = 0 ∧ AQ P G wr o (evalD G E) (fun _ => True) v ∧ S' = S) ∨
   (wantedD ops E o = some true ∧ k = 1 ∧ AQ P G wr o (evalD G E) (ExtA S) v ∧ S' = S) ∨
   (wantedD ops E o = some true ∧ k = 2 ∧ AS P G wr o (evalD G E) S v S' ∧ ExtA S S') ∨
   (wantedD ops E o = some true ∧ k = 3 ∧ AS P G wr o (evalD G E) S v S') ∨
   (wantedD ops E o = some false ∧ v = .sc undef ∧ S' = S))

theorem adraw_run (ops : Array Oper) {K : Env → AH → Prop} : ∀ (ks : List Nat) (rest : List Oper) (env : Env) (A : AH), adraw P G wr ops ks rest env A K →
    (∃ (E : Nat → Env) (S : Nat → AH) (v : Nat → D), E 0 = env ∧ S 0 = A ∧ (∀ i o k, rest[i]? = some o → ks[i]? = some k → StepAt P G wr ops k o (E i) (E (i + 1)) (S i) (S (i + 1)) (v i)) ∧
      K (E rest.length) (S rest.length)) ∨
    (∃ (E : Nat → Env) (S : Nat → AH) (v : Nat → D) (n : Nat) (last : Oper), E 0 = env ∧ S 0 = A ∧ rest.length = n + 1 ∧ rest[n]? = some last ∧ ks[n]? = some 4 ∧ wantedD ops (E n) last = some true ∧
      (AOp P G wr last (evalD G (E n)) (S n) fun v' A' => K (updO (E n) last.dst v') A') ∧ ∀ i o k, i < n → rest[i]? = some o → ks[i]? = some k → StepAt P G wr ops k o (E i) (E (i + 1)) (S i) (S (i + 1)) (v i))
  | [], [], env, A, h => .inl ⟨fun _ => env, fun _ => A, fun _ => .sc undef, rfl, rfl, fun i o k h1 _ => by simp at h1, h⟩
  | k :: ks, o :: rest, env, A, h => by
    have next : ∀ (v : D) (A' : AH), adraw P G wr ops ks rest (updO env o.dst v) A' K → StepAt P G wr ops k o env (updO env o.dst v) A A' v →
        (∃ (E : Nat → Env) (S : Nat → AH) (v : Nat → D), E 0 = env ∧ S 0 = A ∧ (∀ i o' k', (o :: rest)[i]? = some o' → (k :: ks)[i]? = some k' → StepAt P G wr ops k' o' (E i) (E (i + 1)) (S i) (S (i + 1)) (v i)) ∧
          K (E (o :: rest).length) (S (o :: rest).length)) ∨
        (∃ (E : Nat → Env) (S : Nat → AH) (v : Nat → D) (n : Nat) (last : Oper), E 0 = env ∧ S 0 = A ∧ (o :: rest).length = n + 1 ∧ (o :: rest)[n]? = some last ∧ (k :: ks)[n]? = some 4 ∧ wantedD ops (E n) last = some true ∧
          (AOp P G wr last (evalD G (E n)) (S n) fun v' A' => K (updO (E n) last.dst v') A') ∧ ∀ i o' k', i < n → (o :: rest)[i]? = some o' → (k :: ks)[i]? = some k' → StepAt P G wr ops k' o' (E i) (E (i + 1)) (S i) (S (i + 1)) (v i)) := fun v A' ha hs => by
      rcases adraw_run ops ks rest _ _ ha with ⟨E, S, u, h1, h2, h3, h4⟩ | ⟨E, S, u, n, last, h1, h2, h3, h4, h5, h6, h7, h8⟩
      · refine .inl ⟨fun | 0 => env | i + 1 => E i, fun | 0 => A | i + 1 => S i, fun | 0 => v | i + 1 => u i, rfl, rfl, fun i o' k' ho hk => ?_, h4⟩
        cases i with
        | zero =>
          simp at ho hk; subst ho; subst hk
          simp only [h1, h2]
          exact hs
        | succ i =>
          simp only [List.getElem?_cons_succ] at ho hk
          exact h3 i o' k' ho hk
      · refine .inr ⟨fun | 0 => env | i + 1 => E i, fun | 0 => A | i + 1 => S i, fun | 0 => v | i + 1 => u i, n + 1, last, rfl, rfl, by simp [h3], by simpa using h4, by simpa using h5, h6, h7, fun i o' k' hi ho hk => ?_⟩
        cases i with
        | zero =>
          simp at ho hk; subst ho; subst hk
          simp only [h1, h2]
          exact hs
        | succ i =>
          simp only [List.getElem?_cons_succ] at ho hk
          exact h8 i o' k' (by omega) ho hk
    simp only [adraw] at h
    rcases h with ⟨hw, hk, v, hq, ha⟩ | ⟨hw, hk, v, hq, ha⟩ | ⟨hw, hk, v, A', hq, he, ha⟩ | ⟨hw, hk, v, A', hq, ha⟩ | ⟨hw, ha⟩ | ⟨hw, hk, e1, e2, hq⟩
    · exact next v A ha ⟨rfl, .inl ⟨hw, hk, hq, rfl⟩⟩
    · exact next v A ha ⟨rfl, .inr (.inl ⟨hw, hk, hq, rfl⟩)⟩
    · exact next v A' ha ⟨rfl, .inr (.inr (.inl ⟨hw, hk, hq, he⟩))⟩
    · exact next v A' ha ⟨rfl, .inr (.inr (.inr (.inl ⟨hw, hk, hq⟩)))⟩
    · exact next _ A ha ⟨rfl, .inr (.inr (.inr (.inr ⟨hw, rfl, rfl⟩)))⟩
    · subst e1; subst e2; subst hk
      exact .inr ⟨fun _ => env, fun _ => A, fun _ => .sc undef, 0, o, rfl, rfl, rfl, rfl, rfl, hw, hq, fun i _ _ hi => absurd hi (Nat.not_lt_zero _)⟩
  | [], _ :: _, _, _, h => by simp [adraw] at h
  | _ :: _, [], _, _, h => by simp [adraw] at h

end

/-! The invariant of a drawn run. -/
section
variable {P : Program} {G : Nat → D} {wr : Bool} {N : Nat} {ops : Array Oper} {an ks : List Nat}
variable (E : Nat → Env) (S : Nat → AH) (v : Nat → D)

def Down (ops : Array Oper) (L : Nat → Prop) : Prop := ∀ i o e, ops[i]? = some o → L i → e ∈ o.after → Region.binds .any e = true → L e.on

theorem Down.anc {L : Nat → Prop} (hf : DrawFacts ops an ks) (hL : Down ops L) : ∀ (i : Nat) o j, ops[i]? = some o → L i → j < ops.size → (an.getD i 0).testBit j = true → L j := by
  intro i
  induction i using Nat.strongRecOn with
  | _ i ih =>
    intro o j ho hi hj hb
    obtain ⟨e, he, hbi, h⟩ := hf.anc i o j ho hj hb
    have hlt := hf.back i o e ho he hbi
    have hle := hL i o e ho hi he hbi
    rcases h with rfl | h
    · exact hle
    · have hes : e.on < ops.size := Nat.lt_trans hlt (Array.getElem?_eq_some_iff.1 ho).1
      exact ih e.on hlt ops[e.on] j (by simp [hes]) hle hj h

/-- The value of a slot when L has been carried out. -/
def EnvOf (ops : Array Oper) (E : Nat → Env) (v : Nat → D) (L : Nat → Prop) (e : Env) : Prop :=
  ∀ t, (∀ i o, ops[i]? = some o → L i → o.dst = some t → e t = v i) ∧ ((∀ i o, ops[i]? = some o → L i → o.dst ≠ some t) → e t = E 0 t)

def StateOf (ops : Array Oper) (ks : List Nat) (S : Nat → AH) (L : Nat → Prop) (A : AH) : Prop :=
  ∃ m, m ≤ ops.size ∧ A = S m ∧ (∀ s, s < m → 2 ≤ ks.getD s 0 → L s) ∧ (∀ s, m ≤ s → s < ops.size → 2 ≤ ks.getD s 0 → ¬ L s)

variable {E S v}

/-- The text's run: a slot behind i steps. -/
theorem run_slot (hf : DrawFacts ops an ks) (hs : ∀ i o k, ops[i]? = some o → ks[i]? = some k → StepAt P G wr ops k o (E i) (E (i + 1)) (S i) (S (i + 1)) (v i)) :
    ∀ i, i ≤ ops.size → EnvOf ops E v (fun j => j < i) (E i)
  | 0, _, t => ⟨fun _ _ _ h => absurd h (Nat.not_lt_zero _), fun _ => rfl⟩
  | i + 1, hi, t => by
    have ho : ops[i]? = some ops[i] := by simp
    have hk : ks[i]? = some (ks[i]'(by rw [hf.len]; omega)) := by simp
    have he := (hs i _ _ ho hk).1
    obtain ⟨h1, h2⟩ := run_slot hf hs i (by omega) t
    have hput : E (i + 1) t = if ops[i].dst = some t then v i else E i t := by
      rw [he]
      cases hd : ops[i].dst with
      | none => simp [updO]
      | some d =>
        simp only [updO, upd_at]
        by_cases e : t = d
        · simp [e]
        · rw [if_neg e, if_neg (by simpa using Ne.symm e)]
    refine ⟨fun j o hj hlt hd => ?_, fun hn => ?_⟩
    · rw [hput]
      by_cases e : j = i
      · subst e; rw [ho] at hj; cases hj; rw [if_pos hd]
      · rw [if_neg (hf.uniq i j _ o t ho hj e hd)]
        exact h1 j o hj (by omega) hd
    · rw [hput, if_neg (hn i _ ho (by omega))]
      exact h2 fun j o hj hlt => hn j o hj (by omega)

/-- What an operation that is ready looks at is as in the text's run. -/
theorem agree {L : Nat → Prop} (hf : DrawFacts ops an ks) (hs : ∀ i o k, ops[i]? = some o → ks[i]? = some k → StepAt P G wr ops k o (E i) (E (i + 1)) (S i) (S (i + 1)) (v i))
    (hL : Down ops L) {i : Nat} {o : Oper} (ho : ops[i]? = some o) (hi : ¬ L i) (hr : ∀ e ∈ o.after, Region.binds .any e = true → L e.on) {e : Env} (he : EnvOf ops E v L e) {t : Nat} (ht : t ∈ o.looksAt ops) : e t = E i t := by
  have hlt : i < ops.size := (Array.getElem?_eq_some_iff.1 ho).1
  obtain ⟨r1, r2⟩ := run_slot hf hs i (by omega) t
  have before : ∀ j p, ops[j]? = some p → j ≠ i → p.dst = some t → j < i → L j := fun j p hj hne hd hji => by
    rcases hf.look i j o p t ho hj hne hd ht with ⟨_, hb⟩ | ⟨hij, _⟩
    · obtain ⟨x, hx, hxb, h⟩ := hf.anc i o j ho (by omega) hb
      have hLx := hr x hx hxb
      rcases h with rfl | h
      · exact hLx
      · have hxs : x.on < ops.size := by have := hf.back i o x ho hx hxb; omega
        exact hL.anc hf x.on ops[x.on] j (by simp [hxs]) hLx (by omega) h
    · omega
  have behind : ∀ j p, ops[j]? = some p → j ≠ i → p.dst = some t → i < j → ¬ L j := fun j p hj hne hd hij hLj => by
    rcases hf.look i j o p t ho hj hne hd ht with ⟨hji, _⟩ | ⟨_, hb⟩
    · omega
    · exact hi (hL.anc hf j p i hj hLj hlt hb)
  by_cases hw : ∃ (j : Nat) (p : Oper), ops[j]? = some p ∧ p.dst = some t ∧ j < i
  · obtain ⟨j, p, hj, hd, hji⟩ := hw
    rw [(he t).1 j p hj (before j p hj (by omega) hd hji) hd, r1 j p hj hji hd]
  · have e1 : e t = E 0 t := (he t).2 fun j p hj hLj hd => by
      rcases Nat.lt_trichotomy j i with h | h | h
      · exact hw ⟨j, p, hj, hd, h⟩
      · exact hi (h ▸ hLj)
      · exact behind j p hj (by omega) hd h hLj
    rw [e1, r2 fun j p hj hji hd => hw ⟨j, p, hj, hd, hji⟩]

/-- The states between: only locals have come, where nothing else was done. -/
theorem states_ext (hf : DrawFacts ops an ks) (hs : ∀ i o k, ops[i]? = some o → ks[i]? = some k → StepAt P G wr ops k o (E i) (E (i + 1)) (S i) (S (i + 1)) (v i))
    {i : Nat} : ∀ m, i ≤ m → m ≤ ops.size → (∀ s, i ≤ s → s < m → 2 ≤ ks.getD s 0 → ks.getD s 0 = 2) → ExtA (S i) (S m) := by
  intro m him
  induction m with
  | zero => intro _ _; have : i = 0 := by omega
            subst this; exact ExtA.refl _
  | succ m ih =>
    intro hm hh
    by_cases e : i = m + 1
    · subst e; exact ExtA.refl _
    · refine (ih (by omega) (by omega) fun s h1 h2 h3 => hh s h1 (by omega) h3).trans ?_
      have hk : ks[m]? = some (ks[m]'(by rw [hf.len]; omega)) := by simp
      have hkd : ks.getD m 0 = ks[m]'(by rw [hf.len]; omega) := by rw [List.getD_eq_getElem?_getD, hk]; rfl
      rcases (hs m _ _ (show ops[m]? = some ops[m] by simp) hk).2 with ⟨_, _, _, h⟩ | ⟨_, _, _, h⟩ | ⟨_, _, _, h⟩ | ⟨_, h3, _⟩ | ⟨_, _, h⟩
      · rw [h]; exact ExtA.refl _
      · rw [h]; exact ExtA.refl _
      · exact h
      · have := hh m (by omega) (by omega) (by rw [hkd, h3]; omega)
        rw [hkd, h3] at this; omega
      · rw [h]; exact ExtA.refl _

theorem states_same (hf : DrawFacts ops an ks) (hs : ∀ i o k, ops[i]? = some o → ks[i]? = some k → StepAt P G wr ops k o (E i) (E (i + 1)) (S i) (S (i + 1)) (v i))
    {i : Nat} : ∀ m, i ≤ m → m ≤ ops.size → (∀ s, i ≤ s → s < m → ks.getD s 0 < 2) → S m = S i := by
  intro m him
  induction m with
  | zero => intro _ _; have : i = 0 := by omega
            subst this; rfl
  | succ m ih =>
    intro hm hh
    by_cases e : i = m + 1
    · subst e; rfl
    · have h0 := ih (by omega) (by omega) fun s h1 h2 => hh s h1 (by omega)
      have hk : ks[m]? = some (ks[m]'(by rw [hf.len]; omega)) := by simp
      have hkd : ks.getD m 0 = ks[m]'(by rw [hf.len]; omega) := by rw [List.getD_eq_getElem?_getD, hk]; rfl
      have hlt := hh m (by omega) (by omega)
      rw [hkd] at hlt
      rcases (hs m _ _ (show ops[m]? = some ops[m] by simp) hk).2 with ⟨_, _, _, h⟩ | ⟨_, _, _, h⟩ | ⟨_, h3, _⟩ | ⟨_, h3, _⟩ | ⟨_, _, h⟩
      · rw [h, h0]
      · rw [h, h0]
      · omega
      · omega
      · rw [h, h0]

/-- The text's run: a slot behind i steps. -/
theorem run_slotW (hf : DrawFacts ops an ks) (hE : ∀ i o, ops[i]? = some o → E (i + 1) = updO (E i) o.dst (v i)) (hS : ∀ i, i < ops.size → (ks.getD i 0 < 2 → S (i + 1) = S i) ∧ (ks.getD i 0 = 2 → ExtA (S i) (S (i + 1)))) :
    ∀ i, i ≤ ops.size → EnvOf ops E v (fun j => j < i) (E i)
  | 0, _, t => ⟨fun _ _ _ h => absurd h (Nat.not_lt_zero _), fun _ => rfl⟩
  | i + 1, hi, t => by
    have ho : ops[i]? = some ops[i] := by simp
    have he := hE i _ ho
    obtain ⟨h1, h2⟩ := run_slotW hf hE hS i (by omega) t
    have hput : E (i + 1) t = if ops[i].dst = some t then v i else E i t := by
      rw [he]
      cases hd : ops[i].dst with
      | none => simp [updO]
      | some d =>
        simp only [updO, upd_at]
        by_cases e : t = d
        · simp [e]
        · rw [if_neg e, if_neg (by simpa using Ne.symm e)]
    refine ⟨fun j o hj hlt hd => ?_, fun hn => ?_⟩
    · rw [hput]
      by_cases e : j = i
      · subst e; rw [ho] at hj; cases hj; rw [if_pos hd]
      · rw [if_neg (hf.uniq i j _ o t ho hj e hd)]
        exact h1 j o hj (by omega) hd
    · rw [hput, if_neg (hn i _ ho (by omega))]
      exact h2 fun j o hj hlt => hn j o hj (by omega)

/-- What an operation that is ready looks at is as in the text's run. -/
theorem agreeW {L : Nat → Prop} (hf : DrawFacts ops an ks) (hE : ∀ i o, ops[i]? = some o → E (i + 1) = updO (E i) o.dst (v i)) (hS : ∀ i, i < ops.size → (ks.getD i 0 < 2 → S (i + 1) = S i) ∧ (ks.getD i 0 = 2 → ExtA (S i) (S (i + 1))))
    (hL : Down ops L) {i : Nat} {o : Oper} (ho : ops[i]? = some o) (hi : ¬ L i) (hr : ∀ e ∈ o.after, Region.binds .any e = true → L e.on) {e : Env} (he : EnvOf ops E v L e) {t : Nat} (ht : t ∈ o.looksAt ops) : e t = E i t := by
  have hlt : i < ops.size := (Array.getElem?_eq_some_iff.1 ho).1
  obtain ⟨r1, r2⟩ := run_slotW hf hE hS i (by omega) t
  have before : ∀ j p, ops[j]? = some p → j ≠ i → p.dst = some t → j < i → L j := fun j p hj hne hd hji => by
    rcases hf.look i j o p t ho hj hne hd ht with ⟨_, hb⟩ | ⟨hij, _⟩
    · obtain ⟨x, hx, hxb, h⟩ := hf.anc i o j ho (by omega) hb
      have hLx := hr x hx hxb
      rcases h with rfl | h
      · exact hLx
      · have hxs : x.on < ops.size := by have := hf.back i o x ho hx hxb; omega
        exact hL.anc hf x.on ops[x.on] j (by simp [hxs]) hLx (by omega) h
    · omega
  have behind : ∀ j p, ops[j]? = some p → j ≠ i → p.dst = some t → i < j → ¬ L j := fun j p hj hne hd hij hLj => by
    rcases hf.look i j o p t ho hj hne hd ht with ⟨hji, _⟩ | ⟨_, hb⟩
    · omega
    · exact hi (hL.anc hf j p i hj hLj hlt hb)
  by_cases hw : ∃ (j : Nat) (p : Oper), ops[j]? = some p ∧ p.dst = some t ∧ j < i
  · obtain ⟨j, p, hj, hd, hji⟩ := hw
    rw [(he t).1 j p hj (before j p hj (by omega) hd hji) hd, r1 j p hj hji hd]
  · have e1 : e t = E 0 t := (he t).2 fun j p hj hLj hd => by
      rcases Nat.lt_trichotomy j i with h | h | h
      · exact hw ⟨j, p, hj, hd, h⟩
      · exact hi (h ▸ hLj)
      · exact behind j p hj (by omega) hd h hLj
    rw [e1, r2 fun j p hj hji hd => hw ⟨j, p, hj, hd, hji⟩]

/-- The states between: only locals have come, where nothing else was done. -/
theorem states_extW (hf : DrawFacts ops an ks) (hE : ∀ i o, ops[i]? = some o → E (i + 1) = updO (E i) o.dst (v i)) (hS : ∀ i, i < ops.size → (ks.getD i 0 < 2 → S (i + 1) = S i) ∧ (ks.getD i 0 = 2 → ExtA (S i) (S (i + 1))))
    {i : Nat} : ∀ m, i ≤ m → m ≤ ops.size → (∀ s, i ≤ s → s < m → 2 ≤ ks.getD s 0 → ks.getD s 0 = 2) → ExtA (S i) (S m) := by
  intro m him
  induction m with
  | zero => intro _ _; have : i = 0 := by omega
            subst this; exact ExtA.refl _
  | succ m ih =>
    intro hm hh
    by_cases e : i = m + 1
    · subst e; exact ExtA.refl _
    · refine (ih (by omega) (by omega) fun s h1 h2 h3 => hh s h1 (by omega) h3).trans ?_
      by_cases h2 : ks.getD m 0 < 2
      · rw [(hS m (by omega)).1 h2]; exact ExtA.refl _
      · exact (hS m (by omega)).2 (hh m (by omega) (by omega) (by omega))

theorem states_sameW (hf : DrawFacts ops an ks) (hE : ∀ i o, ops[i]? = some o → E (i + 1) = updO (E i) o.dst (v i)) (hS : ∀ i, i < ops.size → (ks.getD i 0 < 2 → S (i + 1) = S i) ∧ (ks.getD i 0 = 2 → ExtA (S i) (S (i + 1))))
    {i : Nat} : ∀ m, i ≤ m → m ≤ ops.size → (∀ s, i ≤ s → s < m → ks.getD s 0 < 2) → S m = S i := by
  intro m him
  induction m with
  | zero => intro _ _; have : i = 0 := by omega
            subst this; rfl
  | succ m ih =>
    intro hm hh
    by_cases e : i = m + 1
    · subst e; rfl
    · have h0 := ih (by omega) (by omega) fun s h1 h2 => hh s h1 (by omega)
      rw [(hS m (by omega)).1 (hh m (by omega) (by omega)), h0]

/-- How many are listed. -/
def cnt (n : Nat) (listed : Array Bool) : Nat := (List.range n).countP fun i => listed.getD i false

theorem cnt_set {n i : Nat} {listed : Array Bool} (hn : listed.size = n) (hi : i < n) (hf : listed.getD i false = false) : cnt n (listed.setIfInBounds i true) = cnt n listed + 1 := by
  unfold cnt
  have key : ∀ m, m ≤ n → (List.range m).countP (fun j => (listed.setIfInBounds i true).getD j false) = (List.range m).countP (fun j => listed.getD j false) + if i < m then 1 else 0 := by
    intro m
    induction m with
    | zero => intro _; simp
    | succ m ih =>
      intro hm
      rw [List.range_succ, List.countP_append, List.countP_append, ih (by omega)]
      simp only [List.countP_singleton]
      by_cases e : i = m
      · subst e
        simp [Array.getD_eq_getD_getElem?, hn, hi] at hf ⊢
        simp [hf]
      · have : (listed.setIfInBounds i true).getD m false = listed.getD m false := by
          simp [Array.getD_eq_getD_getElem?, e]
        rw [this]
        by_cases h1 : i < m
        · have h2 : i < m + 1 := by omega
          simp only [h1, h2, if_true]; omega
        · have h2 : ¬ i < m + 1 := by omega
          simp only [h1, h2, if_false]; omega
  rw [key n (Nat.le_refl _), if_pos hi]

theorem cnt_all {n : Nat} {listed : Array Bool} (h : cnt n listed = n) : ∀ i, i < n → listed.getD i false = true := by
  intro i hi
  unfold cnt at h
  have h' : (List.range n).countP (fun i => listed.getD i false) = (List.range n).length := by simpa using h
  exact (List.countP_eq_length.1 h') i (by simpa using hi)

theorem ready_mem {listed : Array Bool} {i : Nat} (hsz : listed.size = ops.size) (h : i ∈ Region.ready .any ops listed) :
    i < ops.size ∧ listed.getD i false = false ∧ ∀ o, ops[i]? = some o → ∀ e ∈ o.after, Region.binds .any e = true → listed.getD e.on false = true := by
  unfold Region.ready at h
  rw [List.mem_filter] at h
  obtain ⟨h1, h2⟩ := h
  have hi : i < ops.size := by simpa using h1
  rw [Bool.and_eq_true] at h2
  refine ⟨hi, ?_, fun o ho e he hb => ?_⟩
  · have := h2.1
    rw [Bool.not_eq_true'] at this
    rw [Array.getD_eq_getD_getElem?] at this ⊢
    rw [Array.getElem?_eq_getElem (by omega)] at this ⊢
    exact this
  · have := h2.2
    rw [ho] at this
    simp only [Option.map_some, Option.getD_some] at this
    rw [Array.all_eq_true_iff_forall_mem] at this
    have := this e he
    simpa [hb] using this

theorem ready_nil (hf : DrawFacts ops an ks) {listed : Array Bool} (hsz : listed.size = ops.size) (h : Region.ready .any ops listed = []) : ∀ i, i < ops.size → listed.getD i false = true := by
  intro i
  induction i using Nat.strongRecOn with
  | _ i ih =>
    intro hi
    cases hl : listed.getD i false with
    | true => rfl
    | false =>
      exfalso
      have : i ∈ Region.ready .any ops listed := by
        unfold Region.ready
        rw [List.mem_filter]
        refine ⟨by simpa using hi, ?_⟩
        rw [Bool.and_eq_true]
        refine ⟨?_, ?_⟩
        · rw [Bool.not_eq_true']
          rw [Array.getD_eq_getD_getElem?] at hl ⊢
          rw [Array.getElem?_eq_getElem (by omega)] at hl ⊢
          exact hl
        · have ho : ops[i]? = some ops[i] := by simp
          rw [ho]
          simp only [Option.map_some, Option.getD_some]
          rw [Array.all_eq_true_iff_forall_mem]
          intro e he
          cases hb : Region.binds .any e with
          | false => simp
          | true =>
            have hlt := hf.back i _ e ho he hb
            simp [ih e.on hlt (by omega)]
      rw [h] at this
      cases this

theorem draw_sound (hf : DrawFacts ops an ks) (hs : ∀ i o k, ops[i]? = some o → ks[i]? = some k → StepAt P G wr ops k o (E i) (E (i + 1)) (S i) (S (i + 1)) (v i))
    (hN : ∀ o ∈ ops.toList, ∀ x, o.dst = some x → x < N) {Prot : Nat → Prop} {Q : Exit → Act → World → Prop} :
    ∀ (fuel : Nat) (listed : Array Bool) (e : Env) (A : AH) (g : Gh) (l : Lo) (w : World) (a : Act), listed.size = ops.size → cnt ops.size listed + fuel = ops.size →
      Down ops (fun i => listed.getD i false = true) → EnvOf ops E v (fun i => listed.getD i false = true) e → StateOf ops ks S (fun i => listed.getD i false = true) A →
      Rel P G g l A wr Prot w → Ag g l N e a → (∀ a' w', Post P G wr N g l Prot w (fun e' A' => e' = E ops.size ∧ A' = S ops.size) a' w' → Q .normal a' w') →
      wpAny P .any ops Q fuel listed a w := by
  have fin : ∀ (listed : Array Bool) (e : Env) (A : AH) (g : Gh) (l : Lo) (w : World) (a : Act), listed.size = ops.size → (∀ i, i < ops.size → listed.getD i false = true) →
      EnvOf ops E v (fun i => listed.getD i false = true) e → StateOf ops ks S (fun i => listed.getD i false = true) A →
      Rel P G g l A wr Prot w → Ag g l N e a → Post P G wr N g l Prot w (fun e' A' => e' = E ops.size ∧ A' = S ops.size) a w := by
    intro listed e A g l w a _ hall he hA hr ha
    have hee : e = E ops.size := funext fun t => by
      obtain ⟨r1, r2⟩ := run_slot hf hs ops.size (Nat.le_refl _) t
      by_cases hw : ∃ (j : Nat) (p : Oper), ops[j]? = some p ∧ p.dst = some t
      · obtain ⟨j, p, hj, hd⟩ := hw
        have hlt := (Array.getElem?_eq_some_iff.1 hj).1
        rw [(he t).1 j p hj (hall j hlt) hd, r1 j p hj hlt hd]
      · rw [(he t).2 fun j p hj _ hd => hw ⟨j, p, hj, hd⟩, r2 fun j p hj _ hd => hw ⟨j, p, hj, hd⟩]
    obtain ⟨m, hm, rfl, h1, h2⟩ := hA
    have hSS : S ops.size = S m := states_same hf hs ops.size hm (Nat.le_refl _) fun s h3 h4 => by
      rcases Nat.lt_or_ge (ks.getD s 0) 2 with h | h
      · exact h
      · exact absurd (hall s h4) (h2 s h3 h4 h)
    exact ⟨e, S m, g, l, ⟨hee, hSS.symm⟩, Fr.refl _ _ _, Lo.le.refl _, hr, ha⟩
  intro fuel
  induction fuel with
  | zero =>
    intro listed e A g l w a hsz hc hd he hA hr ha hQ
    have hall := cnt_all (by simpa using hc)
    refine ⟨?_, hQ a w (fin listed e A g l w a hsz hall he hA hr ha)⟩
    rw [List.eq_nil_iff_forall_not_mem]
    intro i hi
    obtain ⟨h1, h2, _⟩ := ready_mem hsz hi
    rw [hall i h1] at h2; cases h2
  | succ fuel ih =>
    intro listed e A g l w a hsz hc hd he hA hr ha hQ
    refine ⟨fun h0 => hQ a w (fin listed e A g l w a hsz (ready_nil hf hsz h0) he hA hr ha), fun i hi => ?_⟩
    obtain ⟨hlt, hnot, hready⟩ := ready_mem hsz hi
    have ho : ops[i]? = some ops[i] := by simp
    have hkl : i < ks.length := by rw [hf.len]; exact hlt
    have hk : ks[i]? = some ks[i] := by simp
    have hkd : ks.getD i 0 = ks[i] := by rw [List.getD_eq_getElem?_getD, hk]; rfl
    have hag : ∀ t, t ∈ ops[i].looksAt ops → e t = E i t := fun t ht => agree hf hs hd ho (by rw [hnot]; simp) (hready _ ho) he ht
    have hset : ∀ j, (listed.setIfInBounds i true).getD j false = true ↔ (listed.getD j false = true ∨ j = i) := fun j => by
      by_cases ej : i = j
      · subst ej; simp [Array.getD_eq_getD_getElem?, hsz, hlt]
      · simp [Array.getD_eq_getD_getElem?, ej, Ne.symm ej]
    have hdown : Down ops (fun j => (listed.setIfInBounds i true).getD j false = true) := fun j o x hj hLj hx hb => by
      refine (hset _).2 (.inl ?_)
      rcases (hset j).1 hLj with h | rfl
      · exact hd j o x hj h hx hb
      · exact hready o hj x hx hb
    have hcnt : cnt ops.size (listed.setIfInBounds i true) + fuel = ops.size := by rw [cnt_set hsz hlt hnot]; omega
    have hstep := hs i _ _ ho hk
    -- the slots behind this step
    have henv : EnvOf ops E v (fun j => (listed.setIfInBounds i true).getD j false = true) (updO e ops[i].dst (v i)) := fun t => by
      have hput : updO e ops[i].dst (v i) t = if ops[i].dst = some t then v i else e t := by
        cases hdd : ops[i].dst with
        | none => simp [updO]
        | some d =>
          simp only [updO, upd_at]
          by_cases et : t = d
          · simp [et]
          · rw [if_neg et, if_neg (by simpa using Ne.symm et)]
      refine ⟨fun j o hj hLj hdj => ?_, fun hn => ?_⟩
      · rw [hput]
        by_cases ej : j = i
        · subst ej; rw [ho] at hj; cases hj; rw [if_pos hdj]
        · rw [if_neg (hf.uniq i j _ o t ho hj ej hdj)]
          exact (he t).1 j o hj (((hset j).1 hLj).resolve_right ej) hdj
      · rw [hput, if_neg (hn i _ ho ((hset i).2 (.inr rfl)))]
        exact (he t).2 fun j o hj hLj => hn j o hj ((hset j).2 (.inl hLj))
    obtain ⟨m, hm, hAm, hm1, hm2⟩ := hA
    -- what has been done of the changes
    have early : ∀ s, s < i → 2 ≤ ks.getD s 0 → listed.getD s false = true := fun s hsi h2 => by
      rcases hf.st i s hlt (by omega) (by omega) h2 with ⟨_, hb⟩ | ⟨h, _⟩
      · obtain ⟨x, hx, hxb, h⟩ := hf.anc i _ s ho (by omega) hb
        have hLx := hready _ ho x hx hxb
        rcases h with rfl | h
        · exact hLx
        · have hxs : x.on < ops.size := by have := hf.back i _ x ho hx hxb; omega
          exact hd.anc hf x.on ops[x.on] s (by simp [hxs]) hLx (by omega) h
      · omega
    have late : ∀ s, i < s → s < ops.size → 2 ≤ ks.getD s 0 → listed.getD s false = true → (ks.getD s 0 = 2 ∧ ks.getD i 0 < 2) ∨ (ks.getD s 0 = 3 ∧ ks.getD i 0 = 0) := fun s his hss h2 hLs => by
      rcases hf.st i s hlt hss (by omega) h2 with ⟨h, _⟩ | ⟨_, h⟩
      · omega
      · rcases h with hb | h
        · have : listed.getD i false = true := hd.anc hf s ops[s] i (by simp [hss]) hLs hlt hb
          rw [hnot] at this; cases this
        · exact h
    have hearlym : ∀ s, m ≤ s → s < i → ks.getD s 0 < 2 := fun s h1 h2 => by
      rcases Nat.lt_or_ge (ks.getD s 0) 2 with h | h
      · exact h
      · exact absurd (early s h2 h) (hm2 s h1 (by omega) h)
    have small : ks.getD i 0 < 2 → StateOf ops ks S (fun j => (listed.setIfInBounds i true).getD j false = true) A := fun hki =>
      ⟨m, hm, hAm, fun s h1 h2 => (hset s).2 (.inl (hm1 s h1 h2)), fun s h1 h3 h2 hL => by
        rcases (hset s).1 hL with h | rfl
        · exact hm2 s h1 h3 h2 h
        · omega⟩
    -- a change: all before are done, none behind
    have big : 2 ≤ ks.getD i 0 → A = S i ∧ ∀ A', A' = S (i + 1) → StateOf ops ks S (fun j => (listed.setIfInBounds i true).getD j false = true) A' := fun hki => by
      have nolate : ∀ s, i < s → s < ops.size → 2 ≤ ks.getD s 0 → ¬ listed.getD s false = true := fun s h1 h2 h3 hL => by
        rcases late s h1 h2 h3 hL with ⟨_, h⟩ | ⟨_, h⟩ <;> omega
      refine ⟨?_, fun A' hA' => ⟨i + 1, hlt, hA', fun s h1 h2 => ?_, fun s h1 h3 h2 hL => ?_⟩⟩
      · rw [hAm]
        rcases Nat.le_total m i with h | h
        · exact (states_same hf hs i h (by omega) hearlym).symm
        · refine states_same hf hs m h hm fun s h1 h2 => ?_
          rcases Nat.lt_or_ge (ks.getD s 0) 2 with h' | h'
          · exact h'
          · have hLs := hm1 s h2 h'
            rcases Nat.eq_or_lt_of_le h1 with rfl | h1
            · rw [hnot] at hLs; cases hLs
            · exact absurd hLs (nolate s h1 (by omega) h')
      · by_cases es : s = i
        · exact (hset s).2 (.inr es)
        · exact (hset s).2 (.inl (early s (by omega) h2))
      · rcases (hset s).1 hL with h | rfl
        · exact nolate s (by omega) h3 h2 h
        · omega
    have hwant : ∀ {b}, wantedD ops (E i) ops[i] = some b → Region.wanted ops[i] (yielded ops a.tmps) = b := fun {b} hw =>
      wanted_of (env := E i) (g := g) (l := l) ops ops[i] hw fun t ht => by
        rw [← hag t (by simpa using ht)]; exact ha.tmps t
    have hops : ∀ x ∈ ops[i].op.operands, rep g l (evalD G (E i) x) (a.eval x) := fun x hx => by
      cases x with
      | tmp t =>
        have : t ∈ ops[i].looksAt ops := List.mem_append_left _ (List.mem_filterMap.2 ⟨.tmp t, by simpa using hx, rfl⟩)
        simp only [evalD]
        rw [← hag t this]
        exact ha.tmps t
      | const c => simp [evalD, Act.eval, rep]
      | global c => exact rep_mono (Gh.le.refl _) _ (Lo.le.none _) (hr.glob c)
      | func f => simp only [evalD, Act.eval, rep]; exact ⟨[], [], rfl, by simp [repL], by simp [repL]⟩
    have hmem : ops[i] ∈ ops.toList := by simp
    have goOn : ∀ (A' : AH) (g' : Gh) (l' : Lo) (w' : World) (cv : Value), StateOf ops ks S (fun j => (listed.setIfInBounds i true).getD j false = true) A' → Fr Prot g g' w w' → l.le l' → Rel P G g' l' A' wr Prot w' → rep g' l' (v i) cv →
        wpAny P .any ops Q fuel (listed.setIfInBounds i true) (a.put ops[i].dst cv) w' := fun A' g' l' w' cv hA' hfr hl hr' hv =>
      ih _ _ _ g' l' w' _ (by simpa using hsz) hcnt hdown henv hA' hr' ((ha.mono hfr.le hl).put (fun x hx => hN _ hmem x hx) hv) fun a' w'' hp => hQ a' w'' (hp.of_later hfr hl)
    unfold wpOp
    simp only [ho]
    rcases hstep.2 with ⟨hw, hk0, hq, _⟩ | ⟨hw, hk1, hq, _⟩ | ⟨hw, hk2, hq, _⟩ | ⟨hw, hk3, hq⟩ | ⟨hw, hv0, hSS⟩
    · rw [if_pos (hwant hw)]
      exact .inl (hq g l Prot w a A trivial hr hops _ _ fun g' w' cv hfr hr' hv => goOn A g' l w' cv (small (by rw [hkd, hk0]; omega)) hfr (Lo.le.refl _) hr' hv)
    · rw [if_pos (hwant hw)]
      have hext : ExtA (S i) A := by
        rw [hAm]
        rcases Nat.le_total m i with h | h
        · rw [states_same hf hs i h (by omega) hearlym]; exact ExtA.refl _
        · refine states_ext hf hs m h hm fun s h1 h2 h3 => ?_
          have hLs := hm1 s h2 h3
          rcases Nat.eq_or_lt_of_le h1 with rfl | h1
          · rw [hnot] at hLs; cases hLs
          · rcases late s h1 (by omega) h3 hLs with ⟨h, _⟩ | ⟨_, h⟩
            · exact h
            · rw [hkd, hk1] at h; cases h
      exact .inl (hq g l Prot w a A hext hr hops _ _ fun g' w' cv hfr hr' hv => goOn A g' l w' cv (small (by rw [hkd, hk1]; omega)) hfr (Lo.le.refl _) hr' hv)
    · rw [if_pos (hwant hw)]
      obtain ⟨hA, hA'⟩ := big (by rw [hkd, hk2]; omega)
      rw [hA] at hr
      exact .inl (hq g l Prot w a hr hops _ _ fun g' l' w' cv hfr hl hr' hv => goOn _ g' l' w' cv (hA' _ rfl) hfr hl hr' hv)
    · rw [if_pos (hwant hw)]
      obtain ⟨hA, hA'⟩ := big (by rw [hkd, hk3]; omega)
      rw [hA] at hr
      exact .inl (hq g l Prot w a hr hops _ _ fun g' l' w' cv hfr hl hr' hv => goOn _ g' l' w' cv (hA' _ rfl) hfr hl hr' hv)
    · rw [if_neg (by rw [hwant hw]; simp)]
      have hrv : rep g l (v i) undef := by rw [hv0]; simp [rep]
      rcases Nat.lt_or_ge (ks.getD i 0) 2 with h | h
      · exact goOn A g l w undef (small h) (Fr.refl _ _ _) (Lo.le.refl _) hr hrv
      · obtain ⟨hA, hA'⟩ := big h
        exact goOn A g l w undef (hA' A (by rw [hA, hSS])) (Fr.refl _ _ _) (Lo.le.refl _) hr hrv

theorem draw_soundL (hf : DrawFacts ops an ks) (hE : ∀ i o, ops[i]? = some o → E (i + 1) = updO (E i) o.dst (v i)) (hS : ∀ i, i < ops.size → (ks.getD i 0 < 2 → S (i + 1) = S i) ∧ (ks.getD i 0 = 2 → ExtA (S i) (S (i + 1)))) {n : Nat} (hn : ops.size = n + 1) (hs : ∀ i o k, i < n → ops[i]? = some o → ks[i]? = some k → StepAt P G wr ops k o (E i) (E (i + 1)) (S i) (S (i + 1)) (v i))
    (hk3 : 2 ≤ ks.getD n 0) (hall : ∀ j, j < n → (an.getD n 0).testBit j = true) {last : Oper} (hl : ops[n]? = some last) (hwl : wantedD ops (E n) last = some true) {K : Env → AH → Prop} (hop : AOp P G wr last (evalD G (E n)) (S n) fun v' A' => K (updO (E n) last.dst v') A')
    (hN : ∀ o ∈ ops.toList, ∀ x, o.dst = some x → x < N) {Prot : Nat → Prop} {Q : Exit → Act → World → Prop} :
    ∀ (fuel : Nat) (listed : Array Bool) (e : Env) (A : AH) (g : Gh) (l : Lo) (w : World) (a : Act), listed.size = ops.size → listed.getD n false = false → cnt ops.size listed + fuel = ops.size →
      Down ops (fun i => listed.getD i false = true) → EnvOf ops E v (fun i => listed.getD i false = true) e → StateOf ops ks S (fun i => listed.getD i false = true) A →
      Rel P G g l A wr Prot w → Ag g l N e a → (∀ a' w', Post P G wr N g l Prot w K a' w' → Q .normal a' w') →
      wpAny P .any ops Q fuel listed a w := by
  intro fuel
  induction fuel with
  | zero =>
    intro listed e A g l w a hsz hnl hc
    have := cnt_all (by simpa using hc) n (by omega)
    rw [hnl] at this; cases this
  | succ fuel ih =>
    intro listed e A g l w a hsz hnl hc hd he hA hr ha hQ
    refine ⟨fun h0 => (by have := ready_nil hf hsz h0 n (by omega); rw [hnl] at this; cases this), fun i hi => ?_⟩
    obtain ⟨hlt, hnot, hready⟩ := ready_mem hsz hi
    have ho : ops[i]? = some ops[i] := by simp
    have hkl : i < ks.length := by rw [hf.len]; exact hlt
    have hk : ks[i]? = some ks[i] := by simp
    have hkd : ks.getD i 0 = ks[i] := by rw [List.getD_eq_getElem?_getD, hk]; rfl
    have hag : ∀ t, t ∈ ops[i].looksAt ops → e t = E i t := fun t ht => agreeW hf hE hS hd ho (by rw [hnot]; simp) (hready _ ho) he ht
    have hset : ∀ j, (listed.setIfInBounds i true).getD j false = true ↔ (listed.getD j false = true ∨ j = i) := fun j => by
      by_cases ej : i = j
      · subst ej; simp [Array.getD_eq_getD_getElem?, hsz, hlt]
      · simp [Array.getD_eq_getD_getElem?, ej, Ne.symm ej]
    have hdown : Down ops (fun j => (listed.setIfInBounds i true).getD j false = true) := fun j o x hj hLj hx hb => by
      refine (hset _).2 (.inl ?_)
      rcases (hset j).1 hLj with h | rfl
      · exact hd j o x hj h hx hb
      · exact hready o hj x hx hb
    have hcnt : cnt ops.size (listed.setIfInBounds i true) + fuel = ops.size := by rw [cnt_set hsz hlt hnot]; omega
    -- the slots behind this step
    have henv : EnvOf ops E v (fun j => (listed.setIfInBounds i true).getD j false = true) (updO e ops[i].dst (v i)) := fun t => by
      have hput : updO e ops[i].dst (v i) t = if ops[i].dst = some t then v i else e t := by
        cases hdd : ops[i].dst with
        | none => simp [updO]
        | some d =>
          simp only [updO, upd_at]
          by_cases et : t = d
          · simp [et]
          · rw [if_neg et, if_neg (by simpa using Ne.symm et)]
      refine ⟨fun j o hj hLj hdj => ?_, fun hn => ?_⟩
      · rw [hput]
        by_cases ej : j = i
        · subst ej; rw [ho] at hj; cases hj; rw [if_pos hdj]
        · rw [if_neg (hf.uniq i j _ o t ho hj ej hdj)]
          exact (he t).1 j o hj (((hset j).1 hLj).resolve_right ej) hdj
      · rw [hput, if_neg (hn i _ ho ((hset i).2 (.inr rfl)))]
        exact (he t).2 fun j o hj hLj => hn j o hj ((hset j).2 (.inl hLj))
    obtain ⟨m, hm, hAm, hm1, hm2⟩ := hA
    -- what has been done of the changes
    have early : ∀ s, s < i → 2 ≤ ks.getD s 0 → listed.getD s false = true := fun s hsi h2 => by
      rcases hf.st i s hlt (by omega) (by omega) h2 with ⟨_, hb⟩ | ⟨h, _⟩
      · obtain ⟨x, hx, hxb, h⟩ := hf.anc i _ s ho (by omega) hb
        have hLx := hready _ ho x hx hxb
        rcases h with rfl | h
        · exact hLx
        · have hxs : x.on < ops.size := by have := hf.back i _ x ho hx hxb; omega
          exact hd.anc hf x.on ops[x.on] s (by simp [hxs]) hLx (by omega) h
      · omega
    have late : ∀ s, i < s → s < ops.size → 2 ≤ ks.getD s 0 → listed.getD s false = true → (ks.getD s 0 = 2 ∧ ks.getD i 0 < 2) ∨ (ks.getD s 0 = 3 ∧ ks.getD i 0 = 0) := fun s his hss h2 hLs => by
      rcases hf.st i s hlt hss (by omega) h2 with ⟨h, _⟩ | ⟨_, h⟩
      · omega
      · rcases h with hb | h
        · have : listed.getD i false = true := hd.anc hf s ops[s] i (by simp [hss]) hLs hlt hb
          rw [hnot] at this; cases this
        · exact h
    have hearlym : ∀ s, m ≤ s → s < i → ks.getD s 0 < 2 := fun s h1 h2 => by
      rcases Nat.lt_or_ge (ks.getD s 0) 2 with h | h
      · exact h
      · exact absurd (early s h2 h) (hm2 s h1 (by omega) h)
    have small : ks.getD i 0 < 2 → StateOf ops ks S (fun j => (listed.setIfInBounds i true).getD j false = true) A := fun hki =>
      ⟨m, hm, hAm, fun s h1 h2 => (hset s).2 (.inl (hm1 s h1 h2)), fun s h1 h3 h2 hL => by
        rcases (hset s).1 hL with h | rfl
        · exact hm2 s h1 h3 h2 h
        · omega⟩
    -- a change: all before are done, none behind
    have big : 2 ≤ ks.getD i 0 → A = S i ∧ ∀ A', A' = S (i + 1) → StateOf ops ks S (fun j => (listed.setIfInBounds i true).getD j false = true) A' := fun hki => by
      have nolate : ∀ s, i < s → s < ops.size → 2 ≤ ks.getD s 0 → ¬ listed.getD s false = true := fun s h1 h2 h3 hL => by
        rcases late s h1 h2 h3 hL with ⟨_, h⟩ | ⟨_, h⟩ <;> omega
      refine ⟨?_, fun A' hA' => ⟨i + 1, hlt, hA', fun s h1 h2 => ?_, fun s h1 h3 h2 hL => ?_⟩⟩
      · rw [hAm]
        rcases Nat.le_total m i with h | h
        · exact (states_sameW hf hE hS i h (by omega) hearlym).symm
        · refine states_sameW hf hE hS m h hm fun s h1 h2 => ?_
          rcases Nat.lt_or_ge (ks.getD s 0) 2 with h' | h'
          · exact h'
          · have hLs := hm1 s h2 h'
            rcases Nat.eq_or_lt_of_le h1 with rfl | h1
            · rw [hnot] at hLs; cases hLs
            · exact absurd hLs (nolate s h1 (by omega) h')
      · by_cases es : s = i
        · exact (hset s).2 (.inr es)
        · exact (hset s).2 (.inl (early s (by omega) h2))
      · rcases (hset s).1 hL with h | rfl
        · exact nolate s (by omega) h3 h2 h
        · omega
    have hwant : ∀ {b}, wantedD ops (E i) ops[i] = some b → Region.wanted ops[i] (yielded ops a.tmps) = b := fun {b} hw =>
      wanted_of (env := E i) (g := g) (l := l) ops ops[i] hw fun t ht => by
        rw [← hag t (by simpa using ht)]; exact ha.tmps t
    have hops : ∀ x ∈ ops[i].op.operands, rep g l (evalD G (E i) x) (a.eval x) := fun x hx => by
      cases x with
      | tmp t =>
        have : t ∈ ops[i].looksAt ops := List.mem_append_left _ (List.mem_filterMap.2 ⟨.tmp t, by simpa using hx, rfl⟩)
        simp only [evalD]
        rw [← hag t this]
        exact ha.tmps t
      | const c => simp [evalD, Act.eval, rep]
      | global c => exact rep_mono (Gh.le.refl _) _ (Lo.le.none _) (hr.glob c)
      | func f => simp only [evalD, Act.eval, rep]; exact ⟨[], [], rfl, by simp [repL], by simp [repL]⟩
    have hmem : ops[i] ∈ ops.toList := by simp
    by_cases hin : i = n
    · subst hin
      obtain rfl : ops[i] = last := by rw [ho] at hl; exact Option.some.inj hl
      have hallL : ∀ j, j < i → listed.getD j false = true := fun j hj => by
        obtain ⟨x, hx, hxb, h⟩ := hf.anc i _ j ho (by omega) (hall j hj)
        have hLx := hready _ ho x hx hxb
        rcases h with rfl | h
        · exact hLx
        · have hxs : x.on < ops.size := by have := hf.back i _ x ho hx hxb; omega
          exact hd.anc hf x.on ops[x.on] j (by simp [hxs]) hLx (by omega) h
      have hee : e = E i := funext fun t => by
        obtain ⟨r1, r2⟩ := run_slotW hf hE hS i (by omega) t
        by_cases hw : ∃ (j : Nat) (p : Oper), ops[j]? = some p ∧ j < i ∧ p.dst = some t
        · obtain ⟨j, p, hj, hlt2, hd2⟩ := hw
          rw [(he t).1 j p hj (hallL j hlt2) hd2, r1 j p hj hlt2 hd2]
        · have hno : ∀ j p, ops[j]? = some p → j < i → p.dst ≠ some t := fun j p hj hlt2 hd2 => hw ⟨j, p, hj, hlt2, hd2⟩
          rw [(he t).2 fun j p hj hLj => by
            have hj3 := (Array.getElem?_eq_some_iff.1 hj).1
            have : ¬ j = i := fun e => by
              have hLj2 : listed.getD j false = true := hLj
              rw [e, hnl] at hLj2; cases hLj2
            exact hno j p hj (by omega), r2 fun j p hj hlt2 => hno j p hj hlt2]
      have hfuel : fuel = 0 := by
        have : cnt ops.size (listed.setIfInBounds i true) = ops.size := by
          unfold cnt
          have : (List.range ops.size).countP (fun j => (listed.setIfInBounds i true).getD j false) = (List.range ops.size).length := by
            rw [List.countP_eq_length]
            intro j hj
            rw [List.mem_range] at hj
            by_cases e : j = i
            · exact (hset j).2 (.inr e)
            · exact (hset j).2 (.inl (hallL j (by omega)))
          rw [this, List.length_range]
        omega
      subst hfuel
      obtain ⟨hA1, _⟩ := big hk3
      unfold wpOp
      simp only [ho]
      rw [if_pos (hwant hwl)]
      rw [hA1] at hr
      refine .inl (hop g l Prot w a hr hops _ _ fun v' A' g' l' w' cv hk' hfr hl' hr' hv => ?_)
      refine ⟨?_, hQ _ _ ⟨_, A', g', l', hk', hfr, hl', hr', ?_⟩⟩
      · rw [List.eq_nil_iff_forall_not_mem]
        intro j hj
        obtain ⟨h1, h2, _⟩ := ready_mem (by simpa using hsz) hj
        have : (listed.setIfInBounds i true).getD j false = true := by
          by_cases e : j = i
          · exact (hset j).2 (.inr e)
          · exact (hset j).2 (.inl (hallL j (by omega)))
        rw [this] at h2; cases h2
      · rw [← hee]
        exact (ha.mono hfr.le hl').put (fun x hx => hN _ hmem x hx) hv
    have hin2 : i < n := by omega
    have hstep := hs i _ _ hin2 ho hk
    have goOn : ∀ (A' : AH) (g' : Gh) (l' : Lo) (w' : World) (cv : Value), StateOf ops ks S (fun j => (listed.setIfInBounds i true).getD j false = true) A' → Fr Prot g g' w w' → l.le l' → Rel P G g' l' A' wr Prot w' → rep g' l' (v i) cv →
        wpAny P .any ops Q fuel (listed.setIfInBounds i true) (a.put ops[i].dst cv) w' := fun A' g' l' w' cv hA' hfr hl hr' hv =>
      ih _ _ _ g' l' w' _ (by simpa using hsz) (by have e1 : ¬ i = n := hin; simp [Array.getD_eq_getD_getElem?, e1]; simpa [Array.getD_eq_getD_getElem?] using hnl) hcnt hdown henv hA' hr' ((ha.mono hfr.le hl).put (fun x hx => hN _ hmem x hx) hv) fun a' w'' hp => hQ a' w'' (hp.of_later hfr hl)
    unfold wpOp
    simp only [ho]
    rcases hstep.2 with ⟨hw, hk0, hq, _⟩ | ⟨hw, hk1, hq, _⟩ | ⟨hw, hk2, hq, _⟩ | ⟨hw, hk3, hq⟩ | ⟨hw, hv0, hSS⟩
    · rw [if_pos (hwant hw)]
      exact .inl (hq g l Prot w a A trivial hr hops _ _ fun g' w' cv hfr hr' hv => goOn A g' l w' cv (small (by rw [hkd, hk0]; omega)) hfr (Lo.le.refl _) hr' hv)
    · rw [if_pos (hwant hw)]
      have hext : ExtA (S i) A := by
        rw [hAm]
        rcases Nat.le_total m i with h | h
        · rw [states_sameW hf hE hS i h (by omega) hearlym]; exact ExtA.refl _
        · refine states_extW hf hE hS m h hm fun s h1 h2 h3 => ?_
          have hLs := hm1 s h2 h3
          rcases Nat.eq_or_lt_of_le h1 with rfl | h1
          · rw [hnot] at hLs; cases hLs
          · rcases late s h1 (by omega) h3 hLs with ⟨h, _⟩ | ⟨_, h⟩
            · exact h
            · rw [hkd, hk1] at h; cases h
      exact .inl (hq g l Prot w a A hext hr hops _ _ fun g' w' cv hfr hr' hv => goOn A g' l w' cv (small (by rw [hkd, hk1]; omega)) hfr (Lo.le.refl _) hr' hv)
    · rw [if_pos (hwant hw)]
      obtain ⟨hA, hA'⟩ := big (by rw [hkd, hk2]; omega)
      rw [hA] at hr
      exact .inl (hq g l Prot w a hr hops _ _ fun g' l' w' cv hfr hl hr' hv => goOn _ g' l' w' cv (hA' _ rfl) hfr hl hr' hv)
    · rw [if_pos (hwant hw)]
      obtain ⟨hA, hA'⟩ := big (by rw [hkd, hk3]; omega)
      rw [hA] at hr
      exact .inl (hq g l Prot w a hr hops _ _ fun g' l' w' cv hfr hl hr' hv => goOn _ g' l' w' cv (hA' _ rfl) hfr hl hr' hv)
    · rw [if_neg (by rw [hwant hw]; simp)]
      have hrv : rep g l (v i) undef := by rw [hv0]; simp [rep]
      rcases Nat.lt_or_ge (ks.getD i 0) 2 with h | h
      · exact goOn A g l w undef (small h) (Fr.refl _ _ _) (Lo.le.refl _) hr hrv
      · obtain ⟨hA, hA'⟩ := big h
        exact goOn A g l w undef (hA' A (by rw [hA, hSS])) (Fr.refl _ _ _) (Lo.le.refl _) hr hrv

end

section
variable {P : Program} {G : Nat → D} {wr : Bool} {N : Nat}

/-- A region whose order is drawn. -/
theorem region_draw_sound (hm : P.follows .mixedOrders = true) (id : Nat) (ops : Array Oper) (hN : ∀ o ∈ ops.toList, ∀ x, o.dst = some x → x < N) {an ks : List Nat} (hok : drawOK ops an ks = true)
    {K : Env → AH → Prop} {env : Env} {A : AH} (h : adraw P G wr ops ks ops.toList env A K) {g : Gh} {l : Lo} {Prot : Nat → Prop} {w : World} {a : Act} (hr : Rel P G g l A wr Prot w) (ha : Ag g l N env a)
    {Q : Exit → Act → World → Prop} (hQ : ∀ a' w', Post P G wr N g l Prot w K a' w' → Q .normal a' w') : (Code.region id ops true).wp P Q a w := by
  have hf := drawOK.facts hok
  refine wp_region_any hm ?_
  have hrd : Rel P G g l A wr Prot { w with drawn := w.drawn + 1 } := hr.of_heap rfl
  have none_ : ∀ i, (Array.replicate ops.size false).getD i false = false := fun i => by
    simp [Array.getD_eq_getD_getElem?, Array.getElem?_replicate]
    split <;> rfl
  have none' : ∀ i, ¬ (Array.replicate ops.size false).getD i false = true := fun i e => by rw [none_] at e; cases e
  have cnt0 : cnt ops.size (Array.replicate ops.size false) + ops.size = ops.size := by
    unfold cnt
    have : (List.range ops.size).countP (fun i => (Array.replicate ops.size false).getD i false) = 0 := by
      rw [List.countP_eq_zero]; intro i _; rw [none_]; simp
    omega
  have hlen : ops.toList.length = ops.size := by simp
  rcases adraw_run ops ks ops.toList env A h with ⟨E, S, v, hE, hS, hsteps, hK⟩ | ⟨E, S, v, n, last, hE, hS, hl1, hl2, hl3, hw, hop, hsteps⟩
  · have hs : ∀ i o k, ops[i]? = some o → ks[i]? = some k → StepAt P G wr ops k o (E i) (E (i + 1)) (S i) (S (i + 1)) (v i) := fun i o k ho hk => hsteps i o k (by rw [Array.getElem?_toList]; exact ho) hk
    refine draw_sound hf hs hN ops.size _ (E 0) (S 0) g l _ a (by simp) cnt0 (fun i o e _ hL => absurd hL (none' i)) ?_ ?_ (hS ▸ hrd) (hE ▸ ha) ?_
    · exact fun t => ⟨fun i o _ hL => absurd hL (none' i), fun _ => rfl⟩
    · exact ⟨0, Nat.zero_le _, rfl, fun s h => absurd h (Nat.not_lt_zero _), fun s _ _ _ hL => none' s hL⟩
    · intro a' w' ⟨env', A', g', l', ⟨h1, h2⟩, h3, h4, h5, h6⟩
      subst h1; subst h2
      rw [hlen] at hK
      exact hQ a' w' ⟨_, _, g', l', hK, (Fr.of_heap rfl ⟨rfl, rfl⟩ : Fr Prot g g w { w with drawn := w.drawn + 1 }).trans h3, h4, h5, h6⟩
  · have hsz : ops.size = n + 1 := by rw [← hlen]; exact hl1
    have hk4 : ks.getD n 0 = 4 := by rw [List.getD_eq_getElem?_getD, hl3]; rfl
    have hstp : ∀ i o, i < n → ops[i]? = some o → ∃ k, ks[i]? = some k ∧ ks.getD i 0 = k ∧ StepAt P G wr ops k o (E i) (E (i + 1)) (S i) (S (i + 1)) (v i) := fun i o hi ho => by
      have hkl : i < ks.length := by rw [hf.len]; omega
      exact ⟨ks[i], by simp, by rw [List.getD_eq_getElem?_getD, List.getElem?_eq_getElem hkl]; rfl, hsteps i o _ hi (by rw [Array.getElem?_toList]; exact ho) (by simp)⟩
    have hl2' : ops[n]? = some last := by rw [← Array.getElem?_toList]; exact hl2
    refine draw_soundL (E := fun i => if i ≤ n then E i else updO (E n) last.dst (.sc undef)) (S := fun i => if i ≤ n then S i else S n) (v := fun i => if i < n then v i else .sc undef) hf (fun i o ho => ?_) (fun i hi => ?_) hsz (fun i o k hi ho hk => ?_) (by omega) (fun j hj => ?_) hl2' (by simpa using hw) (by simpa using hop) hN ops.size _ (E 0) (S 0) g l _ a (by simp) (none_ n) cnt0 (fun i o e _ hL => absurd hL (none' i)) ?_ ?_ (hS ▸ hrd) (hE ▸ ha) ?_
    · have hi := (Array.getElem?_eq_some_iff.1 ho).1
      by_cases hin : i < n
      · obtain ⟨k, _, _, h1, _⟩ := hstp i o hin ho
        simp only [if_pos (by omega : i ≤ n), if_pos (by omega : i + 1 ≤ n), if_pos hin]
        exact h1
      · obtain rfl : i = n := by omega
        obtain rfl : last = o := by rw [ho] at hl2'; exact (Option.some.inj hl2').symm
        simp only [if_neg (by omega : ¬ i + 1 ≤ i), if_pos (Nat.le_refl i), if_neg (Nat.lt_irrefl i)]
    · by_cases hin : i < n
      · obtain ⟨k, _, h2, _, h4⟩ := hstp i ops[i] hin (by simp [hi])
        simp only [if_pos (by omega : i ≤ n), if_pos (by omega : i + 1 ≤ n), h2]
        rcases h4 with ⟨_, hk, _, h⟩ | ⟨_, hk, _, h⟩ | ⟨_, hk, _, h⟩ | ⟨_, hk, _⟩ | ⟨_, _, h⟩
        · exact ⟨fun _ => h, fun e => by omega⟩
        · exact ⟨fun _ => h, fun e => by omega⟩
        · exact ⟨fun e => by omega, fun _ => h⟩
        · exact ⟨fun e => by omega, fun e => by omega⟩
        · exact ⟨fun _ => h, fun _ => by rw [h]; exact ExtA.refl _⟩
      · obtain rfl : i = n := by omega
        rw [hk4]; exact ⟨fun e => by omega, fun e => by omega⟩
    · simp only [if_pos (by omega : i ≤ n), if_pos (by omega : i + 1 ≤ n), if_pos hi]
      exact hsteps i o k hi (by rw [Array.getElem?_toList]; exact ho) hk
    · rcases hf.st j n (by omega) (by omega) (by omega) (by rw [hk4]; omega) with ⟨h, _⟩ | ⟨_, h | ⟨h, _⟩ | ⟨h, _⟩⟩
      · omega
      · exact h
      · rw [hk4] at h; omega
      · rw [hk4] at h; omega
    · exact fun t => ⟨fun i o _ hL => absurd hL (none' i), fun _ => by simp⟩
    · exact ⟨0, Nat.zero_le _, by simp, fun s h => absurd h (Nat.not_lt_zero _), fun s _ _ _ hL => none' s hL⟩
    · intro a' w' ⟨env', A', g', l', h1, h3, h4, h5, h6⟩
      exact hQ a' w' ⟨_, _, g', l', h1, (Fr.of_heap rfl ⟨rfl, rfl⟩ : Fr Prot g g w { w with drawn := w.drawn + 1 }).trans h3, h4, h5, h6⟩

end
end Go.Abs
