/-
  The abstract logic, part D: a region whose order is drawn comes to what its text says, in whatever order.
-/
import Derived.Test.YtjobmjfdlkjaoaaGreatDoorZAbsC
namespace Go.Abs
set_option linter.unusedVariables false
set_option linter.unusedSimpArgs false

/-- More locals, else the same. -/
structure ExtA (A A' : AH) : Prop where
  o : ∀ (i : Nat) (ob : LO), A.o[i]? = some ob → A'.o[i]? = some ob
  live : A'.live = A.live
  ln : A'.ln = A.ln
  h : A'.h = A.h
theorem ExtA.refl (A : AH) : ExtA A A := ⟨fun _ _ h => h, rfl, rfl, rfl⟩
theorem ExtA.trans {A B C : AH} (h : ExtA A B) (h' : ExtA B C) : ExtA A C :=
  ⟨fun i ob e => h'.o i ob (h.o i ob e), h'.live.trans h.live, h'.ln.trans h.ln, h'.h.trans h.h⟩
theorem ExtA.push (A : AH) (ob : LO) : ExtA A (A.push ob) :=
  ⟨fun i x h => by simp only [AH.push]; rw [List.getElem?_append_left (List.getElem?_eq_some_iff.1 h).1]; exact h, rfl, rfl, rfl⟩

/-- A region, in the order of its text. Kinds: 0: asks nothing of the state; 1: reads it; 2: a new local; 3: another change. -/
def adraw (P : Program) (G : Nat → D) (wr : Bool) (ops : Array Oper) : List Nat → List Oper → Env → AH → (Env → AH → Prop) → Prop
  | k :: ks, o :: rest, env, A, K =>
    (wantedD ops env o = some true ∧ k = 0 ∧ ∃ v, AQ P G wr o (evalD G env) (fun _ => True) v ∧ adraw P G wr ops ks rest (updO env o.dst v) A K) ∨
    (wantedD ops env o = some true ∧ k = 1 ∧ ∃ v, AQ P G wr o (evalD G env) (ExtA A) v ∧ adraw P G wr ops ks rest (updO env o.dst v) A K) ∨
    (wantedD ops env o = some true ∧ k = 2 ∧ ∃ v A', AS P G wr o (evalD G env) A v A' ∧ ExtA A A' ∧ adraw P G wr ops ks rest (updO env o.dst v) A' K) ∨
    (wantedD ops env o = some true ∧ k = 3 ∧ ∃ v A', AS P G wr o (evalD G env) A v A' ∧ adraw P G wr ops ks rest (updO env o.dst v) A' K) ∨
    (wantedD ops env o = some false ∧ adraw P G wr ops ks rest (updO env o.dst (.sc undef)) A K)
  | [], [], env, A, K => K env A
  | _, _, _, _, _ => False

def drawOK (ops : Array Oper) (an : List Nat) (ks : List Nat) : Bool :=
  ks.length == ops.size &&
  (List.range ops.size).all fun i =>
    match ops.toList[i]? with
    | none => false
    | some o =>
      (o.after.toList.all fun e => !Region.binds .any e || decide (e.on < i)) &&
      ((List.range ops.size).all fun j => !(an.getD i 0).testBit j || o.after.toList.any fun e => Region.binds .any e && (e.on == j || (an.getD e.on 0).testBit j)) &&
      ((List.range ops.size).all fun j => j == i ||
        match ops.toList[j]? with
        | none => false
        | some p =>
          (match p.dst with
           | none => true
           | some t => o.dst != some t && (!(o.looksAt ops).contains t || (if j < i then (an.getD i 0).testBit j else (an.getD j 0).testBit i))) &&
          (decide (ks.getD j 0 < 2) || (if j < i then (an.getD i 0).testBit j else ((an.getD j 0).testBit i || (ks.getD j 0 == 2 && decide (ks.getD i 0 < 2)) || (ks.getD j 0 == 3 && ks.getD i 0 == 0)))))

structure DrawFacts (ops : Array Oper) (an : List Nat) (ks : List Nat) : Prop where
  len : ks.length = ops.size
  back : ∀ (i : Nat) o e, ops[i]? = some o → e ∈ o.after → Region.binds .any e = true → e.on < i
  anc : ∀ (i : Nat) o j, ops[i]? = some o → j < ops.size → (an.getD i 0).testBit j = true → ∃ e ∈ o.after, Region.binds .any e = true ∧ (e.on = j ∨ (an.getD e.on 0).testBit j = true)
  uniq : ∀ (i j : Nat) o p t, ops[i]? = some o → ops[j]? = some p → j ≠ i → p.dst = some t → o.dst ≠ some t
  look : ∀ (i j : Nat) o p t, ops[i]? = some o → ops[j]? = some p → j ≠ i → p.dst = some t → t ∈ o.looksAt ops → (j < i ∧ (an.getD i 0).testBit j = true) ∨ (i < j ∧ (an.getD j 0).testBit i = true)
  st : ∀ i j : Nat, i < ops.size → j < ops.size → j ≠ i → 2 ≤ ks.getD j 0 → (j < i ∧ (an.getD i 0).testBit j = true) ∨
    (i < j ∧ ((an.getD j 0).testBit i = true ∨ (ks.getD j 0 = 2 ∧ ks.getD i 0 < 2) ∨ (ks.getD j 0 = 3 ∧ ks.getD i 0 = 0)))

theorem drawOK.facts {ops : Array Oper} {an ks : List Nat} (h : drawOK ops an ks = true) : DrawFacts ops an ks := by
  unfold drawOK at h
  simp only [Bool.and_eq_true, beq_iff_eq, List.all_eq_true, List.mem_range] at h
  obtain ⟨h0, h⟩ := h
  have lt : ∀ {i : Nat} {o : Oper}, ops[i]? = some o → i < ops.size := fun e => (Array.getElem?_eq_some_iff.1 e).1
  have at_ : ∀ {i : Nat} {o : Oper}, ops[i]? = some o → ops.toList[i]? = some o := fun e => by rw [Array.getElem?_toList]; exact e
  have main : ∀ {i : Nat} {o : Oper} (hi : ops[i]? = some o), _ := fun {i o} hi => by
    have := h i (lt hi)
    rw [at_ hi] at this
    simp only [Bool.and_eq_true, List.all_eq_true, List.mem_range] at this
    exact this
  refine ⟨h0, fun i o e hi he hb => ?_, fun i o j hi hj ht => ?_, fun i j o p t hi hj hne hd => ?_, fun i j o p t hi hj hne hd hl => ?_, fun i j hi hj hne hk => ?_⟩
  · have := (main hi).1.1 e (by simpa using he)
    simpa [hb] using this
  · have := (main hi).1.2 j hj
    simp only [ht, Bool.not_true, Bool.false_or, List.any_eq_true, Bool.and_eq_true, Bool.or_eq_true, beq_iff_eq] at this
    obtain ⟨e, h1, h2, h3⟩ := this
    exact ⟨e, by simpa using h1, h2, h3⟩
  · have := (main hi).2 j (lt hj)
    rw [at_ hj] at this
    simp only [hd, Bool.or_eq_true, beq_iff_eq, Bool.and_eq_true, bne_iff_ne] at this
    rcases this with e | ⟨⟨h1, _⟩, _⟩
    · exact absurd e hne
    · exact h1
  · have := (main hi).2 j (lt hj)
    rw [at_ hj] at this
    simp only [hd, Bool.or_eq_true, beq_iff_eq, Bool.and_eq_true] at this
    rcases this with e | ⟨⟨_, h1⟩, _⟩
    · exact absurd e hne
    · have hc : (o.looksAt ops).contains t = true := by simpa using hl
      rw [hc] at h1
      simp only [Bool.not_true, Bool.false_eq_true, false_or] at h1
      by_cases hlt : j < i
      · rw [if_pos hlt] at h1; exact .inl ⟨hlt, h1⟩
      · rw [if_neg hlt] at h1; exact .inr ⟨by omega, h1⟩
  · obtain ⟨o, ho⟩ : ∃ o, ops[i]? = some o := ⟨ops[i], by simp [hi]⟩
    obtain ⟨p, hp⟩ : ∃ p, ops[j]? = some p := ⟨ops[j], by simp [hj]⟩
    have := (main ho).2 j hj
    rw [at_ hp] at this
    simp only [Bool.or_eq_true, beq_iff_eq, Bool.and_eq_true] at this
    rcases this with e | ⟨_, h1⟩
    · exact absurd e hne
    · rcases h1 with h1 | h1
      · have := of_decide_eq_true h1; omega
      · by_cases hlt : j < i
        · rw [if_pos hlt] at h1; exact .inl ⟨hlt, h1⟩
        · rw [if_neg hlt] at h1
          simp only [Bool.or_eq_true, Bool.and_eq_true, beq_iff_eq, decide_eq_true_eq] at h1
          refine .inr ⟨by omega, ?_⟩
          rcases h1 with (h1 | h1) | h1
          · exact .inl h1
          · exact .inr (.inl h1)
          · exact .inr (.inr h1)

section
variable {P : Program} {G : Nat → D} {wr : Bool} {N : Nat}

/-- One step of the text's run. -/
def StepAt (P : Program) (G : Nat → D) (wr : Bool) (ops : Array Oper) (k : Nat) (o : Oper) (E E' : Env) (S S' : AH) (v : D) : Prop :=
  E' = updO E o.dst v ∧
  ((wantedD ops E o = some true ∧ k = 0 ∧ AQ P G wr o (evalD G E) (fun _ => True) v ∧ S' = S) ∨
   (wantedD ops E o = some true ∧ k = 1 ∧ AQ P G wr o (evalD G E) (ExtA S) v ∧ S' = S) ∨
   (wantedD ops E o = some true ∧ k = 2 ∧ AS P G wr o (evalD G E) S v S' ∧ ExtA S S') ∨
   (wantedD ops E o = some true ∧ k = 3 ∧ AS P G wr o (evalD G E) S v S') ∨
   (wantedD ops E o = some false ∧ v = .sc undef ∧ S' = S))

theorem adraw_run (ops : Array Oper) {K : Env → AH → Prop} : ∀ (ks : List Nat) (rest : List Oper) (env : Env) (A : AH), adraw P G wr ops ks rest env A K →
    ∃ (E : Nat → Env) (S : Nat → AH) (v : Nat → D), E 0 = env ∧ S 0 = A ∧ (∀ i o k, rest[i]? = some o → ks[i]? = some k → StepAt P G wr ops k o (E i) (E (i + 1)) (S i) (S (i + 1)) (v i)) ∧
      K (E rest.length) (S rest.length)
  | [], [], env, A, h => ⟨fun _ => env, fun _ => A, fun _ => .sc undef, rfl, rfl, fun i o k h1 _ => by simp at h1, h⟩
  | k :: ks, o :: rest, env, A, h => by
    have next : ∀ (v : D) (A' : AH), adraw P G wr ops ks rest (updO env o.dst v) A' K → StepAt P G wr ops k o env (updO env o.dst v) A A' v →
        ∃ (E : Nat → Env) (S : Nat → AH) (v : Nat → D), E 0 = env ∧ S 0 = A ∧ (∀ i o' k', (o :: rest)[i]? = some o' → (k :: ks)[i]? = some k' → StepAt P G wr ops k' o' (E i) (E (i + 1)) (S i) (S (i + 1)) (v i)) ∧
          K (E (o :: rest).length) (S (o :: rest).length) := fun v A' ha hs => by
      obtain ⟨E, S, u, h1, h2, h3, h4⟩ := adraw_run ops ks rest _ _ ha
      refine ⟨fun | 0 => env | i + 1 => E i, fun | 0 => A | i + 1 => S i, fun | 0 => v | i + 1 => u i, rfl, rfl, fun i o' k' ho hk => ?_, h4⟩
      cases i with
      | zero =>
        simp at ho hk; subst ho; subst hk
        simp only [h1, h2]
        exact hs
      | succ i =>
        simp only [List.getElem?_cons_succ] at ho hk
        exact h3 i o' k' ho hk
    simp only [adraw] at h
    rcases h with ⟨hw, hk, v, hq, ha⟩ | ⟨hw, hk, v, hq, ha⟩ | ⟨hw, hk, v, A', hq, he, ha⟩ | ⟨hw, hk, v, A', hq, ha⟩ | ⟨hw, ha⟩
    · exact next v A ha ⟨rfl, .inl ⟨hw, hk, hq, rfl⟩⟩
    · exact next v A ha ⟨rfl, .inr (.inl ⟨hw, hk, hq, rfl⟩)⟩
    · exact next v A' ha ⟨rfl, .inr (.inr (.inl ⟨hw, hk, hq, he⟩))⟩
    · exact next v A' ha ⟨rfl, .inr (.inr (.inr (.inl ⟨hw, hk, hq⟩)))⟩
    · exact next _ A ha ⟨rfl, .inr (.inr (.inr (.inr ⟨hw, rfl, rfl⟩)))⟩
  | [], _ :: _, _, _, h => by simp [adraw] at h
  | _ :: _, [], _, _, h => by simp [adraw] at h

end

/-! The invariant of a drawn run. -/
section
variable {P : Program} {G : Nat → D} {wr : Bool} {N : Nat} {ops : Array Oper} {an ks : List Nat}
variable (E : Nat → Env) (S : Nat → AH) (v : Nat → D)

def Down (ops : Array Oper) (L : Nat → Prop) : Prop := ∀ i o e, ops[i]? = some o → L i → e ∈ o.after → Region.binds .any e = true → L e.on

theorem Down.anc {L : Nat → Prop} (hf : DrawFacts ops an ks) (hL : Down ops L) : ∀ (i : Nat) o j, ops[i]? = some o → L i → j < ops.size → (an.getD i 0).testBit j = true → L j := by
  intro i
  induction i using Nat.strongRecOn with
  | _ i ih =>
    intro o j ho hi hj hb
    obtain ⟨e, he, hbi, h⟩ := hf.anc i o j ho hj hb
    have hlt := hf.back i o e ho he hbi
    have hle := hL i o e ho hi he hbi
    rcases h with rfl | h
    · exact hle
    · have hes : e.on < ops.size := Nat.lt_trans hlt (Array.getElem?_eq_some_iff.1 ho).1
      exact ih e.on hlt ops[e.on] j (by simp [hes]) hle hj h

/-- The value of a slot when L has been carried out. -/
def EnvOf (ops : Array Oper) (E : Nat → Env) (v : Nat → D) (L : Nat → Prop) (e : Env) : Prop :=
  ∀ t, (∀ i o, ops[i]? = some o → L i → o.dst = some t → e t = v i) ∧ ((∀ i o, ops[i]? = some o → L i → o.dst ≠ some t) → e t = E 0 t)

def StateOf (ops : Array Oper) (ks : List Nat) (S : Nat → AH) (L : Nat → Prop) (A : AH) : Prop :=
  ∃ m, m ≤ ops.size ∧ A = S m ∧ (∀ s, s < m → 2 ≤ ks.getD s 0 → L s) ∧ (∀ s, m ≤ s → s < ops.size → 2 ≤ ks.getD s 0 → ¬ L s)

variable {E S v}

/-- The text's run: a slot behind i steps. -/
theorem run_slot (hf : DrawFacts ops an ks) (hs : ∀ i o k, ops[i]? = some o → ks[i]? = some k → StepAt P G wr ops k o (E i) (E (i + 1)) (S i) (S (i + 1)) (v i)) :
    ∀ i, i ≤ ops.size → EnvOf ops E v (fun j => j < i) (E i)
  | 0, _, t => ⟨fun _ _ _ h => absurd h (Nat.not_lt_zero _), fun _ => rfl⟩
  | i + 1, hi, t => by
    have ho : ops[i]? = some ops[i] := by simp
    have hk : ks[i]? = some (ks[i]'(by rw [hf.len]; omega)) := by simp
    have he := (hs i _ _ ho hk).1
    obtain ⟨h1, h2⟩ := run_slot hf hs i (by omega) t
    have hput : E (i + 1) t = if ops[i].dst = some t then v i else E i t := by
      rw [he]
      cases hd : ops[i].dst with
      | none => simp [updO]
      | some d =>
        simp only [updO, upd_at]
        by_cases e : t = d
        · simp [e]
        · rw [if_neg e, if_neg (by simpa using Ne.symm e)]
    refine ⟨fun j o hj hlt hd => ?_, fun hn => ?_⟩
    · rw [hput]
      by_cases e : j = i
      · subst e; rw [ho] at hj; cases hj; rw [if_pos hd]
      · rw [if_neg (hf.uniq i j _ o t ho hj e hd)]
        exact h1 j o hj (by omega) hd
    · rw [hput, if_neg (hn i _ ho (by omega))]
      exact h2 fun j o hj hlt => hn j o hj (by omega)

/-- What an operation that is ready looks at is as in the text's run. -/
theorem agree {L : Nat → Prop} (hf : DrawFacts ops an ks) (hs : ∀ i o k, ops[i]? = some o → ks[i]? = some k → StepAt P G wr ops k o (E i) (E (i + 1)) (S i) (S (i + 1)) (v i))
    (hL : Down ops L) {i : Nat} {o : Oper} (ho : ops[i]? = some o) (hi : ¬ L i) (hr : ∀ e ∈ o.after, Region.binds .any e = true → L e.on) {e : Env} (he : EnvOf ops E v L e) {t : Nat} (ht : t ∈ o.looksAt ops) : e t = E i t := by
  have hlt : i < ops.size := (Array.getElem?_eq_some_iff.1 ho).1
  obtain ⟨r1, r2⟩ := run_slot hf hs i (by omega) t
  have before : ∀ j p, ops[j]? = some p → j ≠ i → p.dst = some t → j < i → L j := fun j p hj hne hd hji => by
    rcases hf.look i j o p t ho hj hne hd ht with ⟨_, hb⟩ | ⟨hij, _⟩
    · obtain ⟨x, hx, hxb, h⟩ := hf.anc i o j ho (by omega) hb
      have hLx := hr x hx hxb
      rcases h with rfl | h
      · exact hLx
      · have hxs : x.on < ops.size := by have := hf.back i o x ho hx hxb; omega
        exact hL.anc hf x.on ops[x.on] j (by simp [hxs]) hLx (by omega) h
    · omega
  have behind : ∀ j p, ops[j]? = some p → j ≠ i → p.dst = some t → i < j → ¬ L j := fun j p hj hne hd hij hLj => by
    rcases hf.look i j o p t ho hj hne hd ht with ⟨hji, _⟩ | ⟨_, hb⟩
    · omega
    · exact hi (hL.anc hf j p i hj hLj hlt hb)
  by_cases hw : ∃ (j : Nat) (p : Oper), ops[j]? = some p ∧ p.dst = some t ∧ j < i
  · obtain ⟨j, p, hj, hd, hji⟩ := hw
    rw [(he t).1 j p hj (before j p hj (by omega) hd hji) hd, r1 j p hj hji hd]
  · have e1 : e t = E 0 t := (he t).2 fun j p hj hLj hd => by
      rcases Nat.lt_trichotomy j i with h | h | h
      · exact hw ⟨j, p, hj, hd, h⟩
      · exact hi (h ▸ hLj)
      · exact behind j p hj (by omega) hd h hLj
    rw [e1, r2 fun j p hj hji hd => hw ⟨j, p, hj, hd, hji⟩]

/-- The states between: only locals have come, where nothing else was done. -/
theorem states_ext (hf : DrawFacts ops an ks) (hs : ∀ i o k, ops[i]? = some o → ks[i]? = some k → StepAt P G wr ops k o (E i) (E (i + 1)) (S i) (S (i + 1)) (v i))
    {i : Nat} : ∀ m, i ≤ m → m ≤ ops.size → (∀ s, i ≤ s → s < m → 2 ≤ ks.getD s 0 → ks.getD s 0 = 2) → ExtA (S i) (S m) := by
  intro m him
  induction m with
  | zero => intro _ _; have : i = 0 := by omega
            subst this; exact ExtA.refl _
  | succ m ih =>
    intro hm hh
    by_cases e : i = m + 1
    · subst e; exact ExtA.refl _
    · refine (ih (by omega) (by omega) fun s h1 h2 h3 => hh s h1 (by omega) h3).trans ?_
      have hk : ks[m]? = some (ks[m]'(by rw [hf.len]; omega)) := by simp
      have hkd : ks.getD m 0 = ks[m]'(by rw [hf.len]; omega) := by rw [List.getD_eq_getElem?_getD, hk]; rfl
      rcases (hs m _ _ (show ops[m]? = some ops[m] by simp) hk).2 with ⟨_, _, _, h⟩ | ⟨_, _, _, h⟩ | ⟨_, _, _, h⟩ | ⟨_, h3, _⟩ | ⟨_, _, h⟩
      · rw [h]; exact ExtA.refl _
      · rw [h]; exact ExtA.refl _
      · exact h
      · have := hh m (by omega) (by omega) (by rw [hkd, h3]; omega)
        rw [hkd, h3] at this; omega
      · rw [h]; exact ExtA.refl _

theorem states_same (hf : DrawFacts ops an ks) (hs : ∀ i o k, ops[i]? = some o → ks[i]? = some k → StepAt P G wr ops k o (E i) (E (i + 1)) (S i) (S (i + 1)) (v i))
    {i : Nat} : ∀ m, i ≤ m → m ≤ ops.size → (∀ s, i ≤ s → s < m → ks.getD s 0 < 2) → S m = S i := by
  intro m him
  induction m with
  | zero => intro _ _; have : i = 0 := by omega
            subst this; rfl
  | succ m ih =>
    intro hm hh
    by_cases e : i = m + 1
    · subst e; rfl
    · have h0 := ih (by omega) (by omega) fun s h1 h2 => hh s h1 (by omega)
      have hk : ks[m]? = some (ks[m]'(by rw [hf.len]; omega)) := by simp
      have hkd : ks.getD m 0 = ks[m]'(by rw [hf.len]; omega) := by rw [List.getD_eq_getElem?_getD, hk]; rfl
      have hlt := hh m (by omega) (by omega)
      rw [hkd] at hlt
      rcases (hs m _ _ (show ops[m]? = some ops[m] by simp) hk).2 with ⟨_, _, _, h⟩ | ⟨_, _, _, h⟩ | ⟨_, h3, _⟩ | ⟨_, h3, _⟩ | ⟨_, _, h⟩
      · rw [h, h0]
      · rw [h, h0]
      · omega
      · omega
      · rw [h, h0]

/-- How many are listed. -/
def cnt (n : Nat) (listed : Array Bool) : Nat := (List.range n).countP fun i => listed.getD i false

theorem cnt_set {n i : Nat} {listed : Array Bool} (hn : listed.size = n) (hi : i < n) (hf : listed.getD i false = false) : cnt n (listed.setIfInBounds i true) = cnt n listed + 1 := by
  unfold cnt
  have key : ∀ m, m ≤ n → (List.range m).countP (fun j => (listed.setIfInBounds i true).getD j false) = (List.range m).countP (fun j => listed.getD j false) + if i < m then 1 else 0 := by
    intro m
    induction m with
    | zero => intro _; simp
    | succ m ih =>
      intro hm
      rw [List.range_succ, List.countP_append, List.countP_append, ih (by omega)]
      simp only [List.countP_singleton]
      by_cases e : i = m
      · subst e
        simp [Array.getD_eq_getD_getElem?, hn, hi] at hf ⊢
        simp [hf]
      · have : (listed.setIfInBounds i true).getD m false = listed.getD m false := by
          simp [Array.getD_eq_getD_getElem?, e]
        rw [this]
        by_cases h1 : i < m
        · have h2 : i < m + 1 := by omega
          simp only [h1, h2, if_true]; omega
        · have h2 : ¬ i < m + 1 := by omega
          simp only [h1, h2, if_false]; omega
  rw [key n (Nat.le_refl _), if_pos hi]

theorem cnt_all {n : Nat} {listed : Array Bool} (h : cnt n listed = n) : ∀ i, i < n → listed.getD i false = true := by
  intro i hi
  unfold cnt at h
  have h' : (List.range n).countP (fun i => listed.getD i false) = (List.range n).length := by simpa using h
  exact (List.countP_eq_length.1 h') i (by simpa using hi)

theorem ready_mem {listed : Array Bool} {i : Nat} (hsz : listed.size = ops.size) (h : i ∈ Region.ready .any ops listed) :
    i < ops.size ∧ listed.getD i false = false ∧ ∀ o, ops[i]? = some o → ∀ e ∈ o.after, Region.binds .any e = true → listed.getD e.on false = true := by
  unfold Region.ready at h
  rw [List.mem_filter] at h
  obtain ⟨h1, h2⟩ := h
  have hi : i < ops.size := by simpa using h1
  rw [Bool.and_eq_true] at h2
  refine ⟨hi, ?_, fun o ho e he hb => ?_⟩
  · have := h2.1
    rw [Bool.not_eq_true'] at this
    rw [Array.getD_eq_getD_getElem?] at this ⊢
    rw [Array.getElem?_eq_getElem (by omega)] at this ⊢
    exact this
  · have := h2.2
    rw [ho] at this
    simp only [Option.map_some, Option.getD_some] at this
    rw [Array.all_eq_true_iff_forall_mem] at this
    have := this e he
    simpa [hb] using this

theorem ready_nil (hf : DrawFacts ops an ks) {listed : Array Bool} (hsz : listed.size = ops.size) (h : Region.ready .any ops listed = []) : ∀ i, i < ops.size → listed.getD i false = true := by
  intro i
  induction i using Nat.strongRecOn with
  | _ i ih =>
    intro hi
    cases hl : listed.getD i false with
    | true => rfl
    | false =>
      exfalso
      have : i ∈ Region.ready .any ops listed := by
        unfold Region.ready
        rw [List.mem_filter]
        refine ⟨by simpa using hi, ?_⟩
        rw [Bool.and_eq_true]
        refine ⟨?_, ?_⟩
        · rw [Bool.not_eq_true']
          rw [Array.getD_eq_getD_getElem?] at hl ⊢
          rw [Array.getElem?_eq_getElem (by omega)] at hl ⊢
          exact hl
        · have ho : ops[i]? = some ops[i] := by simp
          rw [ho]
          simp only [Option.map_some, Option.getD_some]
          rw [Array.all_eq_true_iff_forall_mem]
          intro e he
          cases hb : Region.binds .any e with
          | false => simp
          | true =>
            have hlt := hf.back i _ e ho he hb
            simp [ih e.on hlt (by omega)]
      rw [h] at this
      cases this

theorem draw_sound (hf : DrawFacts ops an ks) (hs : ∀ i o k, ops[i]? = some o → ks[i]? = some k → StepAt P G wr ops k o (E i) (E (i + 1)) (S i) (S (i + 1)) (v i))
    (hN : ∀ o ∈ ops.toList, ∀ x, o.dst = some x → x < N) {Prot : Nat → Prop} {Q : Exit → Act → World → Prop} :
    ∀ (fuel : Nat) (listed : Array Bool) (e : Env) (A : AH) (g : Gh) (l : Lo) (w : World) (a : Act), listed.size = ops.size → cnt ops.size listed + fuel = ops.size →
      Down ops (fun i => listed.getD i false = true) → EnvOf ops E v (fun i => listed.getD i false = true) e → StateOf ops ks S (fun i => listed.getD i false = true) A →
      Rel P G g l A wr Prot w → Ag g l N e a → (∀ a' w', Post P G wr N g l Prot w (fun e' A' => e' = E ops.size ∧ A' = S ops.size) a' w' → Q .normal a' w') →
      wpAny P .any ops Q fuel listed a w := by
  have fin : ∀ (listed : Array Bool) (e : Env) (A : AH) (g : Gh) (l : Lo) (w : World) (a : Act), listed.size = ops.size → (∀ i, i < ops.size → listed.getD i false = true) →
      EnvOf ops E v (fun i => listed.getD i false = true) e → StateOf ops ks S (fun i => listed.getD i false = true) A →
      Rel P G g l A wr Prot w → Ag g l N e a → Post P G wr N g l Prot w (fun e' A' => e' = E ops.size ∧ A' = S ops.size) a w := by
    intro listed e A g l w a _ hall he hA hr ha
    have hee : e = E ops.size := funext fun t => by
      obtain ⟨r1, r2⟩ := run_slot hf hs ops.size (Nat.le_refl _) t
      by_cases hw : ∃ (j : Nat) (p : Oper), ops[j]? = some p ∧ p.dst = some t
      · obtain ⟨j, p, hj, hd⟩ := hw
        have hlt := (Array.getElem?_eq_some_iff.1 hj).1
        rw [(he t).1 j p hj (hall j hlt) hd, r1 j p hj hlt hd]
      · rw [(he t).2 fun j p hj _ hd => hw ⟨j, p, hj, hd⟩, r2 fun j p hj _ hd => hw ⟨j, p, hj, hd⟩]
    obtain ⟨m, hm, rfl, h1, h2⟩ := hA
    have hSS : S ops.size = S m := states_same hf hs ops.size hm (Nat.le_refl _) fun s h3 h4 => by
      rcases Nat.lt_or_ge (ks.getD s 0) 2 with h | h
      · exact h
      · exact absurd (hall s h4) (h2 s h3 h4 h)
    exact ⟨e, S m, g, l, ⟨hee, hSS.symm⟩, Fr.refl _ _ _, Lo.le.refl _, hr, ha⟩
  intro fuel
  induction fuel with
  | zero =>
    intro listed e A g l w a hsz hc hd he hA hr ha hQ
    have hall := cnt_all (by simpa using hc)
    refine ⟨?_, hQ a w (fin listed e A g l w a hsz hall he hA hr ha)⟩
    rw [List.eq_nil_iff_forall_not_mem]
    intro i hi
    obtain ⟨h1, h2, _⟩ := ready_mem hsz hi
    rw [hall i h1] at h2; cases h2
  | succ fuel ih =>
    intro listed e A g l w a hsz hc hd he hA hr ha hQ
    refine ⟨fun h0 => hQ a w (fin listed e A g l w a hsz (ready_nil hf hsz h0) he hA hr ha), fun i hi => ?_⟩
    obtain ⟨hlt, hnot, hready⟩ := ready_mem hsz hi
    have ho : ops[i]? = some ops[i] := by simp
    have hkl : i < ks.length := by rw [hf.len]; exact hlt
    have hk : ks[i]? = some ks[i] := by simp
    have hkd : ks.getD i 0 = ks[i] := by rw [List.getD_eq_getElem?_getD, hk]; rfl
    have hag : ∀ t, t ∈ ops[i].looksAt ops → e t = E i t := fun t ht => agree hf hs hd ho (by rw [hnot]; simp) (hready _ ho) he ht
    have hset : ∀ j, (listed.setIfInBounds i true).getD j false = true ↔ (listed.getD j false = true ∨ j = i) := fun j => by
      by_cases ej : i = j
      · subst ej; simp [Array.getD_eq_getD_getElem?, hsz, hlt]
      · simp [Array.getD_eq_getD_getElem?, ej, Ne.symm ej]
    have hdown : Down ops (fun j => (listed.setIfInBounds i true).getD j false = true) := fun j o x hj hLj hx hb => by
      refine (hset _).2 (.inl ?_)
      rcases (hset j).1 hLj with h | rfl
      · exact hd j o x hj h hx hb
      · exact hready o hj x hx hb
    have hcnt : cnt ops.size (listed.setIfInBounds i true) + fuel = ops.size := by rw [cnt_set hsz hlt hnot]; omega
    have hstep := hs i _ _ ho hk
    -- the slots behind this step
    have henv : EnvOf ops E v (fun j => (listed.setIfInBounds i true).getD j false = true) (updO e ops[i].dst (v i)) := fun t => by
      have hput : updO e ops[i].dst (v i) t = if ops[i].dst = some t then v i else e t := by
        cases hdd : ops[i].dst with
        | none => simp [updO]
        | some d =>
          simp only [updO, upd_at]
          by_cases et : t = d
          · simp [et]
          · rw [if_neg et, if_neg (by simpa using Ne.symm et)]
      refine ⟨fun j o hj hLj hdj => ?_, fun hn => ?_⟩
      · rw [hput]
        by_cases ej : j = i
        · subst ej; rw [ho] at hj; cases hj; rw [if_pos hdj]
        · rw [if_neg (hf.uniq i j _ o t ho hj ej hdj)]
          exact (he t).1 j o hj (((hset j).1 hLj).resolve_right ej) hdj
      · rw [hput, if_neg (hn i _ ho ((hset i).2 (.inr rfl)))]
        exact (he t).2 fun j o hj hLj => hn j o hj ((hset j).2 (.inl hLj))
    obtain ⟨m, hm, hAm, hm1, hm2⟩ := hA
    -- what has been done of the changes
    have early : ∀ s, s < i → 2 ≤ ks.getD s 0 → listed.getD s false = true := fun s hsi h2 => by
      rcases hf.st i s hlt (by omega) (by omega) h2 with ⟨_, hb⟩ | ⟨h, _⟩
      · obtain ⟨x, hx, hxb, h⟩ := hf.anc i _ s ho (by omega) hb
        have hLx := hready _ ho x hx hxb
        rcases h with rfl | h
        · exact hLx
        · have hxs : x.on < ops.size := by have := hf.back i _ x ho hx hxb; omega
          exact hd.anc hf x.on ops[x.on] s (by simp [hxs]) hLx (by omega) h
      · omega
    have late : ∀ s, i < s → s < ops.size → 2 ≤ ks.getD s 0 → listed.getD s false = true → (ks.getD s 0 = 2 ∧ ks.getD i 0 < 2) ∨ (ks.getD s 0 = 3 ∧ ks.getD i 0 = 0) := fun s his hss h2 hLs => by
      rcases hf.st i s hlt hss (by omega) h2 with ⟨h, _⟩ | ⟨_, h⟩
      · omega
      · rcases h with hb | h
        · have : listed.getD i false = true := hd.anc hf s ops[s] i (by simp [hss]) hLs hlt hb
          rw [hnot] at this; cases this
        · exact h
    have hearlym : ∀ s, m ≤ s → s < i → ks.getD s 0 < 2 := fun s h1 h2 => by
      rcases Nat.lt_or_ge (ks.getD s 0) 2 with h | h
      · exact h
      · exact absurd (early s h2 h) (hm2 s h1 (by omega) h)
    have small : ks.getD i 0 < 2 → StateOf ops ks S (fun j => (listed.setIfInBounds i true).getD j false = true) A := fun hki =>
      ⟨m, hm, hAm, fun s h1 h2 => (hset s).2 (.inl (hm1 s h1 h2)), fun s h1 h3 h2 hL => by
        rcases (hset s).1 hL with h | rfl
        · exact hm2 s h1 h3 h2 h
        · omega⟩
    -- a change: all before are done, none behind
    have big : 2 ≤ ks.getD i 0 → A = S i ∧ ∀ A', A' = S (i + 1) → StateOf ops ks S (fun j => (listed.setIfInBounds i true).getD j false = true) A' := fun hki => by
      have nolate : ∀ s, i < s → s < ops.size → 2 ≤ ks.getD s 0 → ¬ listed.getD s false = true := fun s h1 h2 h3 hL => by
        rcases late s h1 h2 h3 hL with ⟨_, h⟩ | ⟨_, h⟩ <;> omega
      refine ⟨?_, fun A' hA' => ⟨i + 1, hlt, hA', fun s h1 h2 => ?_, fun s h1 h3 h2 hL => ?_⟩⟩
      · rw [hAm]
        rcases Nat.le_total m i with h | h
        · exact (states_same hf hs i h (by omega) hearlym).symm
        · refine states_same hf hs m h hm fun s h1 h2 => ?_
          rcases Nat.lt_or_ge (ks.getD s 0) 2 with h' | h'
          · exact h'
          · have hLs := hm1 s h2 h'
            rcases Nat.eq_or_lt_of_le h1 with rfl | h1
            · rw [hnot] at hLs; cases hLs
            · exact absurd hLs (nolate s h1 (by omega) h')
      · by_cases es : s = i
        · exact (hset s).2 (.inr es)
        · exact (hset s).2 (.inl (early s (by omega) h2))
      · rcases (hset s).1 hL with h | rfl
        · exact nolate s (by omega) h3 h2 h
        · omega
    have hwant : ∀ {b}, wantedD ops (E i) ops[i] = some b → Region.wanted ops[i] (yielded ops a.tmps) = b := fun {b} hw =>
      wanted_of (env := E i) (g := g) (l := l) ops ops[i] hw fun t ht => by
        rw [← hag t (by simpa using ht)]; exact ha.tmps t
    have hops : ∀ x ∈ ops[i].op.operands, rep g l (evalD G (E i) x) (a.eval x) := fun x hx => by
      cases x with
      | tmp t =>
        have : t ∈ ops[i].looksAt ops := List.mem_append_left _ (List.mem_filterMap.2 ⟨.tmp t, by simpa using hx, rfl⟩)
        simp only [evalD]
        rw [← hag t this]
        exact ha.tmps t
      | const c => simp [evalD, Act.eval, rep]
      | global c => exact rep_mono (Gh.le.refl _) _ (Lo.le.none _) (hr.glob c)
      | func f => simp only [evalD, Act.eval, rep]; exact ⟨[], [], rfl, by simp [repL], by simp [repL]⟩
    have hmem : ops[i] ∈ ops.toList := by simp
    have goOn : ∀ (A' : AH) (g' : Gh) (l' : Lo) (w' : World) (cv : Value), StateOf ops ks S (fun j => (listed.setIfInBounds i true).getD j false = true) A' → Fr Prot g g' w w' → l.le l' → Rel P G g' l' A' wr Prot w' → rep g' l' (v i) cv →
        wpAny P .any ops Q fuel (listed.setIfInBounds i true) (a.put ops[i].dst cv) w' := fun A' g' l' w' cv hA' hfr hl hr' hv =>
      ih _ _ _ g' l' w' _ (by simpa using hsz) hcnt hdown henv hA' hr' ((ha.mono hfr.le hl).put (fun x hx => hN _ hmem x hx) hv) fun a' w'' hp => hQ a' w'' (hp.of_later hfr hl)
    unfold wpOp
    simp only [ho]
    rcases hstep.2 with ⟨hw, hk0, hq, _⟩ | ⟨hw, hk1, hq, _⟩ | ⟨hw, hk2, hq, _⟩ | ⟨hw, hk3, hq⟩ | ⟨hw, hv0, hSS⟩
    · rw [if_pos (hwant hw)]
      exact .inl (hq g l Prot w a A trivial hr hops _ _ fun g' w' cv hfr hr' hv => goOn A g' l w' cv (small (by rw [hkd, hk0]; omega)) hfr (Lo.le.refl _) hr' hv)
    · rw [if_pos (hwant hw)]
      have hext : ExtA (S i) A := by
        rw [hAm]
        rcases Nat.le_total m i with h | h
        · rw [states_same hf hs i h (by omega) hearlym]; exact ExtA.refl _
        · refine states_ext hf hs m h hm fun s h1 h2 h3 => ?_
          have hLs := hm1 s h2 h3
          rcases Nat.eq_or_lt_of_le h1 with rfl | h1
          · rw [hnot] at hLs; cases hLs
          · rcases late s h1 (by omega) h3 hLs with ⟨h, _⟩ | ⟨_, h⟩
            · exact h
            · rw [hkd, hk1] at h; cases h
      exact .inl (hq g l Prot w a A hext hr hops _ _ fun g' w' cv hfr hr' hv => goOn A g' l w' cv (small (by rw [hkd, hk1]; omega)) hfr (Lo.le.refl _) hr' hv)
    · rw [if_pos (hwant hw)]
      obtain ⟨hA, hA'⟩ := big (by rw [hkd, hk2]; omega)
      rw [hA] at hr
      exact .inl (hq g l Prot w a hr hops _ _ fun g' l' w' cv hfr hl hr' hv => goOn _ g' l' w' cv (hA' _ rfl) hfr hl hr' hv)
    · rw [if_pos (hwant hw)]
      obtain ⟨hA, hA'⟩ := big (by rw [hkd, hk3]; omega)
      rw [hA] at hr
      exact .inl (hq g l Prot w a hr hops _ _ fun g' l' w' cv hfr hl hr' hv => goOn _ g' l' w' cv (hA' _ rfl) hfr hl hr' hv)
    · rw [if_neg (by rw [hwant hw]; simp)]
      have hrv : rep g l (v i) undef := by rw [hv0]; simp [rep]
      rcases Nat.lt_or_ge (ks.getD i 0) 2 with h | h
      · exact goOn A g l w undef (small h) (Fr.refl _ _ _) (Lo.le.refl _) hr hrv
      · obtain ⟨hA, hA'⟩ := big h
        exact goOn A g l w undef (hA' A (by rw [hA, hSS])) (Fr.refl _ _ _) (Lo.le.refl _) hr hrv

end

section
variable {P : Program} {G : Nat → D} {wr : Bool} {N : Nat}

/-- A region whose order is drawn. -/
theorem region_draw_sound (hm : P.follows .mixedOrders = true) (id : Nat) (ops : Array Oper) (hN : ∀ o ∈ ops.toList, ∀ x, o.dst = some x → x < N) {an ks : List Nat} (hok : drawOK ops an ks = true)
    {K : Env → AH → Prop} {env : Env} {A : AH} (h : adraw P G wr ops ks ops.toList env A K) {g : Gh} {l : Lo} {Prot : Nat → Prop} {w : World} {a : Act} (hr : Rel P G g l A wr Prot w) (ha : Ag g l N env a)
    {Q : Exit → Act → World → Prop} (hQ : ∀ a' w', Post P G wr N g l Prot w K a' w' → Q .normal a' w') : (Code.region id ops true).wp P Q a w := by
  obtain ⟨E, S, v, hE, hS, hsteps, hK⟩ := adraw_run ops ks ops.toList env A h
  have hf := drawOK.facts hok
  have hs : ∀ i o k, ops[i]? = some o → ks[i]? = some k → StepAt P G wr ops k o (E i) (E (i + 1)) (S i) (S (i + 1)) (v i) := fun i o k ho hk => hsteps i o k (by rw [Array.getElem?_toList]; exact ho) hk
  refine wp_region_any hm ?_
  have hrd : Rel P G g l A wr Prot { w with drawn := w.drawn + 1 } := hr.of_heap rfl
  have none_ : ∀ i, (Array.replicate ops.size false).getD i false = false := fun i => by
    simp [Array.getD_eq_getD_getElem?, Array.getElem?_replicate]
    split <;> rfl
  have none' : ∀ i, ¬ (Array.replicate ops.size false).getD i false = true := fun i e => by rw [none_] at e; cases e
  refine draw_sound hf hs hN ops.size _ (E 0) (S 0) g l _ a (by simp) ?_ (fun i o e _ hL => absurd hL (none' i)) ?_ ?_ (hS ▸ hrd) (hE ▸ ha) ?_
  · unfold cnt
    have : (List.range ops.size).countP (fun i => (Array.replicate ops.size false).getD i false) = 0 := by
      rw [List.countP_eq_zero]; intro i _; rw [none_]; simp
    omega
  · exact fun t => ⟨fun i o _ hL => absurd hL (none' i), fun _ => rfl⟩
  · exact ⟨0, Nat.zero_le _, rfl, fun s h => absurd h (Nat.not_lt_zero _), fun s _ _ _ hL => none' s hL⟩
  · intro a' w' ⟨env', A', g', l', ⟨h1, h2⟩, h3, h4, h5, h6⟩
    subst h1; subst h2
    have hlen : ops.toList.length = ops.size := by simp
    rw [hlen] at hK
    exact hQ a' w' ⟨_, _, g', l', hK, (Fr.of_heap rfl ⟨rfl, rfl⟩ : Fr Prot g g w { w with drawn := w.drawn + 1 }).trans h3, h4, h5, h6⟩

end
end Go.Abs
