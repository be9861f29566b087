/-
  The abstract logic, part L: the forms of the steps that a printed walk uses.
-/
import Derived.Test.YtjobmjfdlkjaoaaGreatDoorZAbsK
import Derived.Laws.IdiomStrings
namespace Go.Abs
set_option linter.unusedVariables false
set_option linter.unusedSimpArgs false
section
variable {P : Program} {G : Nat → D} {A A' : AH} {wr : Bool} {o : Oper} {ρ : Operand → D} {S : AH → Prop}

/-- No interface type. -/
class NI (P : Program) (T : TypeId) : Prop where
  eq : ∃ du, P.underlying T = some du ∧ ∀ ms, du ≠ .interface ms
theorem q_ifc {T : TypeId} [hT : NI P T] {x : Operand} {d : D} (ho : o.op = .makeInterface T x) (hx : ρ x = d) : AQ P G wr o ρ S (.ifc T d) := by
  obtain ⟨du, h1, h2⟩ := hT.eq
  haveI : UN P T du := ⟨h1⟩
  exact q_iface ho h2 hx
theorem q_asr {T U : TypeId} [hU : NI P U] {x : Operand} {d : D} (ho : o.op = .typeAssert x T U false) (hx : ρ x = .ifc U d) : AQ P G wr o ρ S d := by
  obtain ⟨du, h1, h2⟩ := hU.eq
  haveI : UN P U du := ⟨h1⟩
  exact q_assert ho h2 hx
theorem is_sc {x : D} {v : Value} (h : x = .sc v) : x = .sc v := h
theorem is_scb {x : D} {b : Bool} (h : x = .sc (.bool b)) : x = .sc (.bool b) := h
theorem is_im {x : D} {cs : List D} {n : Nat} (h : x = .im cs n) : x = .im cs n := h
theorem is_lit {x : D} {cs : List D} {n : Nat} (h : x = .lit cs n) : x = .lit cs n := h
theorem is_gs {x : D} {t e : Nat} {cs : List D} {n : Nat} (h : x = .gs t e cs n) : x = .gs t e cs n := h
theorem is_ms {x : D} {i o n : Nat} (h : x = .ms i o n) : x = .ms i o n := h
theorem is_box {x : D} {i o : Nat} (h : x = .box i o) : x = .box i o := h
theorem is_hp {x : D} {i o : Nat} (h : x = .hp i o) : x = .hp i o := h
theorem is_pin {x : D} {cs : List D} {o : Nat} (h : x = .pin cs o) : x = .pin cs o := h
theorem is_fn {x : D} {f : FuncId} {a b : List D} (h : x = .fn f a b) : x = .fn f a b := h
theorem is_ifc {x : D} {t : TypeId} {d : D} (h : x = .ifc t d) : x = .ifc t d := h

theorem q_mv {x : Operand} {d : D} (ho : o.op = .move x ∨ o.op = .assign x) (hx : ρ x = d) : AQ P G wr o ρ S d := by
  subst hx
  rcases ho with ho | ho
  · exact q_move ho
  · exact q_assign ho
theorem q_pickT {c x y : Operand} {d : D} (ho : o.op = .pick c x y) (hc : ρ c = .sc (.bool true)) (hd : ρ x = d) : AQ P G wr o ρ S d := q_pick ho hc hd
theorem q_pickF {c x y : Operand} {d : D} (ho : o.op = .pick c x y) (hc : ρ c = .sc (.bool false)) (hd : ρ y = d) : AQ P G wr o ρ S d := q_pick ho hc hd

theorem q_les {T U : TypeId} {x y : Operand} {a b : List UInt8} (ho : o.op = .binOp .leq T x y U) (hx : ρ x = st a) (hy : ρ y = st b) : AQ P G wr o ρ S (.sc (.bool (Op.bytesLess a b || decide (a = b)))) :=
  q_bin ho hx hy guard_string fun w => by simp [binOp, Op.stringOp, ByteArray.toList_eq, Bool.beq_eq_decide_eq]
theorem q_ges {T U : TypeId} {x y : Operand} {a b : List UInt8} (ho : o.op = .binOp .geq T x y U) (hx : ρ x = st a) (hy : ρ y = st b) : AQ P G wr o ρ S (.sc (.bool (!Op.bytesLess a b))) :=
  q_bin ho hx hy guard_string fun w => by simp [binOp, Op.stringOp, ByteArray.toList_eq]

theorem as_alloc0 {T : TypeId} {by_ : Nat} {zs : List Value} [hZ : ZV P T by_ zs] {cs : List D} {id : Nat} (ho : o.op = .alloc T) (hid : A.o.length = id) (hc : zs.map D.sc = cs) :
    AS P G wr o ρ A (.box id 0) (A.push (.cells cs)) := by
  subst hid; subst hc
  have h := as_alloc (P := P) (G := G) (wr := wr) (A := A) (ρ := ρ) (k := 0) (ds := zs.map D.sc) ho (ZAs.sc zs)
  have e : A.tags 0 = A := by
    simp only [AH.tags, Nat.add_zero]
    congr 1
    funext i
    have : (Nat.ble A.ln i && Nat.blt i A.ln) = false := by
      rw [Bool.and_eq_false_iff]
      rcases Nat.lt_or_ge i A.ln with h | h
      · left
        cases hb : Nat.ble A.ln i with
        | false => rfl
        | true => have := Nat.le_of_ble_eq_true hb; omega
      · right
        cases hb : Nat.blt i A.ln with
        | false => rfl
        | true => simp [Nat.blt_eq] at hb; omega
    rw [this]; simp
  rw [e] at h
  exact h

theorem as_box0 {T : TypeId} {x : Operand} {d : D} {cs : List D} {id : Nat} (ho : o.op = .box T x) (hx : ρ x = d) (h1 : oneL (partsD d) = true) (hid : A.o.length = id) (hc : partsD d = cs) :
    AS P G wr o ρ A (.box id 0) (A.push (.cells cs)) := by
  subst hid; subst hc; exact as_box ho hx h1

theorem as_st {T : TypeId} {agg : Bool} {sz : Nat} [hT : TI P T agg sz] {x y : Operand} {id off : Nat} {d : D} {cs cs' : List D} (ho : o.op = .store T x y) (hx : ρ x = .box id off) (hy : ρ y = d) (hA : A.o[id]? = some (.cells cs)) (hl : (partsD d).length = sz) (h1 : oneL (partsD d) = true) (hfit : off + sz ≤ cs.length) (hs : splice cs off (partsD d) = cs') :
    AS P G wr o ρ A (.sc undef) (A.set id (.cells cs')) := by subst hs; exact as_store ho hx hy hA hl h1 hfit

theorem q_bs {T e : TypeId} {by_ : Nat} {zs : List Value} {n : Nat} {parts : Array (Nat × Operand)} [hT : UN P T (.slice e)] [hZ : ZV P e by_ zs] {ps : List (Nat × D)} {cs cs' : List D} (ho : o.op = .buildSlice T n parts) (hps : (parts.toList.map fun p => (p.1, ρ p.2)) = ps) (hn : 0 < n * zs.length) (hn' : n * zs.length ≤ 16777216) (h : fillD (fun i => some (i * zs.length, zs.length)) ((List.range (n * zs.length)).map fun i => .sc (zs.getD (i % zs.length) undef)) ps = some cs) (hc : fzL cs = cs') (he : ext.extL cs' = true) (h1 : oneL cs = true) : AQ P G wr o ρ S (.lit cs' n) := by
  subst hc; exact q_buildSlice ho hps hn hn' h he h1

variable {ops : Array Oper} {rest : List Oper} {env : Env} {K : Env → AH → Prop}
theorem s_uq {v : D} (hw : wantedD ops env o = some true) (hd : o.dst = none) (h : AQ P G wr o (evalD G env) (ExtA A) v) (hk : aops P G wr ops rest env A K) : aops P G wr ops (o :: rest) env A K :=
  .inl ⟨hw, (h.as (ExtA.refl A)).op (by rw [hd]; exact hk)⟩
theorem s_ou (hw : wantedD ops env o = some true) (hd : o.dst = none) (h : AOp P G wr o (evalD G env) A fun _ A' => aops P G wr ops rest env A' K) : aops P G wr ops (o :: rest) env A K :=
  .inl ⟨hw, h.mono fun v A' hh => by rw [hd]; exact hh⟩
theorem sub_no {h : Heap} : Sub noHeap h := fun _ _ e => by cases e

theorem pt_nil {f : Nat × Operand → Nat × D} : ([] : List (Nat × Operand)).map f = [] := rfl
theorem pt_cons {i : Nat} {x : Operand} {rest : List (Nat × Operand)} {d : D} {ds : List (Nat × D)} (hx : ρ x = d) (hr : (rest.map fun p => (p.1, ρ p.2)) = ds) : (((i, x) :: rest).map fun p => (p.1, ρ p.2)) = (i, d) :: ds := by
  simp [hx, hr]

/-! Bytes. -/
def bc (l : List UInt8) : List D := l.map fun b => .sc (.int .u8 (b.toNat : Int))
theorem q_csb {T U e : TypeId} [hT : UN P T (.slice e)] [hE : UN P e (.int .u8)] [hU : UN P U .string] {x : Operand} {d : D} {cs : List D} {n : Nat} {l : List UInt8} (ho : o.op = .convert T U x) (hx : ρ x = d) (hd : slc d = some (cs, n)) (hb : cs = bc l) (hn : n = l.length) : AQ P G wr o ρ S (st l) :=
  AQ.run fun g lo _ w a A _ hr hops => by
    have hx0 := hops x (by simp [ho, Op.operands])
    rw [hx] at hx0
    subst hb; subst hn
    refine ⟨str l, ?_, by simp [rep]⟩
    rcases rep_slc hd hx0 with ⟨h1, _, h2⟩ | ⟨b, oo, cap, h2, _, h3⟩
    · have : l = [] := List.eq_nil_of_length_eq_zero h1
      subst this
      simp [execOp, ho, h2, run_convert_bytes_string w T U e none 0 0 hT.eq hE.eq hU.eq, Conv.bytesToString]
      rfl
    · have := run_convert_bytes_back (P := P) w T U e ⟨b, oo, none⟩ cap l hT.eq hE.eq hU.eq fun j hj => by
        obtain ⟨v, h4, _, h5⟩ := repS_get h3 j (.sc (.int .u8 (l[j].toNat : Int))) (by simp [bc, hj])
        simp only [rep] at h5
        rw [addr_add, ← h5]; exact hr.sld _ _ _ h4
      simp only [execOp, ho, h2, Sem.run_bind, this, Result.andThen_ok, Sem.run_pure]

/-! Drawn regions. -/
variable {Q : Exit → Env → AH → Prop} {ks : List Nat}
theorem w_draw {id : Nat} (an ks : List Nat) (hok : drawOK ops an ks = true) (h : adraw P G wr ops ks ops.toList env A (Q .normal)) : aw P G wr (.region id ops true) Q env A := ⟨an, ks, hok, h⟩
theorem d_nil (h : K env A) : adraw P G wr ops [] [] env A K := h
theorem d_q0 {v : D} {d : Nat} (hw : wantedD ops env o = some true) (hd : o.dst = some d) (h : AQ P G wr o (evalD G env) (fun _ => True) v) (hk : adraw P G wr ops ks rest (upd env d v) A K) : adraw P G wr ops (0 :: ks) (o :: rest) env A K :=
  .inl ⟨hw, rfl, v, h, by rw [hd]; exact hk⟩
theorem d_uq0 {v : D} (hw : wantedD ops env o = some true) (hd : o.dst = none) (h : AQ P G wr o (evalD G env) (fun _ => True) v) (hk : adraw P G wr ops ks rest env A K) : adraw P G wr ops (0 :: ks) (o :: rest) env A K :=
  .inl ⟨hw, rfl, v, h, by rw [hd]; exact hk⟩
theorem d_q1 {v : D} {d : Nat} (hw : wantedD ops env o = some true) (hd : o.dst = some d) (h : AQ P G wr o (evalD G env) (ExtA A) v) (hk : adraw P G wr ops ks rest (upd env d v) A K) : adraw P G wr ops (1 :: ks) (o :: rest) env A K :=
  .inr (.inl ⟨hw, rfl, v, h, by rw [hd]; exact hk⟩)
theorem d_s3 {v : D} {d : Nat} (hw : wantedD ops env o = some true) (hd : o.dst = some d) (h : AS P G wr o (evalD G env) A v A') (hk : adraw P G wr ops ks rest (upd env d v) A' K) : adraw P G wr ops (3 :: ks) (o :: rest) env A K :=
  .inr (.inr (.inr (.inl ⟨hw, rfl, v, A', h, by rw [hd]; exact hk⟩)))
theorem d_u3 {v : D} (hw : wantedD ops env o = some true) (hd : o.dst = none) (h : AS P G wr o (evalD G env) A v A') (hk : adraw P G wr ops ks rest env A' K) : adraw P G wr ops (3 :: ks) (o :: rest) env A K :=
  .inr (.inr (.inr (.inl ⟨hw, rfl, v, A', h, by rw [hd]; exact hk⟩)))
theorem d_s2 {v : D} {d : Nat} {ob : LO} (hw : wantedD ops env o = some true) (hd : o.dst = some d) (h : AS P G wr o (evalD G env) A v (A.push ob)) (hk : adraw P G wr ops ks rest (upd env d v) (A.push ob) K) : adraw P G wr ops (2 :: ks) (o :: rest) env A K :=
  .inr (.inr (.inl ⟨hw, rfl, v, A.push ob, h, ExtA.push A ob, by rw [hd]; exact hk⟩))
theorem d_off {d k : Nat} (hw : wantedD ops env o = some false) (hd : o.dst = some d) (hk : adraw P G wr ops ks rest (upd env d (.sc undef)) A K) : adraw P G wr ops (k :: ks) (o :: rest) env A K :=
  .inr (.inr (.inr (.inr ⟨hw, by rw [hd]; exact hk⟩)))
theorem d_offU {k : Nat} (hw : wantedD ops env o = some false) (hd : o.dst = none) (hk : adraw P G wr ops ks rest env A K) : adraw P G wr ops (k :: ks) (o :: rest) env A K :=
  .inr (.inr (.inr (.inr ⟨hw, by rw [hd]; exact hk⟩)))
theorem d_split (t : Nat) {b : Bool} (ht : env t = .sc (.bool b)) (h1 : b = true → adraw P G wr ops ks rest (upd env t (.sc (.bool true))) A K) (h0 : b = false → adraw P G wr ops ks rest (upd env t (.sc (.bool false))) A K) : adraw P G wr ops ks rest env A K := by
  cases b with
  | true => have := h1 rfl; rw [← ht, upd_self] at this; exact this
  | false => have := h0 rfl; rw [← ht, upd_self] at this; exact this

/-! Loops of few rounds. -/
theorem least_of (p : Nat → Prop) : ∀ n, p n → ∃ m, p m ∧ ∀ k, p k → m ≤ k := by
  intro n
  induction n using Nat.strongRecOn with
  | ind n ih =>
    intro hn
    by_cases h : ∃ k, k < n ∧ p k
    · obtain ⟨k, h1, h2⟩ := h; exact ih k h1 h2
    · exact ⟨n, hn, fun k hk => Nat.le_of_not_lt fun hlt => h ⟨k, hlt, hk⟩⟩
noncomputable def least (p : Nat → Prop) : Nat := open Classical in if h : ∃ m, p m ∧ ∀ k, p k → m ≤ k then Classical.choose h else 0
theorem least_spec {p : Nat → Prop} {n : Nat} (h : p n) : p (least p) ∧ ∀ k, p k → least p ≤ k := by
  have h' := least_of p n h
  unfold least
  rw [dif_pos h']
  exact Classical.choose_spec h'

def unroll (P : Program) (G : Nat → D) (wr : Bool) (c : Code) (Q : Exit → Env → AH → Prop) : Nat → Env → AH → Prop
  | 0 => aw P G wr c (thenQ (fun _ _ => False) Q)
  | n + 1 => aw P G wr c (thenQ (unroll P G wr c Q n) Q)
theorem w_unroll {c : Code} {Q : Exit → Env → AH → Prop} (n : Nat) (h : unroll P G wr c Q n env A) : aw P G wr (.loop c) Q env A := by
  refine ⟨fun e a => ∃ k, unroll P G wr c Q k e a, fun e a => least fun k => unroll P G wr c Q k e a, ⟨n, h⟩, fun e a hI => ?_⟩
  obtain ⟨n, hn⟩ := hI
  have hk := (least_spec (p := fun k => unroll P G wr c Q k e a) hn).1
  show aw P G wr c (thenQ (fun e' a' => (∃ k, unroll P G wr c Q k e' a') ∧ (least fun k => unroll P G wr c Q k e' a') < (least fun k => unroll P G wr c Q k e a)) Q) e a
  generalize (least fun k => unroll P G wr c Q k e a) = k at *
  cases k with
  | zero =>
    exact aw_mono c hk fun x e' a' h' => by
      cases x with
      | normal => exact h'.elim
      | exit i => exact h'
      | ret => exact h'
      | goto i => exact h'
      | panic c => exact h'
      | outgrown => exact h'
  | succ k =>
    exact aw_mono c hk fun x e' a' h' => by
      cases x with
      | normal => exact ⟨⟨k, h'⟩, Nat.lt_succ_of_le ((least_spec (p := fun k => unroll P G wr c Q k e' a') h').2 k h')⟩
      | exit i => exact h'
      | ret => exact h'
      | goto i => exact h'
      | panic c => exact h'
      | outgrown => exact h'
theorem u_0 {c : Code} {Q : Exit → Env → AH → Prop} (h : aw P G wr c (thenQ (fun _ _ => False) Q) env A) : unroll P G wr c Q 0 env A := h
theorem u_s {c : Code} {Q : Exit → Env → AH → Prop} {n : Nat} (h : aw P G wr c (thenQ (unroll P G wr c Q n) Q) env A) : unroll P G wr c Q (n + 1) env A := h

/-! Locals behind others that are not told. -/
theorem as_allocT {T : TypeId} {by_ : Nat} {zs : List Value} [hZ : ZV P T by_ zs] {os tail : List LO} {j : Nat} {cs : List D} {live : Nat → Bool} {ln : Nat} {h : Nat → Option (List D)} (ho : o.op = .alloc T) (hA : A = ⟨os ++ tail, live, ln, h⟩) (hj : tail.length = j) (hc : zs.map D.sc = cs) :
    AS P G wr o ρ A (.box (os.length + j) 0) ⟨os ++ (tail ++ [.cells cs]), live, ln, h⟩ := by
  subst hA; subst hj
  have := as_alloc0 (P := P) (G := G) (wr := wr) (ρ := ρ) (A := ⟨os ++ tail, live, ln, h⟩) (id := os.length + tail.length) ho (by simp) hc
  have e : AH.push ⟨os ++ tail, live, ln, h⟩ (.cells cs) = ⟨os ++ (tail ++ [.cells cs]), live, ln, h⟩ := by simp [AH.push]
  rw [← e]; exact this
theorem as_boxT {T : TypeId} {x : Operand} {d : D} {os tail : List LO} {j : Nat} {cs : List D} {live : Nat → Bool} {ln : Nat} {h : Nat → Option (List D)} (ho : o.op = .box T x) (hA : A = ⟨os ++ tail, live, ln, h⟩) (hj : tail.length = j) (hx : ρ x = d) (h1 : oneL (partsD d) = true) (hc : partsD d = cs) :
    AS P G wr o ρ A (.box (os.length + j) 0) ⟨os ++ (tail ++ [.cells cs]), live, ln, h⟩ := by
  subst hA; subst hj
  have := as_box0 (P := P) (G := G) (wr := wr) (ρ := ρ) (A := ⟨os ++ tail, live, ln, h⟩) (id := os.length + tail.length) ho hx h1 (by simp) hc
  have e : AH.push ⟨os ++ tail, live, ln, h⟩ (.cells cs) = ⟨os ++ (tail ++ [.cells cs]), live, ln, h⟩ := by simp [AH.push]
  rw [← e]; exact this
theorem as_stT {T : TypeId} {agg : Bool} {sz : Nat} [hT : TI P T agg sz] {x y : Operand} {os tail tail' : List LO} {j off : Nat} {d : D} {cs cs' : List D} {live : Nat → Bool} {ln : Nat} {h : Nat → Option (List D)} (ho : o.op = .store T x y) (hA : A = ⟨os ++ tail, live, ln, h⟩)
    (hx : ρ x = .box (os.length + j) off) (hy : ρ y = d) (ht : tail[j]? = some (.cells cs)) (hl : (partsD d).length = sz) (h1 : oneL (partsD d) = true) (hfit : off + sz ≤ cs.length) (hs : splice cs off (partsD d) = cs') (ht' : tail.set j (.cells cs') = tail') :
    AS P G wr o ρ A (.sc undef) ⟨os ++ tail', live, ln, h⟩ := by
  subst hA; subst hs; subst ht'
  have := as_store (P := P) (G := G) (wr := wr) (ρ := ρ) (A := ⟨os ++ tail, live, ln, h⟩) (T := T) ho hx hy (by show (os ++ tail)[os.length + j]? = _; rw [List.getElem?_append_right (by omega)]; simpa using ht) hl h1 hfit
  have e : AH.set ⟨os ++ tail, live, ln, h⟩ (os.length + j) (.cells (splice cs off (partsD d))) = ⟨os ++ tail.set j (.cells (splice cs off (partsD d))), live, ln, h⟩ := by
    simp only [AH.set]
    congr 1
    rw [List.set_append_right _ _ (by omega)]
    simp
  rw [← e]; exact this
theorem q_loadT {T : TypeId} {agg : Bool} {sz : Nat} [hT : TI P T agg sz] {x : Operand} {os tail : List LO} {j off : Nat} {cs : List D} {v : D} {live : Nat → Bool} {ln : Nat} {h : Nat → Option (List D)} (ho : o.op = .load T x) (hA : A = ⟨os ++ tail, live, ln, h⟩)
    (hx : ρ x = .box (os.length + j) off) (ht : tail[j]? = some (.cells cs)) (hv : takeAt agg sz cs off = some v) : AQ P G wr o ρ (ExtA A) v := by
  subst hA
  exact q_load ho hx (by
    have : (os ++ tail)[os.length + j]? = some (.cells cs) := by rw [List.getElem?_append_right (by omega)]; simpa using ht
    simp only [loadD, cellsAt, this, hv])

/-! Slots of an environment. -/
def Binds (e : Env) : List (Nat × D) → Prop
  | [] => True
  | p :: l => e p.1 = p.2 ∧ Binds e l
def binds (e : Env) : List (Nat × D) → Env
  | [] => e
  | p :: l => upd (binds e l) p.1 p.2
theorem Binds.eq {e : Env} : ∀ {l : List (Nat × D)}, Binds e l → e = binds e l
  | [], _ => rfl
  | p :: l, ⟨h1, h2⟩ => by
    simp only [binds]
    rw [← h2.eq, ← h1, upd_self]

end
end Go.Abs
