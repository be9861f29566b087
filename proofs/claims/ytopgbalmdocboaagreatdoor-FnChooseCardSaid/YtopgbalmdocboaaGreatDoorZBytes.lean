/-
  The abstract logic: the bytes of a text, written one by one.
-/
import Derived.Test.YtopgbalmdocboaaGreatDoorZLib
namespace Go.Abs
set_option linter.unusedVariables false
set_option linter.unusedSimpArgs false
section
variable {P : Program} {G : Nat → D} {g g' : Gh} {l l' : Lo} {A A' : AH} {wr : Bool} {Prot : Nat → Prop} {w w' : World} {o : Oper} {ρ : Operand → D} {S : AH → Prop}

theorem repL_bytes : ∀ s : List UInt8, repL g l (bc s) (s.map fun b => Value.int .u8 (b.toNat : Int))
  | [] => by simp [bc, repL]
  | b :: s => by
    have := repL_bytes s
    simp only [bc, List.map_cons, repL] at this ⊢
    exact ⟨_, _, rfl, by simp [rep], this⟩
theorem bc_len (s : List UInt8) : (bc s).length = s.length := by simp [bc]
theorem bc_get {s : List UInt8} {i : Nat} (h : i < s.length) : (bc s)[i]? = some (.sc (.int .u8 (s[i].toNat : Int))) := by simp [bc, h]

theorem bytesRow_eq (s : List UInt8) (cap : Nat) : bytesRow ⟨⟨s⟩⟩ cap = ((s.map fun (b : UInt8) => Value.int IntKind.u8 (b.toNat : Int)) ++ List.replicate (cap - s.length) (Value.int IntKind.u8 0)).toArray := by
  unfold bytesRow
  apply Array.ext'
  rw [Array.toList_append, Array.toList_map, Array.toList_replicate]
  rfl
/-- '[]byte(s)'. -/
theorem as_bytes {T U e : TypeId} [hT : UN P T .string] [hU : UN P U (.slice e)] [hE : UN P e (.int .u8)] {x : Operand} {s : List UInt8} {id : Nat} (ho : o.op = .convert T U x) (hx : ρ x = st s) (hid : A.o.length = id) :
    AS P G wr o ρ A (.ms id 0 s.length) (A.push (.cells (bc s))) := by
  subst hid
  intro g l Prot w a hr hops K Q hk
  have hx0 := hops x (by simp [ho, Op.operands])
  rw [hx] at hx0
  simp only [rep] at hx0
  have hrun := run_bytes_of_string (P := P) w T U e ⟨⟨s⟩⟩ hT.eq hU.eq hE.eq
  have hsz : (⟨⟨s⟩⟩ : ByteArray).size = s.length := rfl
  rw [hsz] at hrun
  have hge := grownCap_ge w s.length 0 e
  generalize grownCap w s.length 0 e = cap at *
  obtain ⟨n, hn⟩ : ∃ n, (bytesRow ⟨⟨s⟩⟩ cap).size = n := ⟨_, rfl⟩
  have hnl : s.length ≤ n := by rw [← hn, bytesRow_eq]; simp
  rw [hn, bytesRow_eq] at hrun
  generalize hsp : List.replicate (cap - s.length) (Value.int .u8 0) = sp at *
  have hex : (execOp a.eval o).run P w = .ok (.value (.slice (some ⟨w.heap.size, 0, none⟩) s.length cap)) (w.drew.alloc (.cells ((s.map fun (b : UInt8) => Value.int IntKind.u8 (b.toNat : Int)) ++ sp).toArray e (n, n + 1))) := by
    simp only [execOp, ho, hx0, Sem.run_bind, hrun, Result.andThen_ok, Sem.run_pure]
  have hrd : Rel P G g l A wr Prot w.drew := hr.of_heap rfl
  have hh : Holds g (l.push A.o.length w.drew.heap.size) (w.drew.alloc (.cells ((s.map fun (b : UInt8) => Value.int IntKind.u8 (b.toNat : Int)) ++ sp).toArray e (n, n + 1))) (.cells (bc s)) w.drew.heap.size := by
    simp only [Holds]
    refine ⟨_, sp, e, (n, n + 1), heap_alloc_at _ _, repL_bytes s, fun o' ho' => ?_⟩
    rw [bc_len] at ho'
    simp only
    omega
  obtain ⟨h1, h2⟩ := hrd.alloc_local _ (.cells (bc s)) hh
  unfold Oper.wp
  rw [hex]
  refine hk g _ _ _ ?_ h2 h1 ?_
  · have k0 : Fr Prot g g w w.drew := Fr.of_heap rfl ⟨rfl, rfl⟩
    exact k0.trans (Fr.alloc hrd _)
  · simp only [rep]
    exact ⟨w.drew.heap.size, cap, by simp [Lo.push], rfl, hge⟩

/-- 'string(b)' of bytes of this call's own. -/
theorem q_csbMs {T U e : TypeId} [hT : UN P T (.slice e)] [hE : UN P e (.int .u8)] [hU : UN P U .string] {x : Operand} {id n : Nat} {s : List UInt8} (ho : o.op = .convert T U x) (hx : ρ x = .ms id 0 n) (hA : A.o[id]? = some (.cells (bc s))) (hn : n = s.length) : AQ P G wr o ρ (ExtA A) (st s) :=
  AQ.run fun g lo Prot w a A' hS hr hops => by
    have hx0 := hops x (by simp [ho, Op.operands])
    rw [hx] at hx0
    subst hn
    simp only [rep] at hx0
    obtain ⟨b, cap, hι, h2, _⟩ := hx0
    obtain ⟨b', hι', _, _, hh⟩ := hr.loc id _ (hS.o _ _ hA)
    rw [hι] at hι'; cases hι'
    simp only [Holds] at hh
    obtain ⟨vs, sp, e', f, hb, hrl, _⟩ := hh
    have := run_convert_bytes_back (P := P) w T U e ⟨b, 0, none⟩ cap s hT.eq hE.eq hU.eq fun j hj => by
      obtain ⟨v, h4, h5⟩ := repL_get hrl j _ (bc_get hj)
      simp only [rep] at h5
      rw [addr_add, ← h5]
      simp only [World.cell?, hb, Nat.zero_add]
      have := (List.getElem?_eq_some_iff.1 h4).1
      simp [List.getElem?_append_left this, h4]
    refine ⟨str s, ?_, by simp [rep]⟩
    simp only [execOp, ho, h2, Sem.run_bind, this, Result.andThen_ok, Sem.run_pure]

theorem load_bc {A : AH} {id i : Nat} {s : List UInt8} (hA : A.o[id]? = some (.cells (bc s))) (h : i < s.length) : loadD A false 1 (.box id (0 + (i : Int).toNat * 1)) = some (.sc (.int .u8 (s[i].toNat : Int))) := by
  have e : 0 + (i : Int).toNat * 1 = i := by simp
  rw [e]
  simp [loadD, cellsAt, hA, takeAt, bc_get h]
theorem splice_bc {s : List UInt8} {i : Nat} (b : UInt8) (h : i < s.length) : splice (bc s) (0 + (i : Int).toNat * 1) (partsD (.sc (.int .u8 (b.toNat : Int)))) = bc (s.set i b) := by
  have e : 0 + (i : Int).toNat * 1 = i := by simp
  rw [e]
  have hl : i < (bc s).length := by rw [bc_len]; exact h
  simp only [splice, partsD, List.length_cons, List.length_nil, Nat.zero_add]
  have : bc (s.set i b) = (bc s).set i (.sc (.int .u8 (b.toNat : Int))) := by simp [bc, List.map_set]
  rw [this, List.set_eq_take_append_cons_drop, if_pos hl]
  simp
end
/-- A small letter for a great one. -/
def lowB (b : UInt8) : UInt8 := if 65 ≤ b.toNat ∧ b.toNat ≤ 90 then UInt8.ofNat (b.toNat + 32) else b
def lowS (s : List UInt8) : List UInt8 := s.map lowB
theorem lowB_add {b : UInt8} (h1 : 65 ≤ b.toNat) (h2 : b.toNat ≤ 90) : IntKind.u8.wrap ((b.toNat : Int) + 32) = ((lowB b).toNat : Int) := by
  unfold lowB
  rw [if_pos ⟨h1, h2⟩, UInt8.toNat_ofNat']
  simp [IntKind.wrap, IntKind.signed, IntKind.bits]
theorem lowB_same {b : UInt8} (h : ¬ (65 ≤ b.toNat ∧ b.toNat ≤ 90)) : lowB b = b := if_neg h
/-- A byte of a text. -/
theorem byte_at {s : List UInt8} {i : Nat} (h : i < s.length) : s.getD (i : Int).toNat 0 = s[i] := by simp [h]
theorem low_step {s : List UInt8} {i : Nat} (h : i < s.length) : (lowS (s.take i) ++ s.drop i).set i (lowB s[i]) = lowS (s.take (i + 1)) ++ s.drop (i + 1) := by
  have hl : (lowS (s.take i)).length = i := by simp [lowS]; omega
  rw [List.set_append_right _ _ (by omega), hl, Nat.sub_self, List.drop_eq_getElem_cons h, List.set_cons_zero, List.take_succ_eq_append_getElem h]
  unfold lowS
  rw [List.map_append, List.append_assoc]; rfl
theorem low_at {s : List UInt8} {i : Nat} (h : i < s.length) (h' : i < (lowS (s.take i) ++ s.drop i).length) : (lowS (s.take i) ++ s.drop i)[i] = s[i] := by
  have hl : (lowS (s.take i)).length = i := by simp [lowS]; omega
  rw [List.getElem_append_right (by omega)]
  simp [hl]
theorem low_len {s : List UInt8} {i : Nat} (h : i ≤ s.length) : (lowS (s.take i) ++ s.drop i).length = s.length := by simp [lowS]; omega
end Go.Abs
