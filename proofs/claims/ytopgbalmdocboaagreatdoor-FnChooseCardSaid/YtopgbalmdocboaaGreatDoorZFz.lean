/- Walks of the functions, printed by program, and the logic behind them: each theorem says what one function or one step answers. -/
import Derived.Test.YtopgbalmdocboaaGreatDoorZHs
import Derived.Lib.ItoaMem
import Derived.Test.YtopgbalmdocboaaGreatDoorZFmt
import Derived.Test.YtopgbalmdocboaaGreatDoorZInj
import Derived.Test.YtopgbalmdocboaaGreatDoorZLi
import Derived.Test.YtopgbalmdocboaaGreatDoorZTx
import Derived.Lib.ItoaLen
namespace Go.Abs
set_option linter.unusedVariables false
set_option linter.unusedSimpArgs false
open Go.Sort
abbrev encB : UInt8 → Value := fun b => Value.int .u8 (b.toNat : Int)
theorem putCells_list {vs : List Value} {off : Nat} {d : Array UInt8} (h : off + d.size ≤ vs.length) : putCells encB off d vs.toArray = (vs.take off ++ d.toList.map encB ++ vs.drop (off + (d.toList.map encB).length)).toArray := by
  apply Array.ext_getElem?
  intro k
  simp only [putCells, Array.getElem?_mapIdx, List.getElem?_toArray, List.length_map, Array.length_toList]
  rcases Nat.lt_or_ge k off with h1 | h1
  · rw [List.getElem?_append_left (by simp; omega), List.getElem?_append_left (by simp; omega), List.getElem?_take_of_lt h1]
    cases vs[k]? with
    | none => rfl
    | some y => rw [Option.map_some, if_neg (by omega)]
  · rcases Nat.lt_or_ge k (off + d.size) with h2 | h2
    · rw [List.getElem?_append_left (by simp; omega), List.getElem?_append_right (by simp; omega), List.getElem?_eq_getElem (by omega), Option.map_some, if_pos ⟨h1, h2⟩]
      have hk : k - off < d.size := by omega
      have e : k - (vs.take off).length = k - off := by rw [List.length_take]; omega
      rw [e, List.getElem?_map, Array.getElem?_toList, Array.getElem?_eq_getElem hk, Option.map_some, getElem!_pos d _ hk]
    · rw [List.getElem?_append_right (by simp; omega), List.getElem?_drop]
      have e : off + d.size + (k - (vs.take off ++ d.toList.map encB).length) = k := by simp; omega
      rw [e]
      cases vs[k]? with
      | none => rfl
      | some y => rw [Option.map_some, if_neg (by omega)]
theorem ph_row {P : Program} {G : Nat → D} {f : FuncId} {h : Heap} {id off cap : Nat} {cs : List D} {bs : List UInt8} {rest : List D} {Inv : Array UInt8 → Prop}
    (hA : h id = some cs) (hcs : (cs.drop off).take bs.length = bc bs) (hlen : off + bs.length ≤ cs.length) (hd : ∀ dk, Inv dk → dk.size = bs.length)
    (H : ∀ (g : Gh) (w : World) (b : Nat) (cargs : List Value), repL g Lo.none rest cargs → Go.Sort.Holds encB w b off bs.toArray →
      Calls P f (Value.slice (some ⟨b, off, none⟩) bs.length cap :: cargs).toArray w fun e w' => e = .returned (.tuple #[]) ∧ ∃ (n : Nat) (dk : Array UInt8), w' = (putRow encB w b off dk).drewN n ∧ Inv dk) :
    ACall P G f true (.hs id off bs.length cap :: rest) h fun v h' => v = .tup [] ∧ ∃ dk, Inv dk ∧ h' = fun i => if i = id then some (splice cs off (bc dk.toList)) else h i := by
  intro g Prot w cargs hr ha
  simp only [repL] at ha
  obtain ⟨v0, r0, rfl, h1, h2⟩ := ha
  simp only [rep] at h1
  obtain ⟨b, hκ, rfl⟩ := h1
  obtain ⟨b', vs, e, hκ', hnp, hb, hrl⟩ := hr.sh id _ hA
  rw [hκ] at hκ'; cases hκ'
  have hlen' := repL_length hrl
  refine (H g w b r0 h2 fun j hj => ?_).mono fun en w' ⟨h3, n, dk, hw, hI⟩ => ?_
  · have hj' : j < bs.length := by simpa using hj
    have hg : cs[off + j]? = some (.sc (.int .u8 (bs[j].toNat : Int))) := by
      have h3 := bc_get hj'
      rw [← hcs, List.getElem?_take_of_lt hj', List.getElem?_drop] at h3
      exact h3
    obtain ⟨v, h4, h5⟩ := repL_get hrl _ _ hg
    simp only [rep] at h5
    refine ⟨?_, ?_⟩
    · rw [getElem!_pos _ j hj]
      simp only [World.cell?, hb]
      simpa [h5] using h4
    · simp [World.frozen?, hb]
  · subst hw
    have hds := hd dk hI
    have hbw : ((putRow encB w b off dk).drewN n).heap[b]? = some (.cells (vs.take off ++ dk.toList.map encB ++ vs.drop (off + (dk.toList.map encB).length)).toArray e (0, 0)) := by
      show (w.heap.modify b _)[b]? = _
      rw [Array.getElem?_modify, if_pos rfl, hb, Option.map_some, ← putCells_list (by omega)]
      rfl
    have hrb : repL g Lo.none (bc dk.toList) (dk.toList.map encB) := repL_bytes _
    have hset := hr.set_shared hA hκ (w' := (putRow encB w b off dk).drewN n) (by show (w.heap.modify b _).size = _; simp) (fun b' hb' => by
      show (w.heap.modify b _)[b']? = _
      rw [Array.getElem?_modify, if_neg (fun x => hb' x.symm)]) hbw (repL_splice hrl hrb off)
    refine ⟨_, .tup [], _, g, h3, ⟨rfl, dk, hI, rfl⟩, ⟨Gh.le.refl _, Nat.le_of_eq (by show _ = (w.heap.modify b _).size; simp), fun b' hb' => ?_, fun _ _ _ => rfl, fun _ _ _ h => h, rfl, rfl⟩, hset.1, by simp [rep, repL]⟩
    show (w.heap.modify b _)[b']? = _
    rw [Array.getElem?_modify, if_neg (by intro x; exact hset.2 (by rw [x]; exact hb'))]
end Go.Abs
namespace Go.Abs
set_option linter.unusedVariables false
set_option linter.unusedSimpArgs false
section
variable {P : Program} {G : Nat → D} {g g' : Gh} {l l' : Lo} {A A' : AH} {wr : Bool} {Prot : Nat → Prop} {w w' : World} {o : Oper} {ρ : Operand → D} {S : AH → Prop}
/-- Bytes as a slice. -/
def SrcB (A : AH) (d : D) (ys : List UInt8) : Prop := slc d = some (bc ys, ys.length) ∨ ∃ k off c cs, d = .hs k off ys.length c ∧ A.h k = some cs ∧ (cs.drop off).take ys.length = bc ys ∧ off + ys.length ≤ cs.length
theorem repL_bc_inv {g : Gh} {l : Lo} : ∀ {ys : List UInt8} {vs : List Value}, repL g l (bc ys) vs → vs = ys.map encB
  | [], vs, h => by simpa [bc, repL] using h
  | y :: ys, vs, h => by
    simp only [bc, List.map_cons, repL] at h
    obtain ⟨v, r, rfl, h1, h2⟩ := h
    simp only [rep] at h1
    rw [h1, repL_bc_inv h2]; rfl
theorem src_vals {d : D} {ys : List UInt8} (hr : Rel P G g l A wr Prot w) {x : Value} (h : SrcB A d ys) (hx : rep g l d x) (hm : 0 < ys.length) :
    ∃ b oo cap, x = .slice (some ⟨b, oo, none⟩) ys.length cap ∧ ∀ j u, (ys.map encB)[j]? = some u → w.cell? ((⟨b, oo, none⟩ : Addr).add j) = some u := by
  rcases h with h | ⟨k, off, c, cs, rfl, hA, hc, hl⟩
  · rcases rep_slc h hx with ⟨e, _, _⟩ | ⟨b2, oo, cap2, hxe, hmc, hS⟩
    · omega
    obtain ⟨news, hn1, hn2, hn3⟩ := repS_vals hS
    have he : news = ys.map encB := repL_bc_inv hn1
    subst he
    exact ⟨b2, oo, cap2, hxe, fun j u hj => by rw [addr_add]; exact hr.sld _ _ _ (hn2 j u hj)⟩
  · simp only [rep] at hx
    obtain ⟨b, hκ, rfl⟩ := hx
    obtain ⟨b', vs, e, hκ', hnp, hb, hrl⟩ := hr.sh k _ hA
    rw [hκ] at hκ'; cases hκ'
    refine ⟨b, off, c, rfl, fun j u hj => ?_⟩
    have hj' : j < ys.length := by
      rcases Nat.lt_or_ge j ys.length with h | h
      · exact h
      · rw [List.getElem?_eq_none (by simpa using h)] at hj; cases hj
    have hg : cs[off + j]? = some (.sc (.int .u8 (ys[j].toNat : Int))) := by
      have h3 := bc_get hj'
      rw [← hc, List.getElem?_take_of_lt hj', List.getElem?_drop] at h3
      exact h3
    obtain ⟨v, h4, h5⟩ := repL_get hrl _ _ hg
    simp only [rep] at h5
    rw [List.getElem?_map, List.getElem?_eq_getElem hj'] at hj
    cases hj
    rw [addr_add]
    simp only [World.cell?, hb]
    simpa [h5] using h4
/-- A row of bytes that is being written, beside another one that stays. -/
def RowB (h : Heap) (b : Nat) (ocs : Option (List D)) (d : D) (t : List UInt8) : Prop :=
  ∃ k cap sp, d = .hs k 0 t.length cap ∧ h k = some (bc t ++ sp) ∧ (bc t ++ sp).length = cap ∧ t.length ≤ cap ∧ cap ≤ maxLen ∧ 0 < cap ∧ ∀ cs, ocs = some cs → h b = some cs ∧ k ≠ b
theorem ao_appRowB {T e : TypeId} {s x : Operand} [hT : UN P T (.slice e)] [hZ : ZV P e 1 [.int .u8 0]] {b : Nat} {cs : Option (List D)} {d dx : D} {t ys : List UInt8} {Kv : D → AH → Prop} (ho : o.op = .call { callee := .builtin .append, args := #[s, x], argTypes := #[T, T] }) (hs : ρ s = d) (hrow : RowB A.h b cs d t) (hx : ρ x = dx) (hd : SrcB A dx ys) (hm : 0 < ys.length)
    (hfit : t.length + ys.length ≤ 100000)
    (hK : ∀ d' h', RowB h' b cs d' (t ++ ys) → Kv d' { A with h := h' }) : AOp P G true o ρ A Kv := by
  intro g l Prot w a hr hops K Q hk
  have hs0 := hops s (by simp [ho, Op.operands, Call.operands])
  have hx0 := hops x (by simp [ho, Op.operands, Call.operands])
  rw [hs] at hs0; rw [hx] at hx0
  obtain ⟨it, z, hi, hz, hzc, hsz, hby⟩ := hZ.eq
  have hsz1 : it.size = 1 := hsz
  have hzs : z.cells.size = 1 := by simp [hzc]
  have hzl : ∀ k, (Builtin.zeroCells z.cells k).toList.length = k := fun k => by simp [size_zeroCells, hzs]
  have hexec : ∀ cv w', (Builtin.append_ #[T, T] o.type #[a.eval s, a.eval x]).run P w = .ok cv w' → (execOp a.eval o).run P w = .ok (.value cv) w' := fun cv w' h1 => by
    simp only [execOp, ho, resolve, invoke, builtin, Sem.run_bind, Sem.run_pure, Result.andThen_ok, List.map_toArray, List.map_cons, List.map_nil, h1]
  have hrd : Rel P G g l A true Prot w.drew := hr.of_heap rfl
  have k0 : Fr Prot g g w w.drew := Fr.of_heap rfl ⟨rfl, rfl⟩
  obtain ⟨b2, oo, cap2, hxe, hload⟩ := src_vals hr hd hx0 hm
  have hnl : (ys.map encB).length = ys.length * it.size := by rw [hsz1]; simp
  have hn3 : ∀ u ∈ ys.map encB, u.oneCell' = true := fun u hu => by obtain ⟨y, _, rfl⟩ := List.mem_map.1 hu; rfl
  have hny : repL g Lo.none (bc ys) (ys.map encB) := repL_bytes _
  obtain ⟨id, h3, h4⟩ := fresh_share hr
  rw [hxe] at hexec
  obtain ⟨k, cap, sp, rfl, hA, htl, hnc, hcm, hc0, hAb⟩ := hrow
  simp only [rep] at hs0
  obtain ⟨bb, hκ, hse⟩ := hs0
  rw [hse] at hexec
  obtain ⟨b', vs, e', hκ', hnp, hb, hrl⟩ := hr.sh k _ hA
  rw [hκ] at hκ'; cases hκ'
  have hvl := repL_length hrl
  rw [htl] at hvl
  have hbl : (bc t).length = t.length := bc_len t
  have ebc : bc t ++ bc ys = bc (t ++ ys) := by simp [bc]
  have ebl : (t ++ ys).length = t.length + ys.length := List.length_append
  by_cases hroom : t.length + ys.length ≤ cap
  · have hrun := run_append_roomX (P := P) w T o.type e e' it hT.eq hi bb t.length cap vs.toArray hb ⟨b2, oo, none⟩ ys.length cap2 (ys.map encB) hnl hload hn3 hroom (by rw [hnl, hsz1, List.size_toArray, hvl]; omega)
    have hsp := hr.set_shared hA hκ (w' := w.setRow bb (vs.take (t.length * it.size) ++ ys.map encB ++ vs.drop (t.length * it.size + (ys.map encB).length)).toArray) (setRow_size _ _ _) (fun b' hb' => setRow_other w bb b' _ hb') (setRow_heap w bb _ _ e' (0, 0) hb) (repL_splice hrl hny (t.length * it.size))
    have es : splice (bc t ++ sp) (t.length * it.size) (bc ys) = bc (t ++ ys) ++ sp.drop ys.length := by
      unfold splice
      rw [hsz1, Nat.mul_one, ← hbl, List.take_left, List.drop_append, ← ebc, List.drop_eq_nil_of_le (by omega), bc_len ys, List.nil_append]
      simp
    rw [es] at hsp
    unfold Oper.wp
    rw [hexec _ _ hrun, ← ebl]
    refine hk _ _ g l _ _ (hK (.hs k 0 (t ++ ys).length cap) (A.hset k (bc (t ++ ys) ++ sp.drop ys.length)).h ⟨k, cap, sp.drop ys.length, rfl, by simp [AH.hset], ?_, by omega, hcm, hc0, fun cs' e' => by have h9 := hAb cs' e'; exact ⟨by simp [AH.hset, Ne.symm h9.2, h9.1], h9.2⟩⟩) ⟨Gh.le.refl _, by rw [setRow_size]; exact Nat.le_refl _, fun b' hb' => setRow_other w bb b' _ (fun e => hsp.2 (e ▸ hb')), fun _ _ _ => rfl, fun _ _ _ h => h, rfl, rfl⟩ (Lo.le.refl _) hsp.1 (by simp only [rep]; exact ⟨bb, hκ, rfl⟩)
    rw [List.length_append] at htl ⊢
    rw [bc_len] at htl ⊢
    rw [List.length_drop]
    omega
  · have hol : (vs.take t.length).length = t.length * it.size := by rw [List.length_take, hvl, hsz1]; omega
    have hor : repL g Lo.none (bc t) (vs.take t.length) := by
      have := repL_take hrl t.length
      rw [← hbl, List.take_left, hbl] at this
      exact this
    have hoc : ∀ j u, (vs.take t.length)[j]? = some u → w.cell? ((⟨bb, 0, none⟩ : Addr).add j) = some u := fun j u hj => by
      rw [addr_add, Nat.zero_add]
      simp only [World.cell?, hb, List.getElem?_toArray]
      rw [List.getElem?_take] at hj
      split at hj
      · exact hj
      · cases hj
    have hrun := run_append_grow (P := P) w T o.type e it z hT.eq hi hz ⟨bb, 0, none⟩ t.length cap _ hol hoc ⟨b2, oo, none⟩ ys.length cap2 (ys.map encB) hnl hload (by omega) (by omega) (growslice_fits (by omega) (by rw [hby]; omega))
    have hge := grownCap_ge w (t.length + ys.length) cap e
    have hcm' := grownCap_le_maxLen w (t.length + ys.length) cap e (by simp only [maxLen]; omega)
    generalize grownCap w (t.length + ys.length) cap e = cap' at *
    have hsh := hrd.alloc_shared h3 (vs.take t.length ++ ys.map encB ++ (Builtin.zeroCells z.cells (cap' - (t.length + ys.length))).toList) e (bc t ++ bc ys ++ (Builtin.zeroCells z.cells (cap' - (t.length + ys.length))).toList.map .sc) (repL_append (repL_append (repL_mono (Gh.le_share h3) _ (Lo.le.refl _) hor) (repL_bytes _)) (repL_sc _))
    have ew : (vs.take t.length ++ ys.map encB ++ (Builtin.zeroCells z.cells (cap' - (t.length + ys.length))).toList).toArray = (vs.take t.length).toArray ++ (ys.map encB).toArray ++ Builtin.zeroCells z.cells (cap' - (t.length + ys.length)) := by apply Array.ext'; simp
    rw [ew, ebc] at hsh
    unfold Oper.wp
    rw [hexec _ _ hrun, ← ebl]
    rw [← ebl] at hsh
    refine hk _ _ (g.share id w.drew.heap.size) l _ _ (hK (.hs id 0 (t ++ ys).length cap') (A.hset id (bc (t ++ ys) ++ (Builtin.zeroCells z.cells (cap' - (t ++ ys).length)).toList.map D.sc)).h ⟨id, cap', (Builtin.zeroCells z.cells (cap' - (t ++ ys).length)).toList.map D.sc, rfl, by simp [AH.hset], ?_, by omega, hcm', by omega, fun cs' e' => by have h9 := hAb cs' e'; have hib : id ≠ b := (fun e => by rw [e, h9.1] at h4; cases h4); exact ⟨by simp [AH.hset, Ne.symm hib, h9.1], hib⟩⟩) (k0.trans hsh.2) (Lo.le.refl _) hsh.1 (by simp only [rep]; exact ⟨w.drew.heap.size, by simp [Gh.share], rfl⟩)
    rw [List.length_append, bc_len, List.length_map, hzl]
    omega
end
end Go.Abs
namespace Go.Abs
set_option linter.unusedVariables false
set_option linter.unusedSimpArgs false
open Go.Lib
theorem row_dec {u v' : Nat} {dk : Array UInt8} (h : FmtInv (nDigits u) u 0 v' dk) : dk.toList = decDigits u := by
  apply List.ext_getElem
  · rw [decDigits_length, Array.length_toList, h.size]
  · intro j h1 h2
    rw [row_is_numeral h j h2, getElem!_pos dk j (by simpa using h1)]; simp
/-- A number without the zeros at its end; and how many they are. -/
def core (u : Nat) : Nat := if h : u ≠ 0 ∧ u % 10 = 0 then core (u / 10) else u
termination_by u
decreasing_by omega
def tzc (u : Nat) : Nat := if h : u ≠ 0 ∧ u % 10 = 0 then tzc (u / 10) + 1 else 0
termination_by u
decreasing_by omega
theorem core_yes {u : Nat} (h : u ≠ 0 ∧ u % 10 = 0) : core u = core (u / 10) := by rw [core, dif_pos h]
theorem core_no {u : Nat} (h : ¬ (u ≠ 0 ∧ u % 10 = 0)) : core u = u := by rw [core, dif_neg h]
theorem tzc_yes {u : Nat} (h : u ≠ 0 ∧ u % 10 = 0) : tzc u = tzc (u / 10) + 1 := by rw [tzc, dif_pos h]
theorem tzc_no {u : Nat} (h : ¬ (u ≠ 0 ∧ u % 10 = 0)) : tzc u = 0 := by rw [tzc, dif_neg h]
theorem dec_big {u : Nat} (h : ¬ u < 10) : decDigits u = decDigits (u / 10) ++ [UInt8.ofNat (48 + u % 10)] := by rw [decDigits, dif_neg h]
theorem core_facts : ∀ (k u : Nat), u ≤ k → 0 < u → (core u % 10 ≠ 0 ∧ 0 < core u) ∧ u = core u * 10 ^ tzc u ∧ decDigits u = decDigits (core u) ++ List.replicate (tzc u) 48 ∧ nDigits u = nDigits (core u) + tzc u
  | 0, u, h1, h2 => by omega
  | k + 1, u, h1, h2 => by
    by_cases h : u ≠ 0 ∧ u % 10 = 0
    · obtain ⟨i1, i2, i3, i4⟩ := core_facts k (u / 10) (by omega) (by omega)
      rw [core_yes h, tzc_yes h]
      refine ⟨i1, ?_, ?_, ?_⟩
      · rw [Nat.pow_succ, ← Nat.mul_assoc, ← i2]; omega
      · rw [dec_big (by omega), i3, h.2, List.append_assoc]
        congr 1
        rw [show ([UInt8.ofNat (48 + 0)] : List UInt8) = List.replicate 1 48 from rfl, List.replicate_append_replicate]
      · rw [nDigits_big (by omega), i4]; omega
    · rw [core_no h, tzc_no h]
      refine ⟨⟨by omega, h2⟩, by simp, by simp, rfl⟩
theorem core_shift (n : Nat) (hn : 0 < n) : ∀ k, core (n * 10 ^ k) = core n ∧ nDigits (n * 10 ^ k) = nDigits n + k
  | 0 => by simp
  | k + 1 => by
    obtain ⟨h1, h2⟩ := core_shift n hn k
    have hp : 0 < 10 ^ k := Nat.pow_pos (by omega)
    have hm : 0 < n * 10 ^ k := Nat.mul_pos hn hp
    have e : n * 10 ^ (k + 1) = n * 10 ^ k * 10 := by rw [Nat.pow_succ, Nat.mul_assoc]
    rw [e]
    constructor
    · rw [core_yes ⟨by omega, by omega⟩, Nat.mul_div_cancel _ (by omega), h1]
    · rw [nDigits_big (by omega), Nat.mul_div_cancel _ (by omega), h2]; omega
theorem dec_last {u : Nat} {j : Nat} (h : j < (decDigits u).length) (he : j + 1 = (decDigits u).length) : (decDigits u)[j] = UInt8.ofNat (48 + u % 10) := by
  by_cases hb : u < 10
  · have e : decDigits u = [UInt8.ofNat (48 + u)] := decDigits_one hb
    have hj : j = 0 := by rw [e] at he; simpa using he
    subst hj
    simp only [e, List.getElem_singleton]
    rw [Nat.mod_eq_of_lt hb]
  · have e := dec_big hb
    have hj : j = (decDigits (u / 10)).length := by rw [e, List.length_append, List.length_singleton] at he; omega
    subst hj
    simp only [e]
    rw [List.getElem_append_right (Nat.le_refl _)]
    simp
theorem ofNat_ne {k : Nat} (h : k < 10) (h0 : k ≠ 0) : UInt8.ofNat (48 + k) ≠ 48 := by
  have : k = 1 ∨ k = 2 ∨ k = 3 ∨ k = 4 ∨ k = 5 ∨ k = 6 ∨ k = 7 ∨ k = 8 ∨ k = 9 := by omega
  rcases this with rfl | rfl | rfl | rfl | rfl | rfl | rfl | rfl | rfl <;> decide
/-- Where the zeros at the end end. -/
theorem zero_at {u j : Nat} (hu : 0 < u) (h1 : nDigits (core u) ≤ j + 1) (h2 : j < (decDigits u).length) : (decDigits u)[j] = 48 ↔ nDigits (core u) < j + 1 := by
  obtain ⟨c1, c2, c3, c4⟩ := core_facts u u (Nat.le_refl _) hu
  have hl := decDigits_length (core u)
  simp only [c3]
  rcases Nat.lt_or_ge j (decDigits (core u)).length with h | h
  · rw [List.getElem_append_left h]
    have he : j + 1 = (decDigits (core u)).length := by omega
    rw [dec_last h he]
    constructor
    · intro e; exact absurd e (ofNat_ne (by omega) c1.1)
    · intro e; omega
  · rw [List.getElem_append_right h]
    simp
    omega
theorem dec_dig {u : Nat} : ∀ b ∈ decDigits u, 48 ≤ b.toNat ∧ b.toNat ≤ 57 := by
  intro b hb
  rw [decDigits_eq] at hb
  obtain ⟨t, _, rfl⟩ := List.mem_map.1 hb
  unfold dg
  have : u / 10 ^ (nDigits u - 1 - t) % 10 < 10 := Nat.mod_lt _ (by omega)
  generalize u / 10 ^ (nDigits u - 1 - t) % 10 = k at *
  have : k = 0 ∨ k = 1 ∨ k = 2 ∨ k = 3 ∨ k = 4 ∨ k = 5 ∨ k = 6 ∨ k = 7 ∨ k = 8 ∨ k = 9 := by omega
  rcases this with rfl | rfl | rfl | rfl | rfl | rfl | rfl | rfl | rfl | rfl <;> decide
/-- The text of an exponent that is not negative, and below 100. -/
def expS (e : Nat) : List UInt8 := if e < 10 then [48, UInt8.ofNat (e + 48)] else [UInt8.ofNat (e / 10 + 48), UInt8.ofNat (e % 10 + 48)]
/-- The text of digits with so many of them ahead of the point. -/
def fmtT (ds : List UInt8) (dp : Int) : List UInt8 :=
  if 6 < dp then ds.take 1 ++ (if 1 < ds.length then 46 :: ds.drop 1 else []) ++ 101 :: 43 :: expS (dp - 1).toNat
  else (if 0 < dp then ds.take dp.toNat ++ List.replicate (dp.toNat - ds.length) 48 else [48]) ++ (if dp < ds.length then 46 :: (List.replicate (-dp).toNat 48 ++ ds.drop dp.toNat) else [])
/-- What the library prints of a sixteenths, whose highest bit is L. -/
def digN (a L : Nat) : Nat := a * (10 ^ plS a L / 16) / 10
def dpN (a L : Nat) : Int := (nDigits (digN a L) : Int) + (1 - (plS a L : Int))
def numT (neg : Bool) (a L : Nat) : List UInt8 := (if neg = true then [45] else []) ++ fmtT (decDigits (core (digN a L))) (dpN a L)
theorem ten16 {p : Nat} (h : 5 ≤ p) : 16 * (10 ^ p / 16) = 10 ^ p := by
  obtain ⟨k, rfl⟩ := Nat.exists_eq_add_of_le h
  rw [Nat.pow_add, show (10 : Nat) ^ 5 = 16 * 6250 by decide, Nat.mul_assoc, Nat.mul_div_cancel_left _ (by omega)]
theorem digN_pos {a L : Nat} (ha : 0 < a) (hL : L ≤ 40) : 0 < digN a L := by
  have hs := sh_pl hL a
  have h10 := hs.ten
  have h5 := hs.p1
  have h16 := ten16 h5
  have hp : 0 < 10 ^ plS a L := Nat.pow_pos (by omega)
  unfold digN
  generalize 10 ^ plS a L / 16 = y at *
  have : 10 ≤ y := by omega
  exact Nat.div_pos (Nat.le_trans this (Nat.le_mul_of_pos_left _ ha)) (by omega)
/-- The text of a whole number with less than seven digits. -/
theorem num_whole {n L : Nat} (hn : 0 < n) (h6 : n < 1000000) (hL : L ≤ 40) : numT false (16 * n) L = decDigits n := by
  have hs := sh_pl hL (16 * n)
  have h5 := hs.p1
  have h16 := ten16 h5
  have hN : digN (16 * n) L = n * 10 ^ (plS (16 * n) L - 1) := by
    unfold digN
    rw [Nat.mul_comm 16 n, Nat.mul_assoc, Nat.mul_comm n 16] 
    rw [h16]
    obtain ⟨q, hq⟩ : ∃ q, plS (16 * n) L = q + 1 := ⟨plS (16 * n) L - 1, by omega⟩
    rw [hq, Nat.pow_succ, ← Nat.mul_assoc, Nat.mul_div_cancel _ (by omega)]
    simp
  obtain ⟨e1, e2⟩ := core_shift n hn (plS (16 * n) L - 1)
  have hdp : dpN (16 * n) L = (nDigits n : Int) := by unfold dpN; rw [hN, e2]; omega
  obtain ⟨c1, c2, c3, c4⟩ := core_facts n n (Nat.le_refl _) hn
  have hpos := nDigits_pos n
  have h7 : nDigits n ≤ 6 := by
    rcases Nat.lt_or_ge 6 (nDigits n) with h | h
    · have hk : 10 ^ 6 ≤ n := by
        have hu := numDigits_eq n hn (by omega)
        rcases Nat.lt_or_ge n (10 ^ 6) with h' | h'
        · exfalso
          have : ∀ k, k ≤ 6 → n < 10 ^ k → nDigits n ≤ max k 1 := by
            intro k
            induction k with
            | zero => intro _ hh; simp at hh; omega
            | succ k ih =>
              intro hk hh
              rcases Nat.lt_or_ge n (10 ^ k) with h3 | h3
              · have := ih (by omega) h3; omega
              · rw [nDigits_unique k n h3 hh]; omega
          have := this 6 (by omega) h'
          omega
        · exact h'
      omega
    · exact h
  unfold numT fmtT
  rw [hN, e1, hdp]
  have hl := decDigits_length (core n)
  rw [if_neg (by simp), if_neg (by omega), if_pos (by omega), if_neg (by rw [hl]; omega)]
  rw [List.nil_append, List.append_nil, Int.toNat_natCast, List.take_of_length_le (by omega), c3, hl]
  congr 2
  omega
end Go.Abs
namespace Go.Abs
set_option linter.unusedVariables false
set_option linter.unusedSimpArgs false
open Ieee
theorem fx_parts_k (p0 : Nat) (hp0 : p0 = 1074) (hu0 : unit = 2 ^ p0) {b a L : Nat} {v : Int} (hb : b < 2 ^ 64) (h : Fx b v) (ha : v.natAbs * 16 = a * unit) (h0 : 2 ^ L ≤ a) (h1 : a < 2 ^ (L + 1)) (hL : L ≤ 40) :
    b % 2 ^ 63 / 4503599627370496 = L + 1019 ∧ a * 2 ^ (52 - L) = 4503599627370496 + b % 4503599627370496 := by
  obtain ⟨p, hp⟩ : ∃ p, p0 = p + 4 := ⟨p0 - 4, by omega⟩
  have hu : unit = 2 ^ (p + 4) := by rw [← hp]; exact hu0
  obtain ⟨s, m, e, r1, he, v1⟩ := h
  obtain ⟨_, _, p1⟩ := read_parts hb r1
  have g1 := signed_abs' s m (e + 1074).toNat
  rw [v1] at g1
  have hva : v.natAbs = a * 2 ^ p := by
    rw [hu, Nat.pow_add, ← Nat.mul_assoc] at ha
    omega
  have hm : m * 2 ^ (e + 1074).toNat = a * 2 ^ p := by
    have h3 : signed false m (e + 1074).toNat = ((a * 2 ^ p : Nat) : Int) := g1.trans (congrArg Int.ofNat hva)
    have h4 : (m : Int) <<< (e + 1074).toNat = ((a * 2 ^ p : Nat) : Int) := by simpa [signed] using h3
    rw [Int.shiftLeft_eq] at h4
    generalize (e + 1074).toNat = u at h4 ⊢
    have h5 : ((m * 2 ^ u : Nat) : Int) = ((a * 2 ^ p : Nat) : Int) := by rw [Int.natCast_mul, Int.natCast_pow]; exact h4
    exact Int.ofNat.inj h5
  have hpow : 2 ^ L * 2 ^ (52 - L) = 4503599627370496 := by rw [← Nat.pow_add, show L + (52 - L) = 52 by omega]
  have hc1 : 4503599627370496 ≤ a * 2 ^ (52 - L) := by rw [← hpow]; exact Nat.mul_le_mul_right _ h0
  have hc2 : a * 2 ^ (52 - L) < 2 * 4503599627370496 := by
    rw [← hpow, ← Nat.mul_assoc, Nat.mul_comm 2, ← Nat.pow_succ]
    exact Nat.mul_lt_mul_of_pos_right h1 (Nat.two_pow_pos _)
  obtain ⟨f', hf'⟩ : ∃ f', a * 2 ^ (52 - L) = 4503599627370496 + f' := ⟨a * 2 ^ (52 - L) - 4503599627370496, by omega⟩
  obtain ⟨q, hq⟩ : ∃ q, p = (52 - L) + q := ⟨p - (52 - L), by omega⟩
  have hm2 : m * 2 ^ (e + 1074).toNat = (4503599627370496 + f') * 2 ^ q := by
    rw [hm, hq, Nat.pow_add, ← Nat.mul_assoc, hf']
  have hqL : q = L + 1018 := by omega
  have hbm : b % 2 ^ 63 % 4503599627370496 = b % 4503599627370496 := Nat.mod_mod_of_dvd _ (by decide)
  rcases p1 with ⟨q1, q2, q3⟩ | ⟨q1, q2, q3⟩
  · rw [q3, show ((-1074 : Int) + 1074).toNat = 0 from rfl, Nat.pow_zero, Nat.mul_one] at hm2
    have : (4503599627370496 + f') ≤ (4503599627370496 + f') * 2 ^ q := Nat.le_mul_of_pos_right _ (Nat.two_pow_pos q)
    omega
  · rw [q3, show (-1074 + ((b % 2 ^ 63 / 4503599627370496 - 1 : Nat) : Int) + 1074).toNat = b % 2 ^ 63 / 4503599627370496 - 1 by omega, q2] at hm2
    obtain ⟨k1, k2⟩ := mag_eq (Nat.mod_lt _ (by decide)) (by omega) hm2
    rw [hf', ← k2, hbm]
    refine ⟨by omega, rfl⟩
theorem fx_parts {b a L : Nat} {v : Int} (hb : b < 2 ^ 64) (h : Fx b v) (ha : v.natAbs * 16 = a * unit) (h0 : 2 ^ L ≤ a) (h1 : a < 2 ^ (L + 1)) (hL : L ≤ 40) :
    b % 2 ^ 63 / 4503599627370496 = L + 1019 ∧ a * 2 ^ (52 - L) = 4503599627370496 + b % 4503599627370496 := fx_parts_k 1074 rfl unit.eq_1 hb h ha h0 h1 hL
end Go.Abs
namespace Go.Abs
set_option linter.unusedVariables false
set_option linter.unusedSimpArgs false
open Go.Lib
section
variable {P : Program} {G : Nat → D} {A A' : AH} {wr : Bool} {o : Oper} {ρ : Operand → D}
theorem AS.ofOp {v : D} (h : AOp P G wr o ρ A fun v' A'' => v' = v ∧ A'' = A') : AS P G wr o ρ A v A' :=
  fun g l Prot w a hr hx _ _ hk => h g l Prot w a hr hx _ _ fun v' A'' g' l' w' cv ⟨e1, e2⟩ h1 h2 h3 h4 => by subst e1; subst e2; exact hk g' l' w' cv h1 h2 h3 h4
theorem as_callD {x : Operand} {args : Array Operand} {Ts : Array TypeId} {f : FuncId} [FN P f] {us vs : List D} {ds : List D} {v : D} {h2 : Heap} (ho : o.op = .call { callee := .value x, args := args, argTypes := Ts }) (hx : ρ x = .fn f us vs) (hds : fzL (us ++ args.toList.map ρ ++ vs) = ds) (hext : ext.extL ds = true)
    (hc : ACall P G f true ds A.h fun v' h' => v' = v ∧ h' = h2) : AS P G true o ρ A v { A with h := h2 } :=
  AS.ofOp (ao_callH ho hx hds hext hc fun v' h' hh => ⟨hh.1, by rw [hh.2]⟩)
end
section
variable {P : Program} {G : Nat → D} {wr : Bool} {Q : Exit → Env → AH → Prop} {env : Env} {A : AH} {o : Oper} {ρ : Operand → D}
/-- What is not asked for any more is forgotten. -/
theorem w_env {c : Code} (bs : List (Nat × D)) (h : Binds env bs) (hk : ∀ env', Binds env' bs → aw P G wr c Q env' A) : aw P G wr c Q env A := hk env h
theorem ao_appRowC {T e : TypeId} {s x : Operand} [hT : UN P T (.slice e)] [hZ : ZV P e 1 [.int .u8 0]] {b : Nat} {cs : Option (List D)} {d dx : D} {t ys : List UInt8} {Kv : D → AH → Prop} (ho : o.op = .call { callee := .builtin .append, args := #[s, x], argTypes := #[T, T] }) (hs : ρ s = d) (hrow : RowB A.h b cs d t) (hx : ρ x = dx) (hd : SrcB A dx ys) (hm : 0 < ys.length)
    (hfit : t.length + ys.length ≤ 100000) (hK : ∀ k n c h', RowB h' b cs (.hs k 0 n c) (t ++ ys) → Kv (.hs k 0 n c) { A with h := h' }) : AOp P G true o ρ A Kv :=
  ao_appRowB ho hs hrow hx hd hm hfit fun d' h' hR => by
    obtain ⟨k, cap, sp, rfl, h2⟩ := hR
    exact hK k _ cap h' ⟨k, cap, sp, rfl, h2⟩
end
/-- A shared object set. -/
def setH (h : Heap) (b : Nat) (cs : List D) : Heap := fun i => if i = b then some cs else h i
theorem setH_at (h : Heap) (b : Nat) (cs : List D) : setH h b cs b = some cs := if_pos rfl
theorem setH_off {h : Heap} {b i : Nat} {cs : List D} (hi : i ≠ b) : setH h b cs i = h i := if_neg hi
theorem get_bc {H : Heap} {b j : Nat} {ds : List UInt8} {rest : List D} (hb : H b = some (bc ds ++ rest)) (hj : j < ds.length) : Heap.get H b j = some (u8d ds[j]) := by
  simp only [Heap.get, hb, Option.bind_some]
  rw [List.getElem?_append_left (by rw [bc_len]; exact hj), bc_get hj]
theorem src_bc {A : AH} {b i m c : Nat} {ds : List UInt8} {rest : List D} (hb : A.h b = some (bc ds ++ rest)) (him : i ≤ m) (hm : m ≤ ds.length) : SrcB A (.hs b i (m - i) c) ((ds.drop i).take (m - i)) := by
  have hl : ((ds.drop i).take (m - i)).length = m - i := by rw [List.length_take, List.length_drop]; omega
  refine .inr ⟨b, i, c, _, by rw [hl], hb, ?_, ?_⟩
  · rw [hl, List.drop_append_of_le_length (by rw [bc_len]; omega), List.take_append_of_le_length (by rw [List.length_drop, bc_len]; omega)]
    simp [bc, List.map_take, List.map_drop]
  · rw [hl, List.length_append, bc_len]; omega
theorem zero_at' {u j : Nat} (hu : 0 < u) (h0 : 0 < j) (h1 : nDigits (core u) ≤ j) (h2 : j ≤ nDigits u) (hl : j - 1 < (decDigits u).length) : decide (((decDigits u)[j - 1].toNat : Int) = 48) = decide (nDigits (core u) < j) := by
  have h := zero_at (u := u) (j := j - 1) hu (by omega) hl
  rw [show j - 1 + 1 = j by omega] at h
  refine decide_eq_decide.2 ?_
  rw [← h]
  constructor
  · intro e
    have : (decDigits u)[j - 1].toNat = 48 := by omega
    exact UInt8.toNat_inj.1 this
  · intro e; rw [e]; rfl
theorem RowB.cast {h : Heap} {b : Nat} {cs : Option (List D)} {d : D} {t t' : List UInt8} (hR : RowB h b cs d t) (e : t = t') : RowB h b cs d t' := e ▸ hR
theorem RowB.base {h : Heap} {b : Nat} {cs : List D} {d : D} {t : List UInt8} (hR : RowB h b (some cs) d t) : h b = some cs := by
  obtain ⟨k, cap, sp, _, _, _, _, _, _, h1⟩ := hR; exact (h1 cs rfl).1
/-- A row of bytes alone. -/
def RowA (h : Heap) (d : D) (t : List UInt8) : Prop := ∃ k cap sp, d = .hs k 0 t.length cap ∧ h k = some (bc t ++ sp)
theorem RowB.row {h : Heap} {b : Nat} {cs : Option (List D)} {d : D} {t : List UInt8} (hR : RowB h b cs d t) : RowA h d t := by
  obtain ⟨k, cap, sp, h1, h2, _⟩ := hR; exact ⟨k, cap, sp, h1, h2⟩
theorem fmtT_e {ds : List UInt8} {e : Nat} (h : 6 ≤ e) : fmtT ds ((e : Int) + 1) = ds.take 1 ++ (if 1 < ds.length then 46 :: ds.drop 1 else []) ++ 101 :: 43 :: expS e := by
  unfold fmtT
  rw [if_pos (by omega), show ((e : Int) + 1 - 1).toNat = e by omega]
theorem fmtT_e1 {ds : List UInt8} {E : Nat} (h6 : 6 ≤ E) (hn : 0 < ds.length) (h1 : 1 < ds.length) (S : List UInt8) : S ++ [ds[0]] ++ [46] ++ (ds.drop 1).take (ds.length - 1) ++ [101] ++ [43] ++ expS E = S ++ fmtT ds ((E : Int) + 1) := by
  rw [fmtT_e h6, if_pos h1]
  have ht1 : ds.take 1 = [ds[0]] := by rw [List.take_succ_eq_append_getElem hn, List.take_zero, List.nil_append]
  have ht2 : (ds.drop 1).take (ds.length - 1) = ds.drop 1 := List.take_of_length_le (by simp)
  rw [ht1, ht2]
  simp
theorem fmtT_e0 {ds : List UInt8} {E : Nat} (h6 : 6 ≤ E) (hn : 0 < ds.length) (h1 : ¬ 1 < ds.length) (S : List UInt8) : S ++ [ds[0]] ++ [101] ++ [43] ++ expS E = S ++ fmtT ds ((E : Int) + 1) := by
  rw [fmtT_e h6, if_neg h1]
  have ht1 : ds.take 1 = [ds[0]] := by rw [List.take_succ_eq_append_getElem hn, List.take_zero, List.nil_append]
  rw [ht1]
  simp
theorem exp_lt {E : Nat} (h : E < 10) : [48, UInt8.ofNat (E + 48)] = expS E := by unfold expS; rw [if_pos h]
theorem exp_ge {E : Nat} (h : ¬ E < 10) : [UInt8.ofNat (E / 10 + 48), UInt8.ofNat (E % 10 + 48)] = expS E := by unfold expS; rw [if_neg h]
theorem fmtT_p {ds : List UInt8} {q : Nat} (h1 : 1 ≤ q) (h6 : q ≤ 6) (hl : q < ds.length) : fmtT ds (q : Int) = ds.take q ++ 46 :: ds.drop q := by
  unfold fmtT
  rw [if_neg (by omega), if_pos (by omega), if_pos (by omega), Int.toNat_natCast, show q - ds.length = 0 by omega, show (-(q : Int)).toNat = 0 by omega]
  simp
theorem fmtT_w {ds : List UInt8} {q : Nat} (h1 : 1 ≤ q) (h6 : q ≤ 6) (hl : ds.length ≤ q) : fmtT ds (q : Int) = ds ++ List.replicate (q - ds.length) 48 := by
  unfold fmtT
  rw [if_neg (by omega), if_pos (by omega), if_neg (by omega), Int.toNat_natCast, List.take_of_length_le hl, List.append_nil]
theorem fmtT_0 {ds : List UInt8} {q : Nat} (hl : 0 < ds.length) : fmtT ds (-(q : Int)) = 48 :: 46 :: (List.replicate q 48 ++ ds) := by
  unfold fmtT
  rw [if_neg (by omega), if_neg (by omega), if_pos (by omega), show (-(-(q : Int))).toNat = q by omega, show (-(q : Int)).toNat = 0 by omega]
  rfl
theorem exp_byte {e : Nat} (h : e < 100) : IntKind.u8.wrap ((e : Int) + 48) = ((UInt8.ofNat (e + 48)).toNat : Int) := by
  rw [UInt8.toNat_ofNat', Nat.mod_eq_of_lt (by omega)]
  simp [IntKind.wrap, IntKind.signed, IntKind.bits]
  omega
theorem take_snoc {ds : List UInt8} {i : Nat} (h : i < ds.length) (pre : List UInt8) : pre ++ ds.take i ++ [ds[i]] = pre ++ ds.take (i + 1) := by
  rw [List.append_assoc, List.take_succ_eq_append_getElem h]
theorem rep_snoc (pre : List UInt8) (i : Nat) : pre ++ List.replicate i 48 ++ [48] = pre ++ List.replicate (i + 1) 48 := by
  rw [List.append_assoc, List.replicate_succ']
theorem drop_snoc {ds : List UInt8} {q i : Nat} (h : q + i < ds.length) (pre : List UInt8) : pre ++ (ds.drop q).take i ++ [ds[q + i]] = pre ++ (ds.drop q).take (i + 1) := by
  rw [List.append_assoc, List.take_succ_eq_append_getElem (by rw [List.length_drop]; omega), List.getElem_drop]
end Go.Abs
namespace Go.Abs
set_option linter.unusedVariables false
set_option linter.unusedSimpArgs false
open Go.Lib
theorem and_i64 {x : Nat} (hx : x < 2 ^ 63) (k : Nat) (hk : k ≤ 62) (m : Int) (hm : m = ((2 ^ k - 1 : Nat) : Int)) : IntKind.i64.wrap ((BitVec.ofInt IntKind.i64.bits (x : Int) &&& BitVec.ofInt IntKind.i64.bits m).toNat : Int) = ((x % 2 ^ k : Nat) : Int) := by
  subst hm
  have hkk : 2 ^ k ≤ 2 ^ 62 := Nat.pow_le_pow_right (by omega) hk
  have h1 : (2 ^ k - 1 : Nat) < 2 ^ 64 := by have := Nat.two_pow_pos k; omega
  show IntKind.i64.wrap ((BitVec.ofInt 64 (x : Int) &&& BitVec.ofInt 64 ((2 ^ k - 1 : Nat) : Int)).toNat : Int) = _
  rw [ofInt_nat, ofInt_nat, BitVec.toNat_and, BitVec.toNat_ofNat, BitVec.toNat_ofNat, Nat.mod_eq_of_lt (by omega : x < 2 ^ 64), Nat.mod_eq_of_lt h1, Nat.and_two_pow_sub_one_eq_mod]
  have : x % 2 ^ k < 2 ^ k := Nat.mod_lt _ (Nat.two_pow_pos k)
  exact wrap_id (by omega) (by omega)
theorem or_top {m : Nat} (h : m < 4503599627370496) : m ||| 4503599627370496 = 4503599627370496 + m := by
  have := Nat.two_pow_add_eq_or_of_lt (i := 52) (b := m) (by simpa using h) 1
  rw [Nat.or_comm]
  simpa using this.symm
theorem bitLen53 {m : Nat} (h1 : 4503599627370496 ≤ m) (h2 : m < 9007199254740992) : Lib.bitLen m = 53 := by
  rw [Lib.bitLen_shift 52 m (show 2 ^ 52 ≤ m by omega) (by omega)]
  have : m / 2 ^ 52 = 1 := by omega
  rw [this]
  decide
theorem nDigits_gt {k u : Nat} (h : 10 ^ k ≤ u) : k < nDigits u := by
  have := lt_pow_nDigits u
  exact (Nat.pow_lt_pow_iff_right (by omega)).1 (Nat.lt_of_le_of_lt h this)
theorem sh_word {a L m : Nat} (hL : L ≤ 40) (h3 : a < 2 ^ (L + 1)) (hm : m = a * 2 ^ (63 - L)) : m < 2 ^ 64 := by
  rw [hm]
  have h1 : a * 2 ^ (63 - L) < 2 ^ (L + 1) * 2 ^ (63 - L) := Nat.mul_lt_mul_of_pos_right h3 (Nat.two_pow_pos _)
  rw [← Nat.pow_add, show L + 1 + (63 - L) = 64 by omega] at h1
  exact h1
theorem digN_lt {a L : Nat} (hL : L ≤ 40) (h3 : a < 2 ^ (L + 1)) : digN a L < 2 ^ 58 := by
  have := sh_bound (sh_pl hL a) rfl rfl (sh_word hL h3 rfl)
  unfold digN
  omega
theorem dpN_bounds {a L : Nat} (ha : 0 < a) (hL : L ≤ 40) (h3 : a < 2 ^ (L + 1)) : -3 ≤ dpN a L ∧ dpN a L ≤ 99 := by
  have hs := sh_pl hL a
  have h5 := hs.p1
  have h17 := hs.p2
  have h16 := ten16 h5
  have hlt := digN_lt hL h3
  have h20 := nDigits_le20 (digN a L) (by omega)
  unfold dpN
  refine ⟨?_, by omega⟩
  have hge : 10 ^ (plS a L - 3) ≤ digN a L := by
    have e : 10 ^ plS a L = 10 ^ (plS a L - 3) * 1000 := by rw [show (1000 : Nat) = 10 ^ 3 by decide, ← Nat.pow_add]; congr 1; omega
    have h1 : 10 ^ plS a L / 16 ≤ a * (10 ^ plS a L / 16) := Nat.le_mul_of_pos_left _ ha
    unfold digN
    generalize 10 ^ plS a L = y at *
    generalize a * (y / 16) = z at *
    omega
  have := nDigits_gt hge
  omega
theorem word_mul {a L mm : Nat} (hL : L ≤ 40) (h : a * 2 ^ (52 - L) = mm) : mm * 2 ^ 11 = a * 2 ^ (63 - L) := by
  rw [← h, Nat.mul_assoc, ← Nat.pow_add]
  congr 2
  omega
theorem bc_app (a b : List UInt8) : bc a ++ bc b = bc (a ++ b) := by simp [bc]
theorem fx_none {w : Nat} {v : Int} (hw : w < 2 ^ 64) (h : Fx w v) (hv : v = 0) : w % 2 ^ 63 = 0 := by
  obtain ⟨s, m, e, r1, he, v1⟩ := h
  obtain ⟨_, _, p1⟩ := read_parts hw r1
  have g1 := signed_abs' s m (e + 1074).toNat
  rw [v1, hv] at g1
  have h4 : (m : Int) <<< (e + 1074).toNat = 0 := by simpa [Ieee.signed] using g1
  rw [Int.shiftLeft_eq] at h4
  have h5 : m = 0 := by
    rcases Int.mul_eq_zero.1 h4 with h6 | h6
    · omega
    · exact absurd h6 (by have : (0 : Int) < 2 ^ (e + 1074).toNat := Int.pow_pos (by decide); omega)
  rcases p1 with ⟨q1, q2, q3⟩ | ⟨q1, q2, q3⟩ <;> omega
/-- The text of a number of sixteenths. -/
def txtN (neg : Bool) (a : Nat) : List UInt8 := if a = 0 then (if neg = true then [45] else []) ++ [48] else numT neg a a.log2
theorem txt_whole {n : Nat} (h6 : n < 1000000) : txtN false (16 * n) = decDigits n := by
  unfold txtN
  by_cases h0 : n = 0
  · subst h0; rw [if_pos rfl, decDigits, dif_pos (by omega)]; rfl
  · rw [if_neg (by omega)]
    refine num_whole (by omega) h6 ?_
    have := (Nat.log2_lt (show 16 * n ≠ 0 by omega)).2 (show 16 * n < 2 ^ 41 by omega)
    omega
end Go.Abs
