/- Walks of the functions, printed by program, and the logic behind them: each theorem says what one function or one step answers. -/
import Derived.Test.YtopgbalmdocboaaGreatDoorZFz
import Derived.Test.YtopgbalmdocboaaGreatDoorZTx
import Derived.Sort.LotD3
import Derived.Sort.LotA
import Derived.Sort.LotB
import Derived.Sort.LotC
import Derived.Sort.LotD1
import Derived.Sort.LotD2
import Derived.Test.YtopgbalmdocboaaGreatDoorZSm
import Derived.Lib.BitFns
import Derived.Test.YtopgbalmdocboaaGreatDoorZNu
import Derived.Test.YtopgbalmdocboaaGreatDoorZTe
import Derived.Test.YtopgbalmdocboaaGreatDoorZBy
namespace Go.Abs
set_option linter.unusedVariables false
set_option linter.unusedSimpArgs false
open Go.Sort
/-- A float that is a number. -/
structure FF where
  b : Nat
  v : Int
  h : Fx b v
instance : Inhabited FF := ⟨⟨0, 0, fx_zero⟩⟩
def ltQ (x y : FF) : Bool := decide (x.v < y.v)
/-- A counter that ends at -1. -/
def ctr1 : D → Nat
  | .sc (.int _ x) => (x + 1).toNat
  | _ => 0
theorem swo_ltQ : SWO ltQ where
  irrefl := fun x => by simp [ltQ]
  trans := fun x y z h1 h2 => by simp only [ltQ, decide_eq_true_eq] at *; omega
  ntrans := fun x y z h1 h2 => by simp only [ltQ, decide_eq_false_iff_not] at *; omega
def fls (d : Array FF) : List D := d.toList.map fun x => fl x.b
theorem fls_len (d : Array FF) : (fls d).length = d.size := by simp [fls]
theorem setH_setH (h : Heap) (b : Nat) (cs ds : List D) : setH (setH h b cs) b ds = setH h b ds := by
  funext i; unfold setH; split <;> rfl
theorem setH_self {h : Heap} {b : Nat} {cs : List D} (e : h b = some cs) : setH h b cs = h := by
  funext i; unfold setH; split
  · rename_i hi; rw [hi, e]
  · rfl
theorem get_fls {h : Heap} {id i : Nat} {d : Array FF} {sp : List D} (hi : i < d.size) : Heap.get (setH h id (fls d ++ sp)) id i = some (fl (d[i]!).b) := by
  simp only [Heap.get, setH_at, Option.bind_some]
  rw [List.getElem?_append_left (by rw [fls_len]; exact hi)]
  unfold fls
  rw [List.getElem?_map, Array.getElem?_toList, Array.getElem?_eq_getElem hi, getElem!_pos d i hi]; rfl
theorem put_fls {h : Heap} {id i : Nat} {d : Array FF} {sp : List D} (hi : i < d.size) (x : FF) : Heap.put (setH h id (fls d ++ sp)) id i (fl x.b) = setH h id (fls (d.setIfInBounds i x) ++ sp) := by
  funext k
  unfold Heap.put
  by_cases hk : k = id
  · rw [if_pos hk, setH_at, Option.map_some, hk, setH_at]
    congr 1
    unfold splice
    apply List.ext_getElem?
    intro j
    have hl : (fls d).length = d.size := fls_len d
    have hset : ∀ j, (fls (d.setIfInBounds i x) ++ sp)[j]? = if j = i then some (fl x.b) else (fls d ++ sp)[j]? := by
      intro j
      unfold fls
      rcases Nat.lt_or_ge j d.size with hj | hj
      · rw [List.getElem?_append_left (by simpa using hj), List.getElem?_append_left (by simpa using hj), List.getElem?_map, List.getElem?_map, Array.getElem?_toList, Array.getElem?_toList, Array.getElem?_setIfInBounds]
        by_cases e : i = j
        · subst e; rw [if_pos rfl, if_pos rfl, if_pos hi]; rfl
        · rw [if_neg e, if_neg (fun e' => e e'.symm)]
      · rw [List.getElem?_append_right (by simpa using hj), List.getElem?_append_right (by simpa using hj), if_neg (by omega)]
        simp
    rw [hset]
    rcases Nat.lt_trichotomy j i with h1 | h1 | h1
    · rw [if_neg (by omega), List.getElem?_append_left (by simp; omega), List.getElem?_append_left (by simp; omega), List.getElem?_take_of_lt h1]
    · subst h1
      rw [if_pos rfl, List.getElem?_append_left (by simp; omega), List.getElem?_append_right (by rw [List.length_take]; omega)]
      have : j - (List.take j (fls d ++ sp)).length = 0 := by rw [List.length_take, List.length_append]; omega
      rw [this]; rfl
    · rw [if_neg (by omega), List.getElem?_append_right (by simp; omega), List.getElem?_drop]
      congr 1
      simp
      omega
  · rw [if_neg hk, setH_off hk, setH_off hk]
section
variable {P : Program} {G : Nat → D} {A : AH} {o : Oper} {ρ : Operand → D} {wr : Bool}
theorem q_loadF {T : TypeId} [hT : TI P T false 1] {x : Operand} {h : Heap} {id off i : Nat} {d : Array FF} {sp : List D} (ho : o.op = .load T x) (hx : ρ x = .hp id off) (hA : A.h = setH h id (fls d ++ sp)) (e : off = i) (hi : i < d.size) : AQ P G wr o ρ (ExtA A) (fl (d[i]!).b) :=
  q_loadH ho hx (by rw [hA, e]; exact get_fls hi)
theorem as_storeF {T : TypeId} [hT : TI P T false 1] {x y : Operand} {h : Heap} {id off i : Nat} {d : Array FF} {sp : List D} (z : FF) (ho : o.op = .store T x y) (hx : ρ x = .hp id off) (hy : ρ y = fl z.b) (hA : A.h = setH h id (fls d ++ sp)) (e : off = i) (hi : i < d.size) :
    AS P G true o ρ A (.sc undef) { A with h := setH h id (fls (d.setIfInBounds i z) ++ sp) } := by
  have := as_storeP (P := P) (G := G) (A := A) (T := T) (k := id) (off := i) (n := (fls d ++ sp).length) (d := fl z.b) ho (by rw [hx, e]) hy (by rw [hA]; simp [Heap.len, setH_at]) (by rw [List.length_append, fls_len]; omega) rfl rfl rfl
  rw [hA, put_fls hi z] at this
  exact this
end
/-! The loops, step by step. -/
section
variable {lt : FF → FF → Bool} {d : Array FF} {a b i j : Nat}
theorem ins_no (h : ¬ (a < j ∧ lt d[j]! d[j - 1]! = true)) : insInner lt a j d = d := by
  cases j with
  | zero => rfl
  | succ j => unfold insInner; rw [if_neg (by simpa using h)]
theorem ins_go (h1 : a < j) (h2 : lt d[j]! d[j - 1]! = true) : insInner lt a j d = insInner lt a (j - 1) (swp d j (j - 1)) := by
  cases j with
  | zero => omega
  | succ j =>
    conv => lhs; unfold insInner
    rw [if_pos (by simpa using ⟨h1, h2⟩)]; rfl
theorem insO_go (h : i < b) : insOuter lt a b i d = insOuter lt a b (i + 1) (insInner lt a i d) := by
  conv => lhs; rw [insOuter, if_pos h]
theorem insO_no (h : ¬ i < b) : insOuter lt a b i d = d := by rw [insOuter, if_neg h]
theorem rev_go (h : i < j) : reverseLoop i j d = reverseLoop (i + 1) (j - 1) (swp d i j) := by
  conv => lhs; rw [reverseLoop, if_pos h]
theorem rev_no (h : ¬ i < j) : reverseLoop i j d = d := by rw [reverseLoop, if_neg h]
theorem sift_stop {hi first root : Nat} (h : hi ≤ 2 * root + 1) : siftDown lt hi first root d = d := by rw [siftDown, dif_pos h]
theorem sift_two {hi first root : Nat} (h : ¬ hi ≤ 2 * root + 1) (h2 : 2 * root + 1 + 1 < hi) (hl : lt d[first + (2 * root + 1)]! d[first + (2 * root + 1) + 1]! = true) :
    siftDown lt hi first root d = if lt d[first + root]! d[first + (2 * root + 2)]! = false then d else siftDown lt hi first (2 * root + 2) (swp d (first + root) (first + (2 * root + 2))) := by
  conv => lhs; rw [siftDown, dif_neg h]
  rw [if_pos (by simp [h2, hl])]
  cases lt d[first + root]! d[first + (2 * root + 2)]! <;> simp
  intro h3; omega
theorem sift_one {hi first root : Nat} (h : ¬ hi ≤ 2 * root + 1) (h2 : ¬ (2 * root + 1 + 1 < hi ∧ lt d[first + (2 * root + 1)]! d[first + (2 * root + 1) + 1]! = true)) :
    siftDown lt hi first root d = if lt d[first + root]! d[first + (2 * root + 1)]! = false then d else siftDown lt hi first (2 * root + 1) (swp d (first + root) (first + (2 * root + 1))) := by
  conv => lhs; rw [siftDown, dif_neg h]
  rw [if_neg (by simpa using h2)]
  cases lt d[first + root]! d[first + (2 * root + 1)]! <;> simp
theorem sift_size (lt : FF → FF → Bool) (hi first : Nat) : ∀ (k root : Nat) (d : Array FF), hi - root ≤ k → (siftDown lt hi first root d).size = d.size
  | 0, root, d, h => by rw [sift_stop (by omega)]
  | k + 1, root, d, h => by
    by_cases h1 : hi ≤ 2 * root + 1
    · rw [sift_stop h1]
    · by_cases h2 : 2 * root + 1 + 1 < hi ∧ lt d[first + (2 * root + 1)]! d[first + (2 * root + 1) + 1]! = true
      · rw [sift_two h1 h2.1 h2.2]; split
        · rfl
        · rw [sift_size lt hi first k _ _ (by omega), size_swp]
      · rw [sift_one h1 h2]; split
        · rfl
        · rw [sift_size lt hi first k _ _ (by omega), size_swp]
theorem build_go {hi first k : Nat} (h : 0 < k) : heapBuild lt hi first k d = heapBuild lt hi first (k - 1) (siftDown lt hi first (k - 1) d) := by
  obtain ⟨m, rfl⟩ : ∃ m, k = m + 1 := ⟨k - 1, by omega⟩
  rfl
theorem pop_go {first k : Nat} (h : 0 < k) : heapPop lt first k d = heapPop lt first (k - 1) (siftDown lt (k - 1) first 0 (swp d first (first + (k - 1)))) := by
  obtain ⟨m, rfl⟩ : ∃ m, k = m + 1 := ⟨k - 1, by omega⟩
  rfl
theorem up_go {p : FF → Bool} (h1 : i ≤ j) (h2 : p d[i]! = true) : scanUp p d j i = scanUp p d j (i + 1) := by
  conv => lhs; rw [scanUp, if_pos (by simp [h1, h2])]
theorem up_no {p : FF → Bool} (h : ¬ (i ≤ j ∧ p d[i]! = true)) : scanUp p d j i = i := by rw [scanUp, if_neg (by simpa using h)]
theorem dn_go {p : FF → Bool} (h0 : 0 < j) (h1 : i ≤ j) (h2 : p d[j]! = true) : scanDown p d i j = scanDown p d i (j - 1) := by
  obtain ⟨m, rfl⟩ : ∃ m, j = m + 1 := ⟨j - 1, by omega⟩
  conv => lhs; rw [scanDown, if_pos (by simp [h1, h2])]
  rfl
theorem dn_no {p : FF → Bool} (h : ¬ (i ≤ j ∧ p d[j]! = true)) : scanDown p d i j = j := by
  cases j with
  | zero => rfl
  | succ m => rw [scanDown, if_neg (by simpa using h)]
theorem part_yes {p i0 j0 : Nat} {d1 : Array FF} (hd : swp d a p = d1) (hi : scanUp (fun x => lt x d1[a]!) d1 (b - 1) (a + 1) = i0) (hj : scanDown (fun x => !lt x d1[a]!) d1 i0 (b - 1) = j0) (h : j0 < i0) : partition lt d a b p = (j0, true, swp d1 j0 a) := by
  subst hd; subst hi; subst hj
  unfold partition
  simp only
  rw [if_pos h]
theorem part_no {p i0 j0 jf : Nat} {d1 df : Array FF} (hd : swp d a p = d1) (hi : scanUp (fun x => lt x d1[a]!) d1 (b - 1) (a + 1) = i0) (hj : scanDown (fun x => !lt x d1[a]!) d1 i0 (b - 1) = j0) (h : ¬ j0 < i0)
    (hr : partLoop lt a (i0 + 1) (j0 - 1) (swp d1 i0 j0) = (jf, df)) : partition lt d a b p = (jf, false, swp df jf a) := by
  subst hd; subst hi; subst hj
  unfold partition
  simp only
  rw [if_neg h, hr]
theorem pl_end {i2 j2 : Nat} (hi : scanUp (fun x => lt x d[a]!) d j i = i2) (hj : scanDown (fun x => !lt x d[a]!) d i2 j = j2) (h : j2 < i2) : partLoop lt a i j d = (j2, d) := by
  subst hi; subst hj; rw [partLoop_eq, if_pos h]
theorem pl_go {i2 j2 : Nat} (hi : scanUp (fun x => lt x d[a]!) d j i = i2) (hj : scanDown (fun x => !lt x d[a]!) d i2 j = j2) (h : ¬ j2 < i2) : partLoop lt a i j d = partLoop lt a (i2 + 1) (j2 - 1) (swp d i2 j2) := by
  subst hi; subst hj; rw [partLoop_eq, if_neg h]
theorem pe_end {i2 j2 : Nat} (hi : scanUp (fun x => !lt d[a]! x) d j i = i2) (hj : scanDown (fun x => lt d[a]! x) d i2 j = j2) (h : j2 < i2) : partEqLoop lt a i j d = (i2, d) := by
  subst hi; subst hj; rw [partEqLoop_eq, if_pos h]
theorem pe_go {i2 j2 : Nat} (hi : scanUp (fun x => !lt d[a]! x) d j i = i2) (hj : scanDown (fun x => lt d[a]! x) d i2 j = j2) (h : ¬ j2 < i2) : partEqLoop lt a i j d = partEqLoop lt a (i2 + 1) (j2 - 1) (swp d i2 j2) := by
  subst hi; subst hj; rw [partEqLoop_eq, if_neg h]
theorem ss_go (h1 : i < b) (h2 : (!lt d[i]! d[i - 1]!) = true) : scanSorted lt d b i = scanSorted lt d b (i + 1) := by
  conv => lhs; rw [scanSorted, if_pos (by rw [decide_eq_true h1, h2]; rfl)]
theorem ss_no (h : ¬ (i < b ∧ (!lt d[i]! d[i - 1]!) = true)) : scanSorted lt d b i = i := by rw [scanSorted, if_neg (by simpa using h)]
theorem sd_no (h : ¬ (0 < j ∧ lt d[j]! d[j - 1]! = true)) : shiftDown lt j d = d := by
  cases j with
  | zero => rfl
  | succ m => unfold shiftDown; rw [if_pos (by simpa using h)]
theorem sd_go (h0 : 0 < j) (h : lt d[j]! d[j - 1]! = true) : shiftDown lt j d = shiftDown lt (j - 1) (swp d j (j - 1)) := by
  obtain ⟨m, rfl⟩ : ∃ m, j = m + 1 := ⟨j - 1, by omega⟩
  conv => lhs; unfold shiftDown
  rw [if_neg (by simpa using h)]; rfl
theorem su_no (h : ¬ (j < b ∧ lt d[j]! d[j - 1]! = true)) : shiftUp lt b j d = d := by
  rw [shiftUp]
  split
  · rename_i h1
    rw [if_pos (by simpa [h1] using h)]
  · rfl
theorem su_go (h0 : j < b) (h : lt d[j]! d[j - 1]! = true) : shiftUp lt b j d = shiftUp lt b (j + 1) (swp d j (j - 1)) := by
  conv => lhs; rw [shiftUp, if_pos h0, if_neg (by simpa using h)]
theorem pi_eq {s i1 : Nat} (h : scanSorted lt d b i = i1) : partialIns lt a b (s + 1) i d = if i1 = b then (d, true) else if b - a < 50 then (d, false) else
    partialIns lt a b s i1 (if b - i1 ≥ 2 then shiftUp lt b (i1 + 1) (if i1 - a ≥ 2 then shiftDown lt (i1 - 1) (swp d i1 (i1 - 1)) else swp d i1 (i1 - 1)) else (if i1 - a ≥ 2 then shiftDown lt (i1 - 1) (swp d i1 (i1 - 1)) else swp d i1 (i1 - 1))) := by
  subst h; rfl
end
end Go.Abs
namespace Go.Abs
set_option linter.unusedVariables false
set_option linter.unusedSimpArgs false
open Go.Sort
section
variable {P : Program} {G : Nat → D} {wr : Bool} {Q : Exit → Env → AH → Prop} {env : Env} {A : AH}
/-- Many ways to one place, or out of it. -/
def joinQ (I : Env → AH → Prop) (Q : Exit → Env → AH → Prop) : Exit → Env → AH → Prop
  | .normal, e, A => I e A
  | x, e, A => Q x e A
theorem w_joinQ {c : Code} (I : Env → AH → Prop) (h1 : aw P G wr c (joinQ I Q) env A) (h2 : ∀ e A, I e A → Q .normal e A) : aw P G wr c Q env A :=
  aw_mono c h1 fun ex e A h => by
    cases ex with
    | normal => exact h2 e A h
    | exit i => exact h
    | ret => exact h
    | goto i => exact h
    | panic c => exact h
    | outgrown => exact h
theorem j_n {I : Env → AH → Prop} (h : I env A) : joinQ I Q .normal env A := h
theorem j_r {I : Env → AH → Prop} (h : Q .ret env A) : joinQ I Q .ret env A := h
theorem j_e {I : Env → AH → Prop} {i : Nat} (h : Q (.exit i) env A) : joinQ I Q (.exit i) env A := h
end
theorem setH_comm {h : Heap} {i j : Nat} {a b : List D} (hne : i ≠ j) : setH (setH h i a) j b = setH (setH h j b) i a := by
  funext x
  unfold setH
  by_cases h1 : x = j
  · subst h1; rw [if_pos rfl, if_neg (fun e => hne e.symm), if_pos rfl]
  · rw [if_neg h1, if_neg h1]
theorem put_one {h : Heap} {c : Nat} {x d : D} (hc : h c = some [x]) : Heap.put h c 0 d = setH h c [d] := by
  funext i
  unfold Heap.put setH
  split
  · rw [hc]; rfl
  · rfl
theorem hset_new {h : Heap} {id k : Nat} {cs : List D} {zs : List D} (hne : k ≠ id) : (fun i => if i = k then some zs else setH h id cs i) = setH (setH h k zs) id cs := by
  funext i
  unfold setH
  by_cases h1 : i = k
  · subst h1; simp [hne]
  · simp [h1]
theorem put_new {h : Heap} {id k : Nat} {cs : List D} {z d : D} (hne : k ≠ id) : Heap.put (fun i => if i = k then some [z] else setH h id cs i) k 0 d = setH (setH h k [d]) id cs := by
  rw [hset_new hne, put_one (x := z) (by rw [setH_off hne, setH_at]), setH_comm (fun e => hne e.symm), setH_setH]
theorem fresh_off {h : Heap} {id k : Nat} {cs : List D} (hk : setH h id cs k = none) : k ≠ id ∧ h k = none := by
  by_cases e : k = id
  · subst e; rw [setH_at] at hk; cases hk
  · exact ⟨e, by rw [setH_off e] at hk; exact hk⟩
theorem keep_new {h h2 : Heap} {k : Nat} {l : List Nat} {cs : List D} (hk : h k = none) (hK : Keep h h2 l) : Keep h (setH h2 k cs) l := fun x hx hn => by
  rw [setH_off (fun e => hn (by rw [e]; exact hk))]; exact hK x hx hn
theorem and_mask (x : Int) {m : Nat} (hm : m < 2 ^ 63) : ∃ z : Nat, z ≤ m ∧ IntKind.u64.wrap ((BitVec.ofInt IntKind.u64.bits x &&& BitVec.ofInt IntKind.u64.bits (m : Int)).toNat : Int) = (z : Int) := by
  refine ⟨(BitVec.ofInt IntKind.u64.bits x &&& BitVec.ofInt IntKind.u64.bits (m : Int)).toNat, ?_, ?_⟩
  · rw [BitVec.toNat_and]
    refine Nat.le_trans Nat.and_le_right ?_
    have : (BitVec.ofInt IntKind.u64.bits (m : Int)).toNat = m := by
      show (BitVec.ofInt 64 (m : Int)).toNat = m
      rw [BitVec.ofInt_natCast, BitVec.toNat_ofNat]
      exact Nat.mod_eq_of_lt (by omega)
    omega
  · refine w64_id ?_
    exact (BitVec.ofInt IntKind.u64.bits x &&& BitVec.ofInt IntKind.u64.bits (m : Int)).isLt
theorem bitLen_two {x : Nat} : 0 < x → x < 2 ^ 64 → 2 ^ Lib.bitLen x ≤ 2 * x := by
  induction x using Nat.strongRecOn with
  | _ x ih =>
    intro h0 h1
    rw [Lib.bitLen_half x (by omega) h1, Nat.pow_add]
    by_cases h : x / 2 = 0
    · rw [h, show Lib.bitLen 0 = 0 by decide]; omega
    · have := ih (x / 2) (by omega) (by omega) (by omega)
      omega
/-- What the sort of a part leaves. -/
def pdqPost (h : Heap) (id : Nat) (sp : List D) (d : Array FF) (a b : Nat) : D → Heap → Prop :=
  fun _ h' => ∃ (h2 : Heap) (d2 : Array FF), h' = setH h2 id (fls d2 ++ sp) ∧ PermIn a b d d2 ∧ SortedIn ltQ a b d2 ∧ Keep h h2 []
end Go.Abs
namespace Go.Abs
set_option linter.unusedVariables false
set_option linter.unusedSimpArgs false
open Go.Sort
def s16 : Nat := 2 ^ (1074 - 4)
theorem fy_val_k (p : Nat) (hp : p = 1074) (hs : s16 = 2 ^ (p - 4)) {b : Nat} {n : Int} (h : Fy 4 b n) : Fx b (n * (s16 : Nat)) := by rw [hs]; exact h.val hp (by omega)
theorem fy_val {b : Nat} {n : Int} (h : Fy 4 b n) : Fx b (n * (s16 : Nat)) := fy_val_k 1074 rfl s16.eq_1 h
theorem fy_back_k (p : Nat) (hp : p = 1074) (hs : s16 = 2 ^ (p - 4)) {b : Nat} {n : Int} (h : Fx b (n * (s16 : Nat))) : Fy 4 b n := by rw [hs] at h; exact Fy.mk hp (by omega) h
theorem fy_back {b : Nat} {n : Int} (h : Fx b (n * (s16 : Nat))) : Fy 4 b n := fy_back_k 1074 rfl s16.eq_1 h
theorem s16_pos_k (p : Nat) (hs : s16 = 2 ^ (p - 4)) : 0 < s16 := by rw [hs]; exact Nat.two_pow_pos _
theorem s16_pos : (0 : Int) < (s16 : Nat) := by have := s16_pos_k 1074 s16.eq_1; omega
/-- A float that stands for so many sixteenths. -/
structure S6 where
  b : Nat
  x : Int
  h : Fy 4 b x
def S6.f (s : S6) : FF := ⟨s.b, s.x * (s16 : Nat), fy_val s.h⟩
def sixRow (l : List S6) : Array FF := (l.map S6.f).toArray
theorem sixRow_size (l : List S6) : (sixRow l).size = l.length := by simp [sixRow]
theorem six_sorted {l : List S6} {d' : Array FF} {s : List Int} (hp : PermIn 0 l.length (sixRow l) d') (ho : SortedIn ltQ 0 l.length d') (h1 : s.Perm (l.map S6.x)) (h2 : s.Pairwise (· ≤ ·)) {i : Nat} (hi : i < l.length) : Fy 4 (d'[i]!).b (s[i]!) := by
  obtain ⟨hsz, _, hperm⟩ := hp
  have hs0 := sixRow_size l
  have e1 : d'.extract 0 l.length = d' := by rw [← hs0, ← hsz]; exact Array.extract_size
  have e2 : (sixRow l).extract 0 l.length = sixRow l := by rw [← hs0]; exact Array.extract_size
  rw [e1, e2] at hperm
  have hm : (sixRow l).toList.map FF.v = (l.map S6.x).map (· * ((s16 : Nat) : Int)) := by
    simp only [sixRow, List.map_map]; rfl
  have key : d'.toList.map FF.v = s.map (· * ((s16 : Nat) : Int)) := by
    refine List.Perm.eq_of_pairwise (le := fun a b : Int => a ≤ b) (fun a b _ _ h h' => by omega) ?_ ?_ ((hperm.map FF.v).trans (by rw [hm]; exact (h1.map _).symm))
    · rw [List.pairwise_map, List.pairwise_iff_getElem]
      intro i j hi hj hij
      have hi' : i < d'.size := by simpa using hi
      have hj' : j < d'.size := by simpa using hj
      have := ho i j (Nat.zero_le _) hij (by omega)
      rw [getElem!_pos d' j hj', getElem!_pos d' i hi'] at this
      simp only [ltQ, decide_eq_false_iff_not] at this
      simp only [Array.getElem_toList]
      omega
    · rw [List.pairwise_map]
      exact h2.imp fun h => Int.mul_le_mul_of_nonneg_right h (Int.le_of_lt s16_pos)
  have hd : i < d'.size := by omega
  have hls : s.length = l.length := by rw [h1.length_eq, List.length_map]
  have e3 := congrArg (fun x : List Int => x[i]?) key
  simp only [List.getElem?_map, Array.getElem?_toList, Array.getElem?_eq_getElem hd, List.getElem?_eq_getElem (show i < s.length by omega), Option.map_some, Option.some.injEq] at e3
  rw [getElem!_pos d' i hd, getElem!_pos s i (by omega)]
  refine fy_back ?_
  rw [← e3]; exact d'[i].h

/-! The reference's. -/
def sixN (v : V) : Int := v.num * (16 : Int).tdiv v.den
theorem Six.sixN {x n d : Int} (h : Six x n d) : Go.Abs.sixN (num n d) = x := by
  show n * (16 : Int).tdiv d = x
  have e := h.eq
  rcases h.dd with rfl | rfl | rfl | rfl | rfl
  · rw [show (16 : Int).tdiv 1 = 16 by decide]; omega
  · rw [show (16 : Int).tdiv 2 = 8 by decide]; omega
  · rw [show (16 : Int).tdiv 4 = 4 by decide]; omega
  · rw [show (16 : Int).tdiv 8 = 2 by decide]; omega
  · rw [show (16 : Int).tdiv 16 = 1 by decide]; omega
/-- A number of the reference. -/
def IsSix (v : V) : Prop := ∃ n d x, v = num n d ∧ Six x n d
def insV (x : V) : List V → List V
  | [] => [x]
  | y :: ys => if sixN x < sixN y then x :: y :: ys else y :: insV x ys
theorem insV_cut {x : V} : ∀ {out : List V} {k : Nat}, k ≤ out.length → (∀ y ∈ out.take k, ¬ sixN x < sixN y) → (∀ h : k < out.length, sixN x < sixN out[k]) → insV x out = out.take k ++ (x :: out.drop k)
  | [], k, hk, _, _ => by simp at hk; subst hk; rfl
  | y :: ys, 0, _, _, h => by
    have := h (by simp)
    simp only [List.getElem_cons_zero] at this
    simp only [insV, if_pos this, List.take_zero, List.drop_zero, List.nil_append]
  | y :: ys, k + 1, hk, h1, h2 => by
    have hy := h1 y (by simp)
    simp only [insV, if_neg hy, List.take_succ_cons, List.drop_succ_cons, List.cons_append]
    rw [insV_cut (out := ys) (k := k) (by simpa using hk) (fun z hz => h1 z (by simp [hz])) (fun h => by have := h2 (by simpa using h); simpa using this)]
theorem insV_perm (x : V) : ∀ out : List V, (insV x out).Perm (x :: out)
  | [] => List.Perm.refl _
  | y :: ys => by
    unfold insV; split
    · exact List.Perm.refl _
    · exact ((insV_perm x ys).cons y).trans (List.Perm.swap x y ys)
theorem insV_sorted (x : V) : ∀ {out : List V}, out.Pairwise (fun a b => sixN a ≤ sixN b) → (insV x out).Pairwise (fun a b => sixN a ≤ sixN b)
  | [], _ => by simp [insV]
  | y :: ys, h => by
    have h' := List.pairwise_cons.1 h
    unfold insV; split
    · rename_i hlt
      refine List.pairwise_cons.2 ⟨fun z hz => ?_, h⟩
      rcases List.mem_cons.1 hz with rfl | hz
      · omega
      · have := h'.1 z hz; omega
    · rename_i hge
      refine List.pairwise_cons.2 ⟨fun z hz => ?_, insV_sorted x h'.2⟩
      rcases List.mem_cons.1 ((insV_perm x ys).mem_iff.1 hz) with rfl | hz
      · omega
      · exact h'.1 z hz
def sortedV (l : List V) : List V := l.foldl (fun o x => insV x o) []
theorem sortedV_succ {l : List V} {i : Nat} (h : i < l.length) : sortedV (l.take (i + 1)) = insV l[i] (sortedV (l.take i)) := by
  unfold sortedV; rw [List.take_succ_eq_append_getElem h, List.foldl_append]; rfl
theorem sorted_aux : ∀ (l o : List V), (l.foldl (fun o x => insV x o) o).Perm (l ++ o) ∧ (o.Pairwise (fun a b => sixN a ≤ sixN b) → (l.foldl (fun o x => insV x o) o).Pairwise (fun a b => sixN a ≤ sixN b))
  | [], o => ⟨List.Perm.refl _, fun h => h⟩
  | x :: l, o => by
    obtain ⟨h1, h2⟩ := sorted_aux l (insV x o)
    exact ⟨h1.trans (((insV_perm x o).append_left l).trans List.perm_middle), fun h => h2 (insV_sorted x h)⟩
theorem sortedV_perm (l : List V) : (sortedV l).Perm l := by have := (sorted_aux l []).1; rw [List.append_nil] at this; exact this
theorem sortedV_sorted (l : List V) : (sortedV l).Pairwise (fun a b => sixN a ≤ sixN b) := (sorted_aux l []).2 List.Pairwise.nil
theorem sortedV_len (l : List V) : (sortedV l).length = l.length := (sortedV_perm l).length_eq
theorem sortedV_mem {l : List V} {v : V} (h : v ∈ sortedV l) : v ∈ l := (sortedV_perm l).mem_iff.1 h

def addV (a b : V) : V := if a.kind = 1 ∧ b.kind = 1 then fracD (sixN a + sixN b) 16 else doubt
def mean2 (a b : V) : V := if (addV (addV (num 0 1) a) b).kind = 1 then fracD (addV (addV (num 0 1) a) b).num ((addV (addV (num 0 1) a) b).den * 2) else addV (addV (num 0 1) a) b
def medianV (l : List V) : V :=
  if l.length = 0 then errV [35, 78, 85, 77, 33] else if l.length % 2 = 1 then (sortedV l).getD (l.length / 2) noV else mean2 ((sortedV l).getD (l.length / 2 - 1) noV) ((sortedV l).getD (l.length / 2) noV)
/-- What the middle of numbers is, as a float. -/
def MedW (L : List Int) (r : Nat) : Prop := ∀ s : List Int, s.Perm L → s.Pairwise (· ≤ ·) → (L.length % 2 = 1 → Fy 4 r (s[L.length / 2]!)) ∧ (L.length % 2 = 0 → Fy 5 r (s[L.length / 2 - 1]! + s[L.length / 2]!))
theorem fracD16 (n : Int) : fracD n 16 = sixV n := by
  unfold fracD
  rw [if_pos (by rw [Int.mul_tmod_left]), Int.mul_tdiv_cancel _ (by decide)]
theorem six_zero : sixN (num 0 1) = 0 := by decide
theorem sixV_of {x n d : Int} (h : Six x n d) : sixV x = num n d := by
  have e := h.eq
  have lo := h.lo
  have hi := h.hi
  have od := h.od
  unfold sixV finV
  rcases h.dd with rfl | rfl | rfl | rfl | rfl <;> ((repeat' split) <;> first | (exfalso; omega) | (unfold num; congr 1; omega))
theorem median_ok {l : List V} (h6 : ∀ v ∈ l, IsSix v) (hne : ¬ l.length = 0) :
    medianV l = doubt ∨ ∃ x n d, medianV l = num n d ∧ Six x n d ∧ ∀ r, MedW (l.map sixN) r → Fy 4 r x := by
  have hs6 : ∀ i, (h : i < (sortedV l).length) → IsSix (sortedV l)[i] := fun i h => h6 _ (sortedV_mem (List.getElem_mem h))
  have hlen := sortedV_len l
  have hP : ((sortedV l).map sixN).Perm (l.map sixN) := (sortedV_perm l).map _
  have hS : ((sortedV l).map sixN).Pairwise (· ≤ ·) := List.pairwise_map.2 (sortedV_sorted l)
  have hget : ∀ i, (h : i < (sortedV l).length) → ((sortedV l).map sixN)[i]! = sixN (sortedV l)[i] := fun i h => by
    rw [getElem!_pos _ i (by rw [List.length_map]; exact h), List.getElem_map]
  have hgD : ∀ i, (h : i < (sortedV l).length) → (sortedV l).getD i noV = (sortedV l)[i] := fun i h => by
    rw [List.getD_eq_getElem?_getD, List.getElem?_eq_getElem h]; rfl
  unfold medianV
  rw [if_neg hne]
  by_cases ho : l.length % 2 = 1
  · rw [if_pos ho, hgD _ (by omega)]
    obtain ⟨n, d, x, e, hx⟩ := hs6 (l.length / 2) (by omega)
    refine .inr ⟨x, n, d, e, hx, fun r hr => ?_⟩
    have := (hr _ hP hS).1 (by rw [List.length_map]; exact ho)
    rw [List.length_map, hget _ (by omega), e, hx.sixN] at this
    exact this
  · rw [if_neg ho, hgD _ (by omega), hgD _ (by omega)]
    obtain ⟨n1, d1, x1, e1, hx1⟩ := hs6 (l.length / 2 - 1) (by omega)
    obtain ⟨n2, d2, x2, e2, hx2⟩ := hs6 (l.length / 2) (by omega)
    have hr' : ∀ r, MedW (l.map sixN) r → Fy 5 r (x1 + x2) := fun r hr => by
      have := (hr _ hP hS).2 (by rw [List.length_map]; omega)
      rw [List.length_map, hget _ (by omega), hget _ (by omega), e1, e2, hx1.sixN, hx2.sixN] at this
      exact this
    rw [e1, e2]
    have a1 : addV (num 0 1) (num n1 d1) = num n1 d1 := by
      unfold addV
      rw [if_pos ⟨rfl, rfl⟩, six_zero, Int.zero_add, hx1.sixN, fracD16, sixV_of hx1]
    unfold mean2
    rw [a1]
    have a2 : addV (num n1 d1) (num n2 d2) = sixV (x1 + x2) := by
      unfold addV
      rw [if_pos ⟨rfl, rfl⟩, hx1.sixN, hx2.sixN, fracD16]
    rw [a2]
    rcases sixV_cases (x1 + x2) with e | ⟨n, d, e, hx⟩
    · rw [e]; exact .inl (if_neg (by decide))
    · rw [e, if_pos (show (num n d).kind = 1 from rfl)]
      rw [show fracD (num n d).num ((num n d).den * 2) = fracD n (d * 2) from rfl]
      unfold fracD
      by_cases hd : (n * 16).tmod (d * 2) = 0
      · rw [if_pos hd]
        have hd0 : 0 < d := hx.pos.1
        have hq : (n * 16).tdiv (d * 2) * (d * 2) = n * 16 := by
          have := Int.tmod_add_mul_tdiv (n * 16) (d * 2)
          rw [hd, Int.zero_add, Int.mul_comm] at this; exact this
        have h2 : (n * 16).tdiv (d * 2) * 2 = x1 + x2 := by
          have he := hx.eq
          rw [he] at hq
          have : (n * 16).tdiv (d * 2) * 2 * d = (x1 + x2) * d := by rw [← hq, he, Int.mul_assoc, Int.mul_comm 2 d]
          exact Int.eq_of_mul_eq_mul_right (by omega) this
        rcases sixV_cases ((n * 16).tdiv (d * 2)) with e' | ⟨n', d', e', hx'⟩
        · exact .inl e'
        · refine .inr ⟨_, n', d', e', hx', fun r hr => ?_⟩
          have h5 := hr' r hr
          rw [← h2] at h5
          exact Fy.down (k := 4) (j := 1) h5
      · rw [if_neg hd]; exact .inl rfl
theorem half2 {x : Int} (h : x % 2 = 0) (h1 : -4000000000000000000 ≤ x) (h2 : x ≤ 4000000000000000000) : IntKind.i64.wrap (x.tdiv 2) = x / 2 := by
  rw [tdiv_two h, wrap_id (by omega) (by omega)]
/-! Which arguments are taken. -/
def okMc (c : V) : Bool := kOKv c && ((!decide (c.kind = 3)) && (!decide (c.kind = 2) || lettersB c.text))
def okM (v : V) : Bool := decide (v.kind = 1) || (decide (v.kind = 5) && (v.rows.flatten.map U.v).all okMc)
def n1 (l : List V) : List V := l.filter fun v => decide (v.kind = 1)
def numsV (l : List V) : List V := n1 (flatV l)
theorem n1_app (a b : List V) : n1 (a ++ b) = n1 a ++ n1 b := List.filter_append ..
theorem n1_succ {l : List V} {j : Nat} (h : j < l.length) : n1 (l.take (j + 1)) = n1 (l.take j) ++ if l[j].kind = 1 then [l[j]] else [] := by
  rw [List.take_succ_eq_append_getElem h, n1_app]
  congr 1
  by_cases hk : l[j].kind = 1 <;> simp [n1, hk]
theorem n1_len (l : List V) : (n1 l).length ≤ l.length := List.length_filter_le _ _
def midD (l : List V) : D := if l.all okM then .tup [lst (numsV l), bl true] else .tup [.im [] 0, bl false]
theorem mid_bad {l : List V} {i : Nat} (h : i < l.length) (hb : okM l[i] = false) : midD l = .tup [.im [] 0, bl false] := if_neg (by
  intro hall
  have := List.all_eq_true.1 hall _ (List.getElem_mem h)
  rw [hb] at this; cases this)
def calmV (l : List V) : V := if l.all okM then medianV (numsV l) else doubt
theorem Six.q {x n d : Int} (h : Six x n d) : ∃ k : Int, (16 : Int).tdiv d = k ∧ 1 ≤ k ∧ k ≤ 16 ∧ n * k = x ∧ ¬ d = 0 := by
  have e := h.sixN
  have hd := h.dd
  refine ⟨_, rfl, ?_, ?_, e, by omega⟩ <;> rcases hd with rfl | rfl | rfl | rfl | rfl <;> decide
theorem IsSix.kind {v : V} (h : IsSix v) : v.kind = 1 := by obtain ⟨n, d, x, rfl, _⟩ := h; rfl
theorem cut_lst {l : List V} {a b : Nat} (hb : b ≤ l.length) : ((l.flatMap V.c).take (b * 5)).drop (a * 5) = ((l.take b).drop a).flatMap V.c := by
  have e1 : (l.flatMap V.c).take (b * 5) = (l.take b).flatMap V.c := by
    conv => lhs; rw [← List.take_append_drop b l, List.flatMap_append]
    rw [List.take_left' (by rw [len_lst, List.length_take]; congr 1; omega)]
  rw [e1]
  rcases Nat.lt_or_ge (l.take b).length a with h | h
  · rw [List.drop_of_length_le (by rw [len_lst]; omega), List.drop_of_length_le (Nat.le_of_lt h)]; rfl
  · conv => lhs; rw [← List.take_append_drop a (l.take b), List.flatMap_append]
    rw [List.drop_left' (by rw [len_lst, List.length_take]; congr 1; omega)]
theorem cut_two' {l : List V} {i : Nat} (h : i + 1 < l.length) : ((l.take (i + 1 + 1)).drop i) = [l[i], l[i + 1]] := by
  rw [List.drop_take, List.drop_eq_getElem_cons (by omega), List.drop_eq_getElem_cons h, show i + 1 + 1 - i = 2 by omega]; rfl
theorem mean2_eq {n1 d1 x1 n2 d2 x2 : Int} (hx1 : Six x1 n1 d1) (hx2 : Six x2 n2 d2) : mean2 (num n1 d1) (num n2 d2) = if (sixV (x1 + x2)).kind = 1 then fracD (sixV (x1 + x2)).num ((sixV (x1 + x2)).den * 2) else sixV (x1 + x2) := by
  have a1 : addV (num 0 1) (num n1 d1) = num n1 d1 := by
    unfold addV
    rw [if_pos ⟨rfl, rfl⟩, six_zero, Int.zero_add, hx1.sixN, fracD16, sixV_of hx1]
  have a2 : addV (num n1 d1) (num n2 d2) = sixV (x1 + x2) := by
    unfold addV
    rw [if_pos ⟨rfl, rfl⟩, hx1.sixN, hx2.sixN, fracD16]
  unfold mean2
  rw [a1, a2]
theorem mid_arg {v : V} {F : List V} (h1 : ¬ v.kind = 1) (hF : flatV [v] = F) (hb : (decide (v.kind = 5) && F.all kOKv) = false) : okM v = false := by
  unfold okM
  rw [decide_eq_false h1, Bool.false_or]
  by_cases hk : v.kind = 5
  · rw [decide_eq_true hk, Bool.true_and] at hb ⊢
    rw [show v.rows.flatten.map U.v = F by rw [← hF, flatV_one, if_pos hk]]
    obtain ⟨x, hx, h2⟩ := List.all_eq_false.1 hb
    exact List.all_eq_false.2 ⟨x, hx, by unfold okMc; simp only [Bool.not_eq_true] at h2; rw [h2]; simp⟩
  · rw [decide_eq_false hk]; rfl
theorem cut_mid {l : List V} {i : Nat} (h : i < l.length) (h0 : 0 < i) : ((l.take (i + 1)).drop (i - 1)) = [l[i - 1], l[i]] := by
  obtain ⟨j, rfl⟩ : ∃ j, i = j + 1 := ⟨i - 1, by omega⟩
  exact cut_two' h
theorem medianV_zero {l : List V} (h : l.length = 0) : medianV l = errV [35, 78, 85, 77, 33] := if_pos h
theorem medianV_odd {l : List V} (h0 : ¬ l.length = 0) (ho : (sortedV l).length % 2 = 1) (hi : (sortedV l).length / 2 < (sortedV l).length) : medianV l = (sortedV l)[(sortedV l).length / 2] := by
  unfold medianV
  rw [if_neg h0, ← sortedV_len l, if_pos ho, List.getD_eq_getElem?_getD, List.getElem?_eq_getElem hi]; rfl
theorem medianV_even {l : List V} (h0 : ¬ l.length = 0) (ho : (sortedV l).length % 2 = 0) (hi : (sortedV l).length / 2 < (sortedV l).length) : medianV l = mean2 ((sortedV l)[(sortedV l).length / 2 - 1]'(by omega)) (sortedV l)[(sortedV l).length / 2] := by
  unfold medianV
  rw [if_neg h0, ← sortedV_len l, if_neg (by omega), List.getD_eq_getElem?_getD, List.getElem?_eq_getElem (show (sortedV l).length / 2 - 1 < (sortedV l).length by omega), List.getD_eq_getElem?_getD, List.getElem?_eq_getElem hi]; rfl
end Go.Abs
namespace Go.Abs
set_option linter.unusedVariables false
set_option linter.unusedSimpArgs false
open Go.Sort
def ValRow (H0 h : Heap) (d : D) (vs : List Nat) : Prop := Keep H0 h [] ∧ IsRow h 1 d vs.length (vs.map fl) ∧ ∀ k n c, d = .hs k 0 n c → H0 k = none
theorem ValRow.nil (h : Heap) : ValRow h h (.sc (.slice none 0 0)) [] := ⟨Keep.refl _ _, .inl ⟨rfl, rfl, rfl⟩, fun k n c e => by cases e⟩
section
variable {P : Program} {G : Nat → D} {A : AH} {o : Oper} {ρ : Operand → D} {S : AH → Prop} {wr : Bool}
theorem ao_appVal {T e : TypeId} {z : Value} {s x : Operand} [hT : UN P T (.slice e)] [hZ : ZV P e 8 [z]] {H0 : Heap} {d dx : D} {vs : List Nat} {b : Nat} {Kv : D → AH → Prop} (ho : o.op = .call { callee := .builtin .append, args := #[s, x], argTypes := #[T, T] }) (hs : ρ s = d) (hrow : ValRow H0 A.h d vs) (hx : ρ x = dx) (hd : slc dx = some ([fl b], 1)) (hm : vs.length < 1000000)
    (hK : ∀ d' h', ValRow H0 h' d' (vs ++ [b]) → Kv d' { A with h := h' }) : AOp P G true o ρ A Kv := by
  obtain ⟨hK0, hR, hF⟩ := hrow
  refine ao_appendRow (zs := [z]) (m := 1) ho hs hR hx hd (by decide) rfl (by omega) (by simp only [maxLen]; omega) fun k' cap' sp hk hc1 hc2 hl => ?_
  have hfr : H0 k' = none := by
    rcases hk with hk | ⟨c, e⟩
    · cases hh : H0 k' with
      | none => rfl
      | some cs => have := hK0 k' (by simp) (by rw [hh]; simp); rw [hk, hh] at this; cases this
    · exact hF _ _ _ e
  have hln : (vs ++ [b]).length = vs.length + 1 := by simp
  have hmp : (vs ++ [b]).map fl = vs.map fl ++ [fl b] := by simp
  have := hK (.hs k' 0 (vs.length + 1) cap') (A.hset k' (vs.map fl ++ [fl b] ++ sp)).h ⟨fun x hx hn => ?_, .inr ⟨k', cap', sp, by rw [hln], by rw [hmp]; simp [AH.hset], by rw [hln]; simp, by rw [hmp]; exact hl, by rw [hln]; exact hc1, hc2, by omega⟩, fun k n c e => by cases e; exact hfr⟩
  · exact this
  · have h1 : x ≠ k' := fun e => hn (e ▸ hfr)
    simp only [AH.hset]
    rw [if_neg h1]; exact hK0 x hx hn
theorem q_lenRow {T e : TypeId} {x : Operand} [hT : UN P T (.slice e)] {h : Heap} {n sz : Nat} {d : D} {xs : List D} (ho : o.op = .call { callee := .builtin .len, args := #[x], argTypes := #[T] }) (hx : ρ x = d) (hR : IsRow h sz d n xs) : AQ P G wr o ρ S (i64 n) := by
  rcases hR with ⟨rfl, _, rfl⟩ | ⟨k, cap, sp, rfl, _⟩
  · exact q_len ho hx rfl
  · exact q_lenHs ho hx
end
/-- The numbers among arguments. -/
def numF (l : List F) : List Nat := (l.filter fun f => decide (f.ty = 1)).map F.num
theorem numF_app (a b : List F) : numF (a ++ b) = numF a ++ numF b := by simp [numF]
theorem numF_succ {l : List F} {i : Nat} (h : i < l.length) : numF (l.take (i + 1)) = numF (l.take i) ++ if l[i].ty = 1 then [l[i].num] else [] := by
  rw [List.take_succ_eq_append_getElem h, numF_app]
  congr 1
  by_cases hk : l[i].ty = 1 <;> simp [numF, hk]
theorem numF_len (l : List F) : (numF l).length ≤ l.length := by simp only [numF, List.length_map]; exact List.length_filter_le _ _
theorem flat_succ {α : Type} {R : List (List α)} {i : Nat} (h : i < R.length) : (R.take (i + 1)).flatten = (R.take i).flatten ++ R[i] := by
  rw [List.take_succ_eq_append_getElem h, List.flatten_append]; simp
theorem flat_le {α : Type} {R : List (List α)} {i : Nat} (h : i < R.length) : (R.take i).flatten.length + R[i].length ≤ R.flatten.length := by
  have h1 := flat_succ h
  have h2 : R.flatten = (R.take (i + 1)).flatten ++ (R.drop (i + 1)).flatten := by rw [← List.flatten_append, List.take_append_drop]
  rw [h2, h1, List.length_append, List.length_append]; omega
/-- What has been gathered before the i-th argument: a table first, single values behind it. -/
def gath (R : List (List F)) (fs : List F) (i : Nat) : List Nat := if i = 0 then [] else numF R.flatten ++ numF (fs.take (i - 1))
theorem gath_len (R : List (List F)) (fs : List F) (i : Nat) : (gath R fs i).length ≤ R.flatten.length + fs.length := by
  unfold gath
  split
  · simp
  · rw [List.length_append]
    have a := numF_len R.flatten
    have b := numF_len (fs.take (i - 1))
    rw [List.length_take] at b
    omega
/-! The middle. -/
theorem fls_six (L : List S6) : fls (sixRow L) = (L.map S6.b).map fl := by
  simp [fls, sixRow, S6.f, Function.comp_def]
def msI (L : List Int) : List Int := L.mergeSort (fun a b => decide (a ≤ b))
theorem msI_perm (L : List Int) : (msI L).Perm L := List.mergeSort_perm _ _
theorem msI_sorted (L : List Int) : (msI L).Pairwise (· ≤ ·) := by
  have := List.pairwise_mergeSort (le := fun a b : Int => decide (a ≤ b)) (fun a b c h1 h2 => by simp only [decide_eq_true_eq] at *; omega) (fun a b => by simp only [Bool.or_eq_true, decide_eq_true_eq]; omega) L
  exact this.imp fun h => of_decide_eq_true h
theorem med_odd {L : List S6} {d2 : Array FF} (hp : PermIn 0 L.length (sixRow L) d2) (ho : SortedIn ltQ 0 L.length d2) (hod : L.length % 2 = 1) : MedW (L.map S6.x) (d2[L.length / 2]!).b := fun s h1 h2 => by
  rw [List.length_map]
  exact ⟨fun _ => six_sorted hp ho h1 h2 (by omega), fun e => by omega⟩
theorem med_even {L : List S6} {d2 : Array FF} (hp : PermIn 0 L.length (sixRow L) d2) (ho : SortedIn ltQ 0 L.length d2) (hev : L.length % 2 = 0) (h0 : ¬ L.length = 0) (hb : ∀ s ∈ L, s.x.natAbs < 2 ^ 45) :
    ∃ r q, floatBits .add .f64 (d2[L.length / 2 - 1]!).b (d2[L.length / 2]!).b = some r ∧ floatBits .quo .f64 r 4611686018427387904 = some q ∧ MedW (L.map S6.x) q := by
  have hP := msI_perm (L.map S6.x)
  have hS := msI_sorted (L.map S6.x)
  have hl : (msI (L.map S6.x)).length = L.length := by rw [hP.length_eq, List.length_map]
  have hbd : ∀ i, i < L.length → ((msI (L.map S6.x))[i]!).natAbs < 2 ^ 45 := fun i hi => by
    have hm : (msI (L.map S6.x))[i]! ∈ L.map S6.x := by
      rw [getElem!_pos _ i (by omega)]
      exact hP.mem_iff.1 (List.getElem_mem _)
    obtain ⟨s, hs, e⟩ := List.mem_map.1 hm
    rw [← e]; exact hb s hs
  have f1 := six_sorted hp ho hP hS (i := L.length / 2 - 1) (by omega)
  have f2 := six_sorted hp ho hP hS (i := L.length / 2) (by omega)
  have b1 := hbd (L.length / 2 - 1) (by omega)
  have b2 := hbd (L.length / 2) (by omega)
  generalize hx : (msI (L.map S6.x))[L.length / 2 - 1]! = x at *
  generalize hy : (msI (L.map S6.x))[L.length / 2]! = y at *
  obtain ⟨r, hr, fr⟩ := Fy.add (by omega) f1 f2 (by omega)
  have e16 : ((2 ^ 4 : Nat) : Int) = 16 := rfl
  have e32 : ((2 ^ 5 : Nat) : Int) = 32 := rfl
  have e1 : ((2 ^ 0 : Nat) : Int) = 1 := rfl
  obtain ⟨q, hq, fq⟩ := Fy.div (k := 4) (l := 0) (j := 5) (q := x + y) (by omega) (by omega) (by omega) fr fy_two (by omega) (by rw [e1, e16, e32]; omega) (by omega)
  refine ⟨r, q, hr, hq, fun s h1 h2 => ?_⟩
  rw [List.length_map]
  refine ⟨fun e => by omega, fun _ => ?_⟩
  have g1 := six_sorted hp ho h1 h2 (i := L.length / 2 - 1) (by omega)
  have g2 := six_sorted hp ho h1 h2 (i := L.length / 2) (by omega)
  rw [Fy.inj g1 f1, Fy.inj g2 f2]
  exact fq
theorem MedW.fx {L : List Int} {r : Nat} (h : MedW L r) : ∃ x, Fx r x := by
  rcases Nat.mod_two_eq_zero_or_one L.length with e | e
  · obtain ⟨v, hv, _⟩ := (h _ (msI_perm L) (msI_sorted L)).2 e; exact ⟨v, hv⟩
  · obtain ⟨v, hv, _⟩ := (h _ (msI_perm L) (msI_sorted L)).1 e; exact ⟨v, hv⟩
end Go.Abs
namespace Go.Abs
set_option linter.unusedVariables false
set_option linter.unusedSimpArgs false
def NUM_ : List UInt8 := [35, 78, 85, 77, 33]
theorem it_six (x : It) (h : (itV x).kind = 1) : IsSix (itV x) := by
  unfold itV at h ⊢
  (repeat' split at h) <;> (try simp_all [strV, boolV, errV, noV])
  · by_cases hn : 99999999999 < x.num ∨ x.num < -99999999999
    · rw [intV_doubt hn] at h; exact absurd h (by decide)
    · rw [intV_num hn]; exact ⟨x.num, 1, x.num * 16, rfl, sixWhole (by omega)⟩
  · rcases sixV_cases (x.num.tmod 1099511627776 * 4) with e | ⟨m, d, e, hs⟩
    · rw [e] at h; exact absurd h (by decide)
    · rw [e]; exact ⟨m, d, _, rfl, hs⟩
theorem cell_six (l : List It) (n : Nat) (h : (cellU l n).v.kind = 1) : IsSix (cellU l n).v := by
  unfold cellU at h ⊢
  split
  · rename_i hn; rw [dif_pos hn] at h; rw [itU_v] at h ⊢; exact it_six _ h
  · rename_i hn; rw [dif_neg hn] at h; exact absurd h (by decide)
theorem errsT_short (i : Nat) (h : i < 7) : (errsT[i]'h).length < 4000000000 := by
  have : ∀ i (h : i < 7), (errsT[i]'h).length < 4000000000 := by decide
  exact this i h
theorem it_text (x : It) (h : x.text.length ≤ 2147483647) : (itV x).text.length < 4000000000 := by
  unfold itV
  (repeat' split)
  · unfold intV; split <;> simp [doubt]
  · rcases sixV_cases (x.num.tmod 1099511627776 * 4) with e | ⟨m, d, e, _⟩ <;> rw [e] <;> simp [doubt, num]
  · show x.text.length < _; omega
  · simp [boolV]
  · exact errsT_short _ _
  · simp [noV]
theorem cell_text (l : List It) (n : Nat) (h : ∀ x ∈ l, x.text.length ≤ 2147483647) : (cellU l n).v.text.length < 4000000000 := by
  unfold cellU
  split
  · rename_i hn; rw [itU_v]; exact it_text _ (h _ (List.getElem_mem hn))
  · simp [noU, U.v]
/-- Numbers of the reference as floats. -/
theorem six_list {l : List V} (h : ∀ v ∈ l, IsSix v) : ∃ S : List S6, S.map S6.b = l.map (fun v => clean (qV v)) ∧ S.map S6.x = l.map sixN ∧ ∀ s ∈ S, s.x.natAbs < 2 ^ 45 ∧ s.b < 2 ^ 64 := by
  induction l with
  | nil => exact ⟨[], rfl, rfl, fun s hs => by cases hs⟩
  | cons v l ih =>
    obtain ⟨S, h1, h2, h3⟩ := ih fun w hw => h w (List.mem_cons_of_mem _ hw)
    obtain ⟨n, d, x, rfl, hx⟩ := h v List.mem_cons_self
    have hq := (qV_six hx).2.1
    have hqb := (qV_six hx).2.2
    refine ⟨⟨clean (qV (num n d)), x, hq.clean⟩ :: S, by simp [h1], by simp [h2, hx.sixN], fun s hs => ?_⟩
    rcases List.mem_cons.1 hs with rfl | hs
    · have := hx.bound; exact ⟨show x.natAbs < _ by omega, clean_lt hqb⟩
    · exact h3 s hs
theorem ok_kok {c : V} (h : okMc c = true) : kOKv c = true ∧ ¬ c.kind = 3 := by
  unfold okMc at h
  simp only [Bool.and_eq_true, Bool.not_eq_true', decide_eq_false_iff_not] at h
  exact ⟨h.1, h.2.1⟩
theorem cells_num {l : List U} (h : ∀ u ∈ l, Sort2 u.v ∧ ¬ u.v.kind = 3) : numF (l.map fun u => innX (IU.v (cvX u))) = (n1 (l.map U.v)).map fun v => clean (qV v) := by
  induction l with
  | nil => rfl
  | cons u l ih =>
    obtain ⟨h1, h3⟩ := h u List.mem_cons_self
    have h2 := ih fun u hu => h u (List.mem_cons_of_mem _ hu)
    simp only [numF, n1, List.map_cons, List.filter_cons] at h2 ⊢
    rw [cvX_v h1]
    generalize hw : u.v = w at *
    cases h1 with
    | none => simpa [innX, ivX, noV, iNone, fEmpty] using h2
    | num n d x hq hx =>
      have e1 : innX (ivX (num n d)) = fNum (clean (qV (num n d))) := rfl
      rw [e1, if_pos (by rfl), if_pos (by rfl), List.map_cons, List.map_cons]
      exact congrArg (List.cons _) h2
    | txt s =>
      have e1 : innX (ivX (strV s)) = fStr s := rfl
      rw [e1, if_neg (by simp [fStr]), if_neg (by simp [strV])]; exact h2
    | bool c => exact absurd rfl h3
theorem nums_args (T : List (List U)) (us : List U) (hu : ∀ u ∈ us, ¬ u.v.kind = 5) : numsV (tabV T :: us.map U.v) = n1 (T.flatten.map U.v) ++ n1 (us.map U.v) := by
  have e : flatV (tabV T :: us.map U.v) = flatV [tabV T] ++ flatV (us.map U.v) := by simp [flatV]
  unfold numsV
  rw [e, flatV_one, if_pos (show (tabV T).kind = 5 from rfl), flatV_plain (fun v hv => by obtain ⟨u, hu', rfl⟩ := List.mem_map.1 hv; exact hu u hu'), n1_app]
  rfl
end Go.Abs
namespace Go.Abs
set_option linter.unusedVariables false
set_option linter.unusedSimpArgs false
theorem clean_uni {a b : Nat} (ha : a < 2 ^ 64) (hb : b < 2 ^ 64) {x : Int} (h1 : Fx a x) (h2 : Fx b x) : clean a = clean b := by
  unfold clean
  rw [fcmp_eq h1 fx_zero, fcmp_eq h2 fx_zero]
  by_cases hx : x = 0
  · subst hx; rfl
  · rw [fx_inj ha hb h1 h2 hx]
/-- The word of the middle. -/
theorem med_uni {L : List Int} {a b : Nat} (ha : a < 2 ^ 64) (hb : b < 2 ^ 64) (h1 : MedW L a) (h2 : MedW L b) : clean a = clean b := by
  have key : ∀ {k : Nat} {n : Int}, Fy k a n → Fy k b n → clean a = clean b := fun {k n} f1 f2 => by
    obtain ⟨v, hv, ev⟩ := f1
    obtain ⟨w, hw, ew⟩ := f2
    have : v = w := Int.eq_of_mul_eq_mul_right (pow_ne k) (ev.trans ew.symm)
    subst this
    exact clean_uni ha hb hv hw
  rcases Nat.mod_two_eq_zero_or_one L.length with e | e
  · exact key ((h1 _ (msI_perm L) (msI_sorted L)).2 e) ((h2 _ (msI_perm L) (msI_sorted L)).2 e)
  · exact key ((h1 _ (msI_perm L) (msI_sorted L)).1 e) ((h2 _ (msI_perm L) (msI_sorted L)).1 e)
open Classical in
noncomputable def medC (L : List Int) : Nat := if h : ∃ r, r < 2 ^ 64 ∧ MedW L r then Classical.choose h else 0
theorem medC_spec {L : List Int} {r : Nat} (h1 : r < 2 ^ 64) (h2 : MedW L r) : medC L < 2 ^ 64 ∧ MedW L (medC L) ∧ clean r = clean (medC L) := by
  have h : ∃ r, r < 2 ^ 64 ∧ MedW L r := ⟨r, h1, h2⟩
  have e : medC L = Classical.choose h := dif_pos h
  obtain ⟨a, b⟩ := Classical.choose_spec h
  rw [e]; exact ⟨a, b, med_uni h1 a h2 b⟩
noncomputable def medI (S : List S6) : IV := if S.length = 0 then iErr NUM_ else iNum (clean (medC (S.map S6.x)))
theorem med_word {S : List S6} {d2 : Array FF} (hp : Go.Sort.PermIn 0 S.length (sixRow S) d2) (hw : ∀ s ∈ S, s.b < 2 ^ 64) {i : Nat} (hi : i < S.length) : (d2[i]!).b < 2 ^ 64 := by
  have h0 := sixRow_size S
  have hd : i < d2.size := by rw [hp.1]; omega
  have := Go.Sort.permIn_all (sixRow S) d2 0 S.length (fun x => x.b < 2 ^ 64) (by omega) hp (fun j _ hj => by
    rw [getElem!_pos _ j (by omega)]
    have hm : (sixRow S)[j] ∈ (sixRow S).toList := by rw [Array.mem_toList_iff]; exact Array.getElem_mem _
    simp only [sixRow] at hm ⊢
    obtain ⟨s, hs, e⟩ := List.mem_map.1 hm
    rw [← e]; exact hw s hs)
  exact this i (Nat.zero_le _) hi
/-- There is a word for the middle. -/
theorem med_some (S : List S6) (h0 : ¬ S.length = 0) (hb : ∀ s ∈ S, s.x.natAbs < 2 ^ 45 ∧ s.b < 2 ^ 64) : ∃ r, r < 2 ^ 64 ∧ MedW (S.map S6.x) r := by
  have hs0 := sixRow_size S
  have hsort := Go.Sort.insertionSort_holds swo_ltQ (sixRow S) 0 S.length (Nat.zero_le _) (by omega)
  rcases Nat.mod_two_eq_zero_or_one S.length with e | e
  · obtain ⟨r, q, _, hq, hm⟩ := med_even hsort.1 hsort.2 e h0 (fun s hs => (hb s hs).1)
    exact ⟨q, bits_lt hq, hm⟩
  · exact ⟨_, med_word hsort.1 (fun s hs => (hb s hs).2) (i := S.length / 2) (by omega), med_odd hsort.1 hsort.2 e⟩
end Go.Abs
