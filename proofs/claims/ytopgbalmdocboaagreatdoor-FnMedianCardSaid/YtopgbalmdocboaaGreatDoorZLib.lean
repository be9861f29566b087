/-
  Plain values of the reference, as the walks show them.
-/
import Derived.Test.YtopgbalmdocboaaGreatDoorZAbs3
namespace Go.Abs
set_option linter.unusedVariables false
set_option linter.unusedSimpArgs false

@[simp] theorem fz_bool (b : Bool) : fz (.sc (.bool b)) = .sc (.bool b) := rfl
@[simp] theorem fz_int (k : IntKind) (n : Int) : fz (.sc (.int k n)) = .sc (.int k n) := rfl
@[simp] theorem fz_float (k : FloatKind) (n : Nat) : fz (.sc (.float k n)) = .sc (.float k n) := rfl
@[simp] theorem fz_string (s : ByteArray) : fz (.sc (.string s)) = .sc (.string s) := rfl
@[simp] theorem fz_nil : fz (.sc (.slice none 0 0)) = .im [] 0 := rfl
@[simp] theorem fz_im (c : List D) (n : Nat) : fz (.im c n) = .im c n := rfl
@[simp] theorem fz_lit (c : List D) (n : Nat) : fz (.lit c n) = .im c n := rfl
@[simp] theorem fz_gs (t e : Nat) (c : List D) (n : Nat) : fz (.gs t e c n) = .im c n := rfl
@[simp] theorem fz_agg (c : List D) : fz (.agg c) = .agg (fzL c) := rfl
@[simp] theorem fz_tup (c : List D) : fz (.tup c) = .tup (fzL c) := rfl
@[simp] theorem fzL_nil : fzL [] = [] := rfl
@[simp] theorem fzL_cons (d : D) (ds : List D) : fzL (d :: ds) = fz d :: fzL ds := rfl

/-- A single value; a value. -/
structure U where
  kind : Int
  num : Int
  den : Int
  text : List UInt8
structure V where
  kind : Int
  num : Int
  den : Int
  text : List UInt8
  rows : List (List U)
def U.v (u : U) : V := ⟨u.kind, u.num, u.den, u.text, []⟩
def U.c (v : U) : List D := [i64 v.kind, i64 v.num, i64 v.den, st v.text, .im [] 0]
def lstU (l : List U) : D := .im (l.flatMap U.c) l.length
def V.c (v : V) : List D := [i64 v.kind, i64 v.num, i64 v.den, st v.text, .im (v.rows.map lstU) v.rows.length]
def V.d (v : V) : D := .agg (V.c v)
def lst (l : List V) : D := .im (l.flatMap V.c) l.length
def tabV (rows : List (List U)) : V := ⟨5, 0, 0, [], rows⟩

def doubt : V := ⟨6, 0, 0, [], []⟩
def intV (n : Int) : V := if 99999999999 < n ∨ n < -99999999999 then doubt else ⟨1, n, 1, [], []⟩
def strV (s : List UInt8) : V := ⟨2, 0, 0, s, []⟩
def errV (s : List UInt8) : V := ⟨4, 0, 0, s, []⟩
def boolV (b : Bool) : V := ⟨3, if b then 1 else 0, 0, [], []⟩
def noV : V := ⟨0, 0, 0, [], []⟩

theorem flat_take {α : Type} (c : α → List D) (k : Nat) (hk : ∀ a, (c a).length = k) : ∀ (l : List α) (i : Nat) (h : i < l.length), ((l.flatMap c).drop (i * k)).take k = c l[i] ∧ i * k + k ≤ (l.flatMap c).length
  | a :: l, 0, h => by
    simp only [List.flatMap_cons, Nat.zero_mul, List.drop_zero, List.getElem_cons_zero, List.length_append, hk]
    exact ⟨by rw [List.take_append_of_le_length (by rw [hk]; exact Nat.le_refl _), List.take_of_length_le (by rw [hk]; exact Nat.le_refl _)], by omega⟩
  | a :: l, i + 1, h => by
    have ih := flat_take c k hk l i (by simpa using h)
    have e : (i + 1) * k = k + i * k := by rw [Nat.add_mul]; omega
    simp only [List.flatMap_cons, List.getElem_cons_succ, List.length_append, hk]
    rw [e]
    refine ⟨?_, by omega⟩
    rw [← ih.1, List.drop_append, hk, List.drop_eq_nil_of_le (by rw [hk]; omega)]
    simp
theorem length_flat {α : Type} (c : α → List D) (k : Nat) (hk : ∀ a, (c a).length = k) : ∀ l : List α, (l.flatMap c).length = l.length * k
  | [] => by simp
  | a :: l => by rw [List.flatMap_cons, List.length_append, hk, length_flat c k hk l, List.length_cons, Nat.add_mul]; omega

theorem c_len (v : V) : (V.c v).length = 5 := rfl
theorem cU_len (v : U) : (U.c v).length = 5 := rfl
theorem take_flat {α : Type} (c : α → List D) (k : Nat) (hk : ∀ a, (c a).length = k) {l : List α} {i : Nat} (h : i < l.length) : takeAt true k (l.flatMap c) ((i : Int).toNat * k) = some (.agg (c l[i])) := by
  have := flat_take c k hk l i h
  simp only [takeAt, Int.toNat_natCast, cond_true]
  rw [if_pos this.2, this.1]
theorem take_flat1 {α : Type} (c : α → List D) (k : Nat) (hk : ∀ a, (c a).length = k) {l : List α} {i j : Nat} (h : i < l.length) (hj : j < k) : takeAt false 1 (l.flatMap c) ((i : Int).toNat * k + j) = (c l[i])[j]? := by
  have := flat_take c k hk l i h
  simp only [takeAt, Int.toNat_natCast, cond_false]
  rw [← this.1, List.getElem?_take, if_pos hj, List.getElem?_drop]
theorem take_lst {l : List V} {i : Nat} (h : i < l.length) : takeAt true 5 (l.flatMap V.c) ((i : Int).toNat * 5) = some (.agg (V.c l[i])) := take_flat V.c 5 c_len h
/-- One cell of an element. -/
theorem take_lst1 {l : List V} {i j : Nat} (h : i < l.length) (hj : j < 5) : takeAt false 1 (l.flatMap V.c) ((i : Int).toNat * 5 + j) = (V.c l[i])[j]? := take_flat1 V.c 5 c_len h hj
theorem take_map {α : Type} (c : α → D) {l : List α} {i : Nat} (h : i < l.length) : takeAt false 1 (l.map c) ((i : Int).toNat * 1) = some (c l[i]) := by
  simp [takeAt, h]
theorem len_lst (l : List V) : (l.flatMap V.c).length = l.length * 5 := length_flat V.c 5 c_len l
theorem len_lstU (l : List U) : (l.flatMap U.c).length = l.length * 5 := length_flat U.c 5 cU_len l

theorem wrap_id {n : Int} (h1 : -9223372036854775808 ≤ n) (h2 : n ≤ 9223372036854775807) : IntKind.i64.wrap n = n := by rw [IntKind.wrap_i64]; omega
theorem wrap_nat {i : Nat} (h : i < 4611686018427387904) : IntKind.i64.wrap ((i : Int) + 1) = ((i + 1 : Nat) : Int) := by rw [wrap_id (by omega) (by omega)]; omega

/-- A slot that counts. -/
def ctr (d : D) : Nat := match d with
  | .sc (.int _ n) => n.toNat
  | _ => 0
theorem i64_eq {a b : Int} (h : a = b) : i64 a = i64 b := by rw [h]

/-! What the reference's functions answer. -/
def flatV (l : List V) : List V := l.flatMap fun v => if v.kind = 5 then v.rows.flatten.map U.v else [v]
theorem flatV_append (a b : List V) : flatV (a ++ b) = flatV a ++ flatV b := List.flatMap_append
theorem flatV_one (v : V) : flatV [v] = if v.kind = 5 then v.rows.flatten.map U.v else [v] := by simp only [flatV, List.flatMap_cons, List.flatMap_nil, List.append_nil]
theorem flatV_ne {l : List V} {i : Nat} (h : i < l.length) (hk : ¬ l[i].kind = 5) : flatV (l.take (i + 1)) = flatV (l.take i) ++ [l[i]] := by
  rw [List.take_succ_eq_append_getElem h, flatV_append, flatV_one, if_neg hk]
theorem flatV_eq {l : List V} {i : Nat} (h : i < l.length) (hk : l[i].kind = 5) : flatV (l.take (i + 1)) = flatV (l.take i) ++ l[i].rows.flatten.map U.v := by
  rw [List.take_succ_eq_append_getElem h, flatV_append, flatV_one, if_pos hk]
theorem flatV_le (l : List V) (i : Nat) : (flatV (l.take i)).length ≤ (flatV l).length := by
  have : flatV l = flatV (l.take i) ++ flatV (l.drop i) := by rw [← flatV_append, List.take_append_drop]
  rw [this, List.length_append]; omega
theorem flatV_le' {l : List V} {i : Nat} (h : i < l.length) (hk : l[i].kind = 5) (j : Nat) : (flatV (l.take i) ++ (l[i].rows.take j).flatten.map U.v).length ≤ (flatV l).length := by
  refine Nat.le_trans ?_ (flatV_le l (i + 1))
  rw [flatV_eq h hk, List.length_append, List.length_append, List.length_map, List.length_map]
  have : l[i].rows.flatten = (l[i].rows.take j).flatten ++ (l[i].rows.drop j).flatten := by rw [← List.flatten_append, List.take_append_drop]
  rw [this, List.length_append]
  omega
theorem gs_cat {t e : Nat} (X Y : List V) : D.gs t e (X.flatMap V.c ++ Y.flatMap V.c) (X.length + Y.length) = .gs t e ((X ++ Y).flatMap V.c) (X ++ Y).length := by rw [List.flatMap_append, List.length_append]
theorem live_app (A : AH) (t : Nat) : (A.app t).live A.ln = true := by simp [AH.app, AH.row, AH.kill]
theorem flatten_succ {rows : List (List U)} {j : Nat} (h : j < rows.length) : (rows.take (j + 1)).flatten.map U.v = (rows.take j).flatten.map U.v ++ rows[j].map U.v := by
  rw [List.take_succ_eq_append_getElem h, List.flatten_append, List.map_append]
  congr 1
  rw [List.flatten_cons, List.flatten_nil, List.append_nil]
theorem gs_eq {t e : Nat} {cs cs' : List D} {n n' : Nat} (h : cs = cs') (h' : n = n') : D.gs t e cs n = .gs t e cs' n' := by rw [h, h']
def isK (k : Int) (v : V) : Bool := decide (v.kind = k)
def firstV (l : List V) : V × Bool :=
  match l.find? (isK 6) with
  | some v => (v, true)
  | none => match l.find? (isK 4) with
    | some v => (v, true)
    | none => (noV, false)
theorem take_all {l : List V} {i : Nat} {Q : V → Prop} (h : l.length ≤ i) (hp : ∀ v ∈ l.take i, Q v) : ∀ v ∈ l, Q v := fun v hv => hp v (by rw [List.take_of_length_le h]; exact hv)
theorem take_more {l : List V} {i : Nat} {Q : V → Prop} (h : i < l.length) (hp : ∀ v ∈ l.take i, Q v) (hi : Q l[i]) : ∀ v ∈ l.take (i + 1), Q v := fun v hv => by
  rw [List.take_succ_eq_append_getElem h] at hv
  rcases List.mem_append.1 hv with hv | hv
  · exact hp v hv
  · simp at hv; subst hv; exact hi
theorem flatV_plain {l : List V} (h : ∀ v ∈ l, ¬ v.kind = 5) : flatV l = l := by
  induction l with
  | nil => rfl
  | cons v l ih =>
    have : flatV (v :: l) = flatV [v] ++ flatV l := flatV_append [v] l
    rw [this, flatV_one, if_neg (h v (by simp)), ih fun x hx => h x (by simp [hx])]
    rfl
theorem lst_U (r : List U) : lst (r.map U.v) = lstU r := by
  simp only [lst, lstU, List.length_map, List.flatMap_map]
  rfl
def num (n d : Int) : V := ⟨1, n, d, [], []⟩

/-- Whole numbers. -/
def nums (ns : List Int) : List V := ns.map fun n => num n 1
/-- What a list must be, to be laid flat. -/
structure Ok (l : List V) : Prop where
  len : l.length < 1000000000
  flat : (flatV l).length < 1000000000
  rows : ∀ v ∈ l, v.kind = 5 → v.rows.length < 1000000000 ∧ ∀ r ∈ v.rows, r.length < 1000000000 ∧ ∀ u ∈ r, ¬ u.kind = 5
theorem Ok.plain {l : List V} (h : l.length < 1000000000) (hk : ∀ v ∈ l, ¬ v.kind = 5) : Ok l := ⟨h, by rw [flatV_plain hk]; exact h, fun v hv e => absurd e (hk v hv)⟩
end Go.Abs
