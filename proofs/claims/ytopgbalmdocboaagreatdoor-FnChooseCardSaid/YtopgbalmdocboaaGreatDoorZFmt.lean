/-
  Plain facts: how the library finds the shortest digits of a number of sixteenths.
-/
import Derived.Test.YtopgbalmdocboaaGreatDoorZTx
import Derived.Test.YtopgbalmdocboaaGreatDoorZExt
import Derived.Test.YtopgbalmdocboaaGreatDoorZLi
namespace Go.Abs
set_option linter.unusedVariables false
set_option linter.unusedSimpArgs false
abbrev w64 (n : Int) : D := .sc (.int .u64 n)
theorem or_one (q : Nat) : q ||| 1 = if q % 2 = 0 then q + 1 else q := by
  have h : q ||| 1 = 2 * (q / 2) + 1 := by
    apply Nat.eq_of_testBit_eq
    intro i
    rw [Nat.testBit_or]
    cases i with
    | zero => simp [Nat.testBit_zero]
    | succ i => rw [Nat.testBit_succ, Nat.testBit_succ, Nat.testBit_succ]; simp; congr 1; omega
  rw [h]; split <;> omega
/-- The library's scaled product: two bits more than the whole part, and a mark of what is cut off. -/
def usc (x H s : Nat) : Nat := (x * H / 2 ^ (64 + s)) ||| (if 1 < x * H % 2 ^ (64 + s) then 1 else 0)
theorem usc_ge (x H s : Nat) : x * H / 2 ^ (64 + s) ≤ usc x H s ∧ usc x H s ≤ x * H / 2 ^ (64 + s) + 1 := by
  unfold usc
  split
  · rw [or_one]; split <;> omega
  · rw [Nat.or_zero]; omega
theorem usc_odd {x H s B : Nat} (h : x * H / 2 ^ (64 + s) ≤ B) (hB : B % 2 = 1) : usc x H s ≤ B := by
  unfold usc
  split
  · rw [or_one]; split <;> omega
  · rw [Nat.or_zero]; exact h
/-- The numbers of the library's table for a number of sixteenths whose highest bit is L: places, product, shift. -/
def pOf (L : Nat) : Nat := ((56 - L) * 78913 + 262143) / 262144
def pOf2 (L : Nat) : Nat := ((56 - L) * 631305 + 261663 + 2097151) / 2097152
def lpOf (p : Nat) : Nat := p * 108853 / 32768
def hiOf (p : Nat) : Nat := 10 ^ p * 2 ^ (63 - lpOf p)
def shOf (L p : Nat) : Nat := 64 - L - lpOf p
structure Sh (L p : Nat) : Prop where
  eq : 2 ^ (63 - L) * hiOf p = 4 * (10 ^ p / 16) * 2 ^ (64 + shOf L p)
  lo : 2 * 2 ^ (64 + shOf L p) ≤ 2 ^ 10 * hiOf p
  hi : 2 ^ 10 * hiOf p < 27 * 2 ^ (64 + shOf L p)
  ten : 10 ^ p / 16 % 10 = 0
  p1 : 5 ≤ p
  p2 : p ≤ 17
  s : 4 ≤ shOf L p ∧ shOf L p < 64 ∧ L + lpOf p ≤ 64
  hl : 2 ^ 63 ≤ hiOf p ∧ hiOf p < 2 ^ 64
instance (L p : Nat) : Decidable (Sh L p) :=
  decidable_of_iff ((2 ^ (63 - L) * hiOf p = 4 * (10 ^ p / 16) * 2 ^ (64 + shOf L p) ∧ 2 * 2 ^ (64 + shOf L p) ≤ 2 ^ 10 * hiOf p ∧ 2 ^ 10 * hiOf p < 27 * 2 ^ (64 + shOf L p)) ∧ (10 ^ p / 16 % 10 = 0 ∧ 5 ≤ p ∧ p ≤ 17) ∧ (4 ≤ shOf L p ∧ shOf L p < 64 ∧ L + lpOf p ≤ 64) ∧ (2 ^ 63 ≤ hiOf p ∧ hiOf p < 2 ^ 64))
    ⟨fun ⟨⟨a, b, c⟩, ⟨d, e, f⟩, g, h⟩ => ⟨a, b, c, d, e, f, g, h⟩, fun h => ⟨⟨h.eq, h.lo, h.hi⟩, ⟨h.ten, h.p1, h.p2⟩, h.s, h.hl⟩⟩
set_option maxRecDepth 10000 in
theorem sh_tab : ∀ L : Fin 41, Sh L.val (pOf L.val) ∧ Sh L.val (pOf2 L.val) := by decide
theorem sh_of {L : Nat} (h : L ≤ 40) : Sh L (pOf L) ∧ Sh L (pOf2 L) := sh_tab ⟨L, by omega⟩
section
variable {a L p m X : Nat}
theorem sh_prod (h : Sh L p) (hm : m = a * 2 ^ (63 - L)) (hX : X = a * (10 ^ p / 16)) : m * hiOf p = 4 * X * 2 ^ (64 + shOf L p) := by
  rw [hm, hX, Nat.mul_assoc, h.eq]
  rw [← Nat.mul_assoc, ← Nat.mul_assoc, Nat.mul_comm a 4, Nat.mul_assoc 4 a]
theorem sh_max (h : Sh L p) (hm : m = a * 2 ^ (63 - L)) (hX : X = a * (10 ^ p / 16)) : 4 * X + 2 ≤ usc (m + 1024) (hiOf p) (shOf L p) ∧ usc (m + 1024) (hiOf p) (shOf L p) ≤ 4 * X + 27 := by
  have h1 := sh_prod h hm hX
  have h2 := h.lo
  have h3 := h.hi
  have hD : 0 < 2 ^ (64 + shOf L p) := Nat.two_pow_pos _
  obtain ⟨k1, k2⟩ := usc_ge (m + 1024) (hiOf p) (shOf L p)
  rw [Nat.add_mul, h1] at k1 k2
  rw [show (1024 : Nat) * hiOf p = 2 ^ 10 * hiOf p from rfl] at k1 k2
  generalize 2 ^ 10 * hiOf p = δ at *
  generalize 2 ^ (64 + shOf L p) = Dd at *
  have e1 : (4 * X * Dd + δ) / Dd = δ / Dd + 4 * X := by rw [Nat.add_comm, Nat.add_mul_div_right _ _ hD]
  rw [e1] at k1 k2
  have a1 : 2 ≤ δ / Dd := (Nat.le_div_iff_mul_le hD).2 h2
  have a2 : δ / Dd < 27 := (Nat.div_lt_iff_lt_mul hD).2 h3
  omega
theorem sh_min (h : Sh L p) (hm : m = a * 2 ^ (63 - L)) (hX : X = a * (10 ^ p / 16)) (ha : 0 < a) (δ : Nat) (hδ : δ = 1024 ∨ δ = 512) (hm2 : δ ≤ m) : usc (m - δ) (hiOf p) (shOf L p) ≤ 4 * X - 1 := by
  have h1 := sh_prod h hm hX
  have h2 := h.lo
  have hD : 0 < 2 ^ (64 + shOf L p) := Nat.two_pow_pos _
  have hX0 : 0 < X := by
    rw [hX]
    refine Nat.mul_pos ha (Nat.div_pos ?_ (by omega))
    have := Nat.pow_le_pow_right (n := 10) (by omega) h.p1
    omega
  refine usc_odd ?_ (by omega)
  rw [Nat.sub_mul, h1]
  have h4 : 2 ^ (64 + shOf L p) ≤ δ * hiOf p := by
    rcases hδ with rfl | rfl
    · rw [show (1024 : Nat) * hiOf p = 2 ^ 10 * hiOf p from rfl]; omega
    · rw [show (2 : Nat) ^ 10 * hiOf p = 2 * (512 * hiOf p) by omega] at h2; omega
  generalize 2 ^ (64 + shOf L p) = Dd at *
  generalize δ * hiOf p = w at *
  have : 4 * X * Dd - w ≤ (4 * X - 1) * Dd := by rw [Nat.sub_mul]; omega
  exact Nat.le_trans (Nat.div_le_div_right this) (by rw [Nat.mul_div_cancel _ hD]; exact Nat.le_refl _)
end

/-! Words of 64 bits. -/
theorem w64_id {n : Nat} (h : n < 2 ^ 64) : IntKind.u64.wrap (n : Int) = (n : Int) := u64_wrap h
theorem w64_mod (n : Nat) : IntKind.u64.wrap (n : Int) = ((n % 2 ^ 64 : Nat) : Int) := by simp [IntKind.wrap, IntKind.signed, IntKind.bits]
theorem and_low {x : Nat} (hx : x < 2 ^ 64) (k : Nat) (hk : k ≤ 64) (m : Int) (hm : m = ((2 ^ k - 1 : Nat) : Int)) : IntKind.u64.wrap ((BitVec.ofInt IntKind.u64.bits (x : Int) &&& BitVec.ofInt IntKind.u64.bits m).toNat : Int) = ((x % 2 ^ k : Nat) : Int) := by
  subst hm
  have hkk : 2 ^ k ≤ 2 ^ 64 := Nat.pow_le_pow_right (by omega) hk
  have h1 : (2 ^ k - 1 : Nat) < 2 ^ 64 := by have := Nat.two_pow_pos k; omega
  show IntKind.u64.wrap ((BitVec.ofInt 64 (x : Int) &&& BitVec.ofInt 64 ((2 ^ k - 1 : Nat) : Int)).toNat : Int) = _
  rw [ofInt_nat, ofInt_nat, BitVec.toNat_and, BitVec.toNat_ofNat, BitVec.toNat_ofNat, Nat.mod_eq_of_lt hx, Nat.mod_eq_of_lt h1, Nat.and_two_pow_sub_one_eq_mod]
  exact w64_id (Nat.lt_of_lt_of_le (Nat.mod_lt _ (Nat.two_pow_pos k)) hkk)
theorem or_low {x y : Nat} (hx : x < 2 ^ 64) (hy : y < 2 ^ 64) : IntKind.u64.wrap ((BitVec.ofInt IntKind.u64.bits (x : Int) ||| BitVec.ofInt IntKind.u64.bits (y : Int)).toNat : Int) = ((x ||| y : Nat) : Int) := by
  show IntKind.u64.wrap ((BitVec.ofInt 64 (x : Int) ||| BitVec.ofInt 64 (y : Int)).toNat : Int) = _
  rw [ofInt_nat, ofInt_nat, BitVec.toNat_or, BitVec.toNat_ofNat, BitVec.toNat_ofNat, Nat.mod_eq_of_lt hx, Nat.mod_eq_of_lt hy]
  exact w64_id (Nat.or_lt_two_pow hx hy)
theorem shr_nat (x k m : Nat) (hk : k ≤ m) : ((x : Int)).fdiv (2 ^ min ((k : Int).toNat) m) = ((x / 2 ^ k : Nat) : Int) := by
  rw [Int.toNat_natCast, Nat.min_eq_left hk, Int.fdiv_eq_ediv_of_nonneg _ (by exact Int.le_of_lt (Int.pow_pos (by decide)))]
  rw [Int.natCast_ediv]; congr 1
/-- The product of two words, by halves. -/
theorem mul_halves (x y x0 x1 y0 y1 : Nat) (hx : x = x1 * 4294967296 + x0) (hy : y = y1 * 4294967296 + y0) : x * y = x1 * y1 * 18446744073709551616 + (x1 * y0 + x0 * y1) * 4294967296 + x0 * y0 := by
  subst hx; subst hy
  rw [Nat.add_mul, Nat.mul_add, Nat.mul_add, Nat.mul_mul_mul_comm, Nat.mul_right_comm x1 4294967296 y0, ← Nat.mul_assoc x0 y1 4294967296, Nat.add_mul]
  omega
theorem half_le {a b : Nat} (ha : a < 4294967296) (hb : b < 4294967296) : a * b ≤ 18446744065119617025 := Nat.mul_le_mul (Nat.le_of_lt_succ ha) (Nat.le_of_lt_succ hb)
theorem usc_hi {x H s hi mid : Nat} (hp : x * H = hi * 2 ^ 64 + mid) (hm : mid < 2 ^ 64) : x * H / 2 ^ (64 + s) = hi / 2 ^ s ∧ x * H % 2 ^ (64 + s) = hi % 2 ^ s * 2 ^ 64 + mid := by
  have hd : (hi * 2 ^ 64 + mid) / 2 ^ 64 = hi := by omega
  have hr : (hi * 2 ^ 64 + mid) % 2 ^ 64 = mid := by omega
  constructor
  · rw [hp, Nat.pow_add, ← Nat.div_div_eq_div_mul, hd]
  · rw [hp, Nat.pow_add, Nat.mod_mul, hr, hd]; omega

theorem cut_no {hi s : Nat} (h : ((hi / 2 ^ s * 2 ^ s : Nat) : Int) = (hi : Int)) : hi % 2 ^ s = 0 := by
  have := Nat.div_add_mod hi (2 ^ s)
  rw [Nat.mul_comm] at this
  omega
theorem cut_yes {hi s : Nat} (h : ¬ ((hi / 2 ^ s * 2 ^ s : Nat) : Int) = (hi : Int)) : 1 ≤ hi % 2 ^ s := by
  have := Nat.div_add_mod hi (2 ^ s)
  rw [Nat.mul_comm] at this
  omega
set_option maxRecDepth 10000 in
theorem and63_tab : ∀ s : Fin 64, IntKind.i64.wrap ((BitVec.ofInt 64 (s.val : Int) &&& BitVec.ofInt 64 63).toNat : Int) = (s.val : Int) := by decide
theorem and63 {s : Nat} (h : s < 64) : IntKind.i64.wrap ((BitVec.ofInt IntKind.i64.bits (s : Int) &&& BitVec.ofInt IntKind.i64.bits 63).toNat : Int) = (s : Int) := and63_tab ⟨s, h⟩
theorem shl_nat (q s : Nat) (hs : s ≤ 64) (h : q * 2 ^ s < 2 ^ 64) : IntKind.u64.wrap ((q : Int) * 2 ^ min ((s : Int).toNat) IntKind.u64.bits) = ((q * 2 ^ s : Nat) : Int) := by
  show IntKind.u64.wrap ((q : Int) * 2 ^ min ((s : Int).toNat) 64) = _
  rw [Int.toNat_natCast, Nat.min_eq_left hs, show ((q : Int) * 2 ^ s) = ((q * 2 ^ s : Nat) : Int) by rw [Int.natCast_mul, Int.natCast_pow]; rfl]
  exact w64_id h

theorem bound_of {M X E : Nat} (h1 : M = 4 * X * E) (h3 : M < 2 ^ 128) (h4 : 2 ^ 68 ≤ E) : X < 2 ^ 58 := by
  rcases Nat.lt_or_ge X (2 ^ 58) with h | h
  · exact h
  · have h5 := Nat.mul_le_mul (Nat.mul_le_mul_left 4 h) h4
    rw [← h1, show 4 * 2 ^ 58 * 2 ^ 68 = 2 ^ 128 by decide] at h5
    exact absurd h3 (Nat.not_lt.2 h5)
theorem sh_bound {a L p m X : Nat} (h : Sh L p) (hm : m = a * 2 ^ (63 - L)) (hX : X = a * (10 ^ p / 16)) (hm2 : m < 2 ^ 64) : X < 2 ^ 58 := by
  refine bound_of (sh_prod h hm hX) ?_ (Nat.pow_le_pow_right (by omega) (by have := h.s.1; omega))
  have h3 : m * hiOf p < 2 ^ 64 * 2 ^ 64 := Nat.mul_lt_mul'' hm2 h.hl.2
  rw [show 2 ^ 64 * 2 ^ 64 = 2 ^ 128 by decide] at h3
  exact h3
theorem lp_eq (p : Nat) : (p : Int) * 108853 / 32768 = ((lpOf p : Nat) : Int) := by unfold lpOf; omega
theorem pOf_eq {L : Nat} (h : L ≤ 40) : -(((L : Int) - 56) * 78913 / 262144) = ((pOf L : Nat) : Int) := by unfold pOf; omega
theorem pOf2_eq {L : Nat} (h : L ≤ 40) : -((((L : Int) - 56) * 631305 - 261663) / 2097152) = ((pOf2 L : Nat) : Int) := by unfold pOf2; omega
theorem and1_even {y : Nat} (hy : y < 2 ^ 64) (h : y % 2 = 0) : IntKind.i64.wrap ((BitVec.ofInt IntKind.i64.bits (y : Int) &&& BitVec.ofInt IntKind.i64.bits 1).toNat : Int) = 0 := by
  have e : (BitVec.ofInt IntKind.i64.bits (y : Int) &&& BitVec.ofInt IntKind.i64.bits 1).toNat = 0 := by
    rw [show IntKind.i64.bits = 64 from rfl, show (1 : Int) = ((1 : Nat) : Int) from rfl, ofInt_nat, ofInt_nat, BitVec.toNat_and, BitVec.toNat_ofNat, BitVec.toNat_ofNat, Nat.mod_eq_of_lt hy, Nat.mod_eq_of_lt (by decide), Nat.and_one_is_mod, h]
  rw [e]
  decide
/-- How many places the library takes. -/
def plS (a L : Nat) : Nat := if a * 2 ^ (63 - L) = 2 ^ 63 then pOf2 L else pOf L
theorem sh_pl {L : Nat} (h : L ≤ 40) (a : Nat) : Sh L (plS a L) := by unfold plS; split; exact (sh_of h).2; exact (sh_of h).1

/-- A scaler's parts, once they are set. -/
theorem scal_get {h : Heap} {k p : Nat} {e lp : Int} (hk : Heap.len h k = some 3) :
    Heap.get (Heap.put (Heap.put (Heap.put h k 0 (w64 (hiOf p))) k 1 (w64 0)) k 2 (i64 (-(e + lp + 3)))) k 0 = some (w64 (hiOf p)) ∧
    Heap.get (Heap.put (Heap.put (Heap.put h k 0 (w64 (hiOf p))) k 1 (w64 0)) k 2 (i64 (-(e + lp + 3)))) k 1 = some (w64 0) ∧
    Heap.get (Heap.put (Heap.put (Heap.put h k 0 (w64 (hiOf p))) k 1 (w64 0)) k 2 (i64 (-(e + lp + 3)))) k 2 = some (i64 (-(e + lp + 3))) := by
  have l1 := fun dd => len_put' (d := dd) hk (show 0 < 3 by omega)
  have l2 := fun dd => len_put' (h := Heap.put h k 0 (w64 (hiOf p))) (d := dd) ((l1 _ k).trans hk) (show 1 < 3 by omega)
  have g1 := get_put (d := w64 (hiOf p)) hk (show 0 < 3 by omega)
  have g2 := get_put (h := Heap.put h k 0 (w64 (hiOf p))) (d := w64 0) ((l1 _ k).trans hk) (show 1 < 3 by omega)
  have g3 := get_put (h := Heap.put (Heap.put h k 0 (w64 (hiOf p))) k 1 (w64 0)) (d := i64 (-(e + lp + 3))) ((l2 _ k).trans ((l1 _ k).trans hk)) (show 2 < 3 by omega)
  refine ⟨?_, ?_, ?_⟩
  · rw [g3, g2, g1]; simp
  · rw [g3, g2]; simp
  · rw [g3]; simp
end Go.Abs
