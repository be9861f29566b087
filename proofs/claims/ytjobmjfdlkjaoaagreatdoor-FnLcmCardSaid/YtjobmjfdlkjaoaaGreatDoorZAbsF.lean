/-
  The abstract logic, part F: operations that ask nothing of the state.
-/
import Derived.Test.YtjobmjfdlkjaoaaGreatDoorZAbsE
namespace Go.Abs
set_option linter.unusedVariables false
set_option linter.unusedSimpArgs false

class UN (P : Program) (T : TypeId) (d : outParam TypeDesc) : Prop where
  eq : P.underlying T = some d

/-- A text's bytes. -/
abbrev str (l : List UInt8) : Value := .string ⟨⟨l⟩⟩
abbrev i64 (n : Int) : D := .sc (.int .i64 n)
abbrev bl (b : Bool) : D := .sc (.bool b)
abbrev st (l : List UInt8) : D := .sc (str l)

section
variable {P : Program} {G : Nat → D} {wr : Bool} {o : Oper} {ρ : Operand → D} {S : AH → Prop}

theorem AQ.run {v : D} (h : ∀ (g : Gh) (l : Lo) (Prot : Nat → Prop) (w : World) (a : Act) (A : AH), S A → Rel P G g l A wr Prot w → (∀ x ∈ o.op.operands, rep g l (ρ x) (a.eval x)) →
    ∃ cv, (execOp a.eval o).run P w = .ok (.value cv) w ∧ rep g l v cv) : AQ P G wr o ρ S v := by
  intro g l Prot w a A hS hr hx K Q hk
  obtain ⟨cv, h1, h2⟩ := h g l Prot w a A hS hr hx
  unfold Oper.wp
  rw [h1]
  exact hk g w cv (Fr.refl _ _ _) hr h2

/-- The same of scalars alone. -/
theorem AQ.scal {v : Value} (h : ∀ (w : World) (a : Act), (∀ x ∈ o.op.operands, ∀ u, ρ x = .sc u → a.eval x = u) → (execOp a.eval o).run P w = .ok (.value v) w) : AQ P G wr o ρ S (.sc v) :=
  AQ.run fun g l _ w a _ _ _ hx => ⟨v, h w a fun x hm u hu => by have := hx x hm; rw [hu] at this; simpa [rep] using this, by simp [rep]⟩

theorem q_move {x : Operand} (ho : o.op = .move x) : AQ P G wr o ρ S (ρ x) :=
  AQ.run fun g l _ w a _ _ _ hx => ⟨a.eval x, by simp [execOp, ho], hx x (by simp [ho, Op.operands])⟩
theorem q_assign {x : Operand} (ho : o.op = .assign x) : AQ P G wr o ρ S (ρ x) :=
  AQ.run fun g l _ w a _ _ _ hx => ⟨a.eval x, by simp [execOp, ho], hx x (by simp [ho, Op.operands])⟩

theorem q_pick {c x y : Operand} {b : Bool} {d : D} (ho : o.op = .pick c x y) (hc : ρ c = .sc (.bool b)) (hd : (bif b then ρ x else ρ y) = d) : AQ P G wr o ρ S d :=
  AQ.run fun g l _ w a _ _ _ hx => by
    have h1 : a.eval c = .bool b := by have := hx c (by simp [ho, Op.operands]); rw [hc] at this; simpa [rep] using this
    subst hd
    cases b with
    | true => exact ⟨a.eval x, by simp [execOp, ho, h1, asBool], hx x (by simp [ho, Op.operands])⟩
    | false => exact ⟨a.eval y, by simp [execOp, ho, h1, asBool], hx y (by simp [ho, Op.operands])⟩

/-- Two scalars. -/
theorem q_bin {op : BinOp} {T U : TypeId} {x y : Operand} {a b v : Value} (ho : o.op = .binOp op T x y U) (hx : ρ x = .sc a) (hy : ρ y = .sc b) (hg : ∀ w, (eqGuard op T x y a b).run P w = .ok () w) (hb : ∀ w, (binOp op T a b).run P w = .ok v w) : AQ P G wr o ρ S (.sc v) :=
  AQ.scal fun w ac h => by
    have h1 := h x (by simp [ho, Op.operands]) a hx
    have h2 := h y (by simp [ho, Op.operands]) b hy
    simp only [execOp, ho, h1, h2, Sem.run_bind, hg, hb, Result.andThen_ok, Sem.run_pure]

theorem guard_int {op : BinOp} {T : TypeId} {x y : Operand} {k k' : IntKind} {a b : Int} (w : World) : (eqGuard op T x y (.int k a) (.int k' b)).run P w = .ok () w := by
  unfold eqGuard; cases op <;> rfl
theorem guard_bool {op : BinOp} {T : TypeId} {x y : Operand} {a b : Bool} (w : World) : (eqGuard op T x y (.bool a) (.bool b)).run P w = .ok () w := by
  unfold eqGuard; cases op <;> rfl
theorem guard_float {op : BinOp} {T : TypeId} {x y : Operand} {k k' : FloatKind} {a b : Nat} (w : World) : (eqGuard op T x y (.float k a) (.float k' b)).run P w = .ok () w := by
  unfold eqGuard; cases op <;> rfl
theorem guard_string {op : BinOp} {T : TypeId} {x y : Operand} {a b : ByteArray} (w : World) : (eqGuard op T x y (.string a) (.string b)).run P w = .ok () w := by
  unfold eqGuard; cases op <;> rfl

section
variable {T U : TypeId} {x y : Operand} {k : IntKind} {a b : Int}

theorem q_add (ho : o.op = .binOp .add T x y U) (hx : ρ x = .sc (.int k a)) (hy : ρ y = .sc (.int k b)) : AQ P G wr o ρ S (.sc (.int k (k.wrap (a + b)))) :=
  q_bin ho hx hy guard_int fun w => by simp [binOp, Op.intArith]
theorem q_sub (ho : o.op = .binOp .sub T x y U) (hx : ρ x = .sc (.int k a)) (hy : ρ y = .sc (.int k b)) : AQ P G wr o ρ S (.sc (.int k (k.wrap (a - b)))) :=
  q_bin ho hx hy guard_int fun w => by simp [binOp, Op.intArith]
theorem q_mul (ho : o.op = .binOp .mul T x y U) (hx : ρ x = .sc (.int k a)) (hy : ρ y = .sc (.int k b)) : AQ P G wr o ρ S (.sc (.int k (k.wrap (a * b)))) :=
  q_bin ho hx hy guard_int fun w => by simp [binOp, Op.intArith]
theorem q_quo (ho : o.op = .binOp .quo T x y U) (hx : ρ x = .sc (.int k a)) (hy : ρ y = .sc (.int k b)) (h0 : b ≠ 0) : AQ P G wr o ρ S (.sc (.int k (k.wrap (a.tdiv b)))) :=
  q_bin ho hx hy guard_int fun w => by simp [binOp, Op.intDiv, h0]
theorem q_rem (ho : o.op = .binOp .rem T x y U) (hx : ρ x = .sc (.int k a)) (hy : ρ y = .sc (.int k b)) (h0 : b ≠ 0) : AQ P G wr o ρ S (.sc (.int k (a.tmod b))) :=
  q_bin ho hx hy guard_int fun w => by simp [binOp, Op.intDiv, h0]
theorem q_and (ho : o.op = .binOp .and T x y U) (hx : ρ x = .sc (.int k a)) (hy : ρ y = .sc (.int k b)) : AQ P G wr o ρ S (.sc (.int k (k.wrap ((BitVec.ofInt k.bits a &&& BitVec.ofInt k.bits b).toNat : Int)))) :=
  q_bin ho hx hy guard_int fun w => by simp [binOp, Op.intBits]
theorem q_or (ho : o.op = .binOp .or T x y U) (hx : ρ x = .sc (.int k a)) (hy : ρ y = .sc (.int k b)) : AQ P G wr o ρ S (.sc (.int k (k.wrap ((BitVec.ofInt k.bits a ||| BitVec.ofInt k.bits b).toNat : Int)))) :=
  q_bin ho hx hy guard_int fun w => by simp [binOp, Op.intBits]
theorem q_xor (ho : o.op = .binOp .xor T x y U) (hx : ρ x = .sc (.int k a)) (hy : ρ y = .sc (.int k b)) : AQ P G wr o ρ S (.sc (.int k (k.wrap ((BitVec.ofInt k.bits a ^^^ BitVec.ofInt k.bits b).toNat : Int)))) :=
  q_bin ho hx hy guard_int fun w => by simp [binOp, Op.intBits]
theorem q_andNot (ho : o.op = .binOp .andNot T x y U) (hx : ρ x = .sc (.int k a)) (hy : ρ y = .sc (.int k b)) : AQ P G wr o ρ S (.sc (.int k (k.wrap ((BitVec.ofInt k.bits a &&& ~~~ BitVec.ofInt k.bits b).toNat : Int)))) :=
  q_bin ho hx hy guard_int fun w => by simp [binOp, Op.intBits]
theorem q_shl {k' : IntKind} (ho : o.op = .binOp .shl T x y U) (hx : ρ x = .sc (.int k a)) (hy : ρ y = .sc (.int k' b)) (h0 : 0 ≤ b) : AQ P G wr o ρ S (.sc (.int k (k.wrap (a * 2 ^ min b.toNat k.bits)))) :=
  q_bin ho hx hy guard_int fun w => by simp [binOp, Op.shift, Int.not_lt.2 h0]
theorem q_shr {k' : IntKind} (ho : o.op = .binOp .shr T x y U) (hx : ρ x = .sc (.int k a)) (hy : ρ y = .sc (.int k' b)) (h0 : 0 ≤ b) : AQ P G wr o ρ S (.sc (.int k (a.fdiv (2 ^ min b.toNat k.bits)))) :=
  q_bin ho hx hy guard_int fun w => by simp [binOp, Op.shift, Int.not_lt.2 h0]
theorem q_eql (ho : o.op = .binOp .eql T x y U) (hx : ρ x = .sc (.int k a)) (hy : ρ y = .sc (.int k b)) : AQ P G wr o ρ S (.sc (.bool (decide (a = b)))) :=
  q_bin ho hx hy guard_int fun w => by simp [binOp, Op.intCmp, Bool.beq_eq_decide_eq]
theorem q_neq (ho : o.op = .binOp .neq T x y U) (hx : ρ x = .sc (.int k a)) (hy : ρ y = .sc (.int k b)) : AQ P G wr o ρ S (.sc (.bool (decide (¬ a = b)))) :=
  q_bin ho hx hy guard_int fun w => by simp [binOp, Op.intCmp, bne, Bool.beq_eq_decide_eq]
theorem q_lss (ho : o.op = .binOp .lss T x y U) (hx : ρ x = .sc (.int k a)) (hy : ρ y = .sc (.int k b)) : AQ P G wr o ρ S (.sc (.bool (decide (a < b)))) :=
  q_bin ho hx hy guard_int fun w => by simp [binOp, Op.intCmp]
theorem q_leq (ho : o.op = .binOp .leq T x y U) (hx : ρ x = .sc (.int k a)) (hy : ρ y = .sc (.int k b)) : AQ P G wr o ρ S (.sc (.bool (decide (a ≤ b)))) :=
  q_bin ho hx hy guard_int fun w => by simp [binOp, Op.intCmp]
theorem q_gtr (ho : o.op = .binOp .gtr T x y U) (hx : ρ x = .sc (.int k a)) (hy : ρ y = .sc (.int k b)) : AQ P G wr o ρ S (.sc (.bool (decide (b < a)))) :=
  q_bin ho hx hy guard_int fun w => by simp [binOp, Op.intCmp]
theorem q_geq (ho : o.op = .binOp .geq T x y U) (hx : ρ x = .sc (.int k a)) (hy : ρ y = .sc (.int k b)) : AQ P G wr o ρ S (.sc (.bool (decide (b ≤ a)))) :=
  q_bin ho hx hy guard_int fun w => by simp [binOp, Op.intCmp]
theorem q_not {c : Bool} (ho : o.op = .unOp .not T x) (hx : ρ x = .sc (.bool c)) : AQ P G wr o ρ S (.sc (.bool (!c))) :=
  AQ.scal fun w ac h => by
    have h1 := h x (by simp [ho, Op.operands]) _ hx
    simp [execOp, ho, h1, Op.unary]
theorem q_neg (ho : o.op = .unOp .neg T x) (hx : ρ x = .sc (.int k a)) : AQ P G wr o ρ S (.sc (.int k (k.wrap (0 - a)))) :=
  AQ.scal fun w ac h => by
    have h1 := h x (by simp [ho, Op.operands]) _ hx
    simp [execOp, ho, h1, Op.unary, Op.intArith]
end

section
variable {T U : TypeId} {x y : Operand}
theorem q_eqb [hT : UN P T .bool] {a b : Bool} (ho : o.op = .binOp .eql T x y U) (hx : ρ x = .sc (.bool a)) (hy : ρ y = .sc (.bool b)) : AQ P G wr o ρ S (.sc (.bool (decide (a = b)))) :=
  q_bin ho hx hy guard_bool fun w => by rw [run_eql_bool w T a b hT.eq, Bool.beq_eq_decide_eq]
theorem q_neb [hT : UN P T .bool] {a b : Bool} (ho : o.op = .binOp .neq T x y U) (hx : ρ x = .sc (.bool a)) (hy : ρ y = .sc (.bool b)) : AQ P G wr o ρ S (.sc (.bool (decide (¬ a = b)))) :=
  q_bin ho hx hy guard_bool fun w => by rw [run_neq_bool w T a b hT.eq, Bool.beq_eq_decide_eq]; simp

/-- Texts. -/
theorem q_eqs {a b : List UInt8} (ho : o.op = .binOp .eql T x y U) (hx : ρ x = st a) (hy : ρ y = st b) : AQ P G wr o ρ S (.sc (.bool (decide (a = b)))) :=
  q_bin ho hx hy guard_string fun w => by rw [binOp_string_eql]; simp [ByteArray.toList_eq, Bool.beq_eq_decide_eq]
theorem q_nes {a b : List UInt8} (ho : o.op = .binOp .neq T x y U) (hx : ρ x = st a) (hy : ρ y = st b) : AQ P G wr o ρ S (.sc (.bool (decide (¬ a = b)))) :=
  q_bin ho hx hy guard_string fun w => by rw [binOp_string_neq]; simp [ByteArray.toList_eq, Bool.beq_eq_decide_eq]
theorem q_lts {a b : List UInt8} (ho : o.op = .binOp .lss T x y U) (hx : ρ x = st a) (hy : ρ y = st b) : AQ P G wr o ρ S (.sc (.bool (Op.bytesLess a b))) :=
  q_bin ho hx hy guard_string fun w => by rw [binOp_string_lss]; simp [ByteArray.toList_eq]
theorem q_gts {a b : List UInt8} (ho : o.op = .binOp .gtr T x y U) (hx : ρ x = st a) (hy : ρ y = st b) : AQ P G wr o ρ S (.sc (.bool (!(Op.bytesLess a b || decide (a = b))))) :=
  q_bin ho hx hy guard_string fun w => by simp [binOp, Op.stringOp, ByteArray.toList_eq, Bool.beq_eq_decide_eq]
theorem q_cat {a b : List UInt8} (ho : o.op = .binOp .add T x y U) (hx : ρ x = st a) (hy : ρ y = st b) (hlen : a.length + b.length ≤ 4611686018427387904) : AQ P G wr o ρ S (st (a ++ b)) :=
  q_bin ho hx hy guard_string fun w => by
    have hs : ∀ l : List UInt8, (⟨⟨l⟩⟩ : ByteArray).size = l.length := fun l => rfl
    have h1 : ¬ ((((⟨⟨a⟩⟩ : ByteArray).size + (⟨⟨b⟩⟩ : ByteArray).size : Nat) : Int) > IntKind.i64.max) := by
      rw [hs, hs]; simp only [IntKind.max, IntKind.signed, IntKind.bits]; omega
    rw [binOp_string_add]
    simp only [Op.stringOp]
    rw [if_neg h1]
    rfl

/-- Floats. -/
theorem q_farith {op : BinOp} {k : FloatKind} {a b r : Nat} (ho : o.op = .binOp op T x y U) (hx : ρ x = .sc (.float k a)) (hy : ρ y = .sc (.float k b)) (hr : floatBits op k a b = some r) : AQ P G wr o ρ S (.sc (.float k r)) :=
  q_bin ho hx hy guard_float fun w => run_float_arith w op T k a b r hr

def fcmp (op : BinOp) (k : FloatKind) (a b : Nat) : Bool :=
  let c := k.format.order a b
  match op with
  | .eql => c == some .eq
  | .neq => c != some .eq
  | .lss => c == some .lt
  | .leq => c == some .lt || c == some .eq
  | .gtr => c == some .gt
  | .geq => c == some .gt || c == some .eq
  | _ => false
def isCmp : BinOp → Bool
  | .eql | .neq | .lss | .leq | .gtr | .geq => true
  | _ => false
theorem q_fcmp {op : BinOp} {k : FloatKind} {a b : Nat} (ho : o.op = .binOp op T x y U) (hop : isCmp op = true) (hx : ρ x = .sc (.float k a)) (hy : ρ y = .sc (.float k b)) : AQ P G wr o ρ S (.sc (.bool (fcmp op k a b))) :=
  q_bin ho hx hy guard_float fun w => by
    cases op <;> first | (cases hop; done) | simp [binOp, Op.floatCmp, fcmp]
theorem q_fneg {k : FloatKind} {a : Nat} (ho : o.op = .unOp .neg T x) (hx : ρ x = .sc (.float k a)) : AQ P G wr o ρ S (.sc (.float k (Op.negFloat k a))) :=
  AQ.scal fun w ac h => by
    have h1 := h x (by simp [ho, Op.operands]) _ hx
    simp [execOp, ho, h1, Op.unary]
end

/-! Conversions. -/
section
variable {T U : TypeId} {x : Operand}
theorem q_cii {du : TypeDesc} {k k' : IntKind} [hT : UN P T du] [hU : UN P U (.int k')] {n : Int} (ho : o.op = .convert T U x) (hx : ρ x = .sc (.int k n)) : AQ P G wr o ρ S (.sc (.int k' (k'.wrap n))) :=
  AQ.scal fun w ac h => by
    have h1 := h x (by simp [ho, Op.operands]) _ hx
    simp only [execOp, ho, h1, convert, Sem.run_bind, run_underlying hT.eq, run_underlying hU.eq, Result.andThen_ok]
    cases du <;> simp [Conv.intToInt]
theorem q_cif {du : TypeDesc} {k : IntKind} {k' : FloatKind} [hT : UN P T du] [hU : UN P U (.float k')] {n : Int} (ho : o.op = .convert T U x) (hx : ρ x = .sc (.int k n)) : AQ P G wr o ρ S (.sc (.float k' (k'.nearest n))) :=
  AQ.scal fun w ac h => by
    have h1 := h x (by simp [ho, Op.operands]) _ hx
    simp only [execOp, ho, h1, convert, Sem.run_bind, run_underlying hT.eq, run_underlying hU.eq, Result.andThen_ok]
    cases du <;> simp [Conv.intToFloat]
theorem q_cfi {du : TypeDesc} {k : FloatKind} {k' : IntKind} [hT : UN P T du] [hU : UN P U (.int k')] {b : Nat} {n : Int} (ho : o.op = .convert T U x) (hx : ρ x = .sc (.float k b)) (hn : floatToIntVal k b k' = some n) : AQ P G wr o ρ S (.sc (.int k' n)) :=
  AQ.scal fun w ac h => by
    have h1 := h x (by simp [ho, Op.operands]) _ hx
    have := run_convert_float_int (P := P) w T U k k' b n (by rw [hT.eq]; rfl) hU.eq hn
    simp only [execOp, ho, h1, Sem.run_bind, this, Result.andThen_ok, Sem.run_pure]
theorem q_cff {du : TypeDesc} {k : FloatKind} [hT : UN P T du] [hU : UN P U (.float k)] {b : Nat} (ho : o.op = .convert T U x) (hx : ρ x = .sc (.float k b)) : AQ P G wr o ρ S (.sc (.float k b)) :=
  AQ.scal fun w ac h => by
    have h1 := h x (by simp [ho, Op.operands]) _ hx
    simp only [execOp, ho, h1, convert, Sem.run_bind, run_underlying hT.eq, run_underlying hU.eq, Result.andThen_ok]
    cases du <;> simp [Conv.floatToFloat]
theorem q_cis {du : TypeDesc} {k : IntKind} [hT : UN P T du] [hU : UN P U .string] {n : Int} (ho : o.op = .convert T U x) (hx : ρ x = .sc (.int k n)) : AQ P G wr o ρ S (.sc (.string (Utf8.encode n))) :=
  AQ.scal fun w ac h => by
    have h1 := h x (by simp [ho, Op.operands]) _ hx
    simp only [execOp, ho, h1, convert, Sem.run_bind, run_underlying hT.eq, run_underlying hU.eq, Result.andThen_ok]
    cases du <;> simp [Conv.intToString]
theorem q_css {du : TypeDesc} [hT : UN P T du] [hU : UN P U .string] {s : List UInt8} (ho : o.op = .convert T U x) (hx : ρ x = st s) : AQ P G wr o ρ S (st s) :=
  AQ.scal fun w ac h => by
    have h1 := h x (by simp [ho, Op.operands]) _ hx
    simp only [execOp, ho, h1, convert, Sem.run_bind, run_underlying hT.eq, run_underlying hU.eq, Result.andThen_ok]
    cases du <;> simp
end

/-! Values made of values. -/
theorem q_iface {T : TypeId} {du : TypeDesc} [hT : UN P T du] {x : Operand} {d : D} (ho : o.op = .makeInterface T x) (hd : ∀ ms, du ≠ .interface ms) (hx : ρ x = d) : AQ P G wr o ρ S (.ifc T d) :=
  AQ.run fun g l _ w a _ _ _ h => by
    refine ⟨.iface T (a.eval x), ?_, ?_⟩
    · simp only [execOp, ho, Instr.makeInterface, Sem.run_bind, run_underlying hT.eq, Result.andThen_ok]
      cases du <;> first | rfl | exact absurd rfl (hd _)
    · simp only [rep]; exact ⟨_, rfl, hx ▸ h x (by simp [ho, Op.operands])⟩
theorem q_assert {T U : TypeId} {du : TypeDesc} [hU : UN P U du] {x : Operand} {d : D} (ho : o.op = .typeAssert x T U false) (hd : ∀ ms, du ≠ .interface ms) (hx : ρ x = .ifc U d) : AQ P G wr o ρ S d :=
  AQ.run fun g l _ w a _ _ _ h => by
    have h0 := h x (by simp [ho, Op.operands])
    rw [hx] at h0
    simp only [rep] at h0
    obtain ⟨v, h1, h2⟩ := h0
    refine ⟨v, ?_, h2⟩
    simp only [execOp, ho, h1, Instr.typeAssert, Sem.run_bind, run_underlying hU.eq, Result.andThen_ok]
    cases du <;> first | simp | exact absurd rfl (hd _)
theorem q_extract {x : Operand} {i : Nat} {ds : List D} {d : D} (ho : o.op = .extract x i) (hx : ρ x = .tup ds) (hd : ds[i]? = some d) : AQ P G wr o ρ S d :=
  AQ.run fun g l _ w a _ _ _ h => by
    have h0 := h x (by simp [ho, Op.operands])
    rw [hx] at h0
    simp only [rep] at h0
    obtain ⟨vs, h1, h2⟩ := h0
    obtain ⟨v, h3, h4⟩ := repL_get h2 i d hd
    refine ⟨v, ?_, h4⟩
    simp [execOp, ho, h1, Instr.extract, h3]
theorem q_func {f : FuncId} {as bs : Array Operand} {us vs : List D} (ho : o.op = .makeFunc (.func f) as bs) (ha : as.toList.map ρ = us) (hb : bs.toList.map ρ = vs) : AQ P G wr o ρ S (.fn f us vs) :=
  AQ.run fun g l _ w a _ _ _ h => by
    refine ⟨.func (.func f) (as.map a.eval) (bs.map a.eval), by simp [execOp, ho, Instr.makeFunc], ?_⟩
    have key : ∀ (xs : List Operand), (∀ x ∈ xs, rep g l (ρ x) (a.eval x)) → repL g l (xs.map ρ) (xs.map a.eval) := fun xs => by
      induction xs with
      | nil => intro _; simp [repL]
      | cons x xs ih => intro hh; simp only [List.map_cons, repL]; exact ⟨_, _, rfl, hh x (by simp), ih fun y hy => hh y (by simp [hy])⟩
    simp only [rep]
    refine ⟨as.toList.map a.eval, bs.toList.map a.eval, ?_, ha ▸ key _ fun x hx => h x ?_, hb ▸ key _ fun x hx => h x ?_⟩
    · simp [← Array.toList_map]
    · simp [ho, Op.operands]; exact .inl (by simpa using hx)
    · simp [ho, Op.operands]; exact .inr (by simpa using hx)

/-- No nil. -/
def solid : D → Bool
  | .box .. | .hp .. | .pin .. | .fn .. | .ifc .. => true
  | _ => false
theorem q_nil {x : Operand} {d : D} (ho : o.op = .nilCheck x) (hx : ρ x = d) (hs : solid d = true) : AQ P G wr o ρ S d :=
  AQ.run fun g l _ w a _ _ _ h => by
    have h0 := h x (by simp [ho, Op.operands])
    rw [hx] at h0
    refine ⟨a.eval x, ?_, h0⟩
    cases d <;> simp only [solid] at hs <;> first | (cases hs; done) | skip
    all_goals simp only [rep] at h0
    · obtain ⟨_, _, e⟩ := h0; simp [execOp, ho, e]
    · obtain ⟨_, _, e⟩ := h0; simp [execOp, ho, e]
    · obtain ⟨_, _, e, _⟩ := h0; simp [execOp, ho, e]
    · obtain ⟨_, e, _⟩ := h0; simp [execOp, ho, e]
    · obtain ⟨_, _, e, _⟩ := h0; simp [execOp, ho, e]

/-! Places. -/
class FI (P : Program) (T : TypeId) (f : Nat) (off : outParam Nat) : Prop where
  run : ∀ (ad : Addr) (w : World), (Instr.fieldAt T (.pointer (some ad)) f).run P w = .ok (.pointer (some (ad.add off))) w

def shiftD (n : Nat) : D → Option D
  | .box id off => some (.box id (off + n))
  | .hp id off => some (.hp id (off + n))
  | .pin cs off => some (.pin cs (off + n))
  | _ => none

theorem rep_shift {g : Gh} {l : Lo} {d d' : D} {n : Nat} (h : shiftD n d = some d') {x : Value} (hx : rep g l d x) : ∃ ad, x = .pointer (some ad) ∧ rep g l d' (.pointer (some (ad.add n))) := by
  cases d <;> simp only [shiftD] at h <;> first | (cases h; done) | skip
  all_goals (cases h; simp only [rep] at hx ⊢)
  · obtain ⟨b, h1, rfl⟩ := hx; exact ⟨_, rfl, b, h1, by rw [addr_add]⟩
  · obtain ⟨b, h1, rfl⟩ := hx; exact ⟨_, rfl, b, h1, by rw [addr_add]⟩
  · obtain ⟨b, oo, rfl, h1⟩ := hx; exact ⟨_, rfl, b, oo, by rw [addr_add, Nat.add_assoc], h1⟩

theorem q_field {T : TypeId} {f off : Nat} [hF : FI P T f off] {x : Operand} {d d' : D} (ho : o.op = .fieldAddr T x f) (hx : ρ x = d) (hd : shiftD off d = some d') : AQ P G wr o ρ S d' :=
  AQ.run fun g l _ w a _ _ _ h => by
    have h0 := h x (by simp [ho, Op.operands])
    rw [hx] at h0
    obtain ⟨ad, h1, h2⟩ := rep_shift hd h0
    refine ⟨_, ?_, h2⟩
    simp only [execOp, ho, h1, Sem.run_bind, hF.run, Result.andThen_ok, Sem.run_pure]

/-- What a slice shows. -/
def slc : D → Option (List D × Nat)
  | .im cs n => some (cs, n)
  | .lit cs n => some (cs, n)
  | .gs _ _ cs n => some (cs, n)
  | .sc (.slice none 0 0) => some ([], 0)
  | _ => none

theorem rep_slc {g : Gh} {l : Lo} {d : D} {cs : List D} {n : Nat} (h : slc d = some (cs, n)) {x : Value} (hx : rep g l d x) :
    (n = 0 ∧ cs = [] ∧ x = .slice none 0 0) ∨ ∃ b oo cap, x = .slice (some ⟨b, oo, none⟩) n cap ∧ n ≤ cap ∧ repS g cs b oo := by
  unfold slc at h
  split at h <;> first | (cases h; done) | skip
  · cases h; simpa [rep] using hx
  · cases h; simp only [rep] at hx; obtain ⟨b, h1, h2⟩ := hx; exact .inr ⟨b, 0, n, h1, Nat.le_refl _, h2⟩
  · cases h; simp only [rep] at hx
    rcases hx with hx | ⟨r, _, _, _, h1, h2, h3⟩
    · exact .inl hx
    · exact .inr ⟨r.b, 0, r.cap, h1, h2, h3⟩
  · cases h; simp only [rep] at hx; exact .inl ⟨rfl, rfl, hx⟩

theorem q_index {T e : TypeId} {agg : Bool} {sz : Nat} {x ix : Operand} [hT : UN P T (.slice e)] [hE : TI P e agg sz] {d : D} {cs : List D} {n : Nat} {k : IntKind} {i : Int} (ho : o.op = .indexAddr T x ix) (hx : ρ x = d) (hd : slc d = some (cs, n)) (hi : ρ ix = .sc (.int k i)) (h0 : 0 ≤ i) (h1 : i < n) : AQ P G wr o ρ S (.pin cs (i.toNat * sz)) :=
  AQ.run fun g l _ w a _ _ _ h => by
    have hx0 := h x (by simp [ho, Op.operands])
    have hi0 := h ix (by simp [ho, Op.operands])
    rw [hx] at hx0; rw [hi] at hi0
    have hi1 : a.eval ix = .int k i := by simpa [rep] using hi0
    rcases rep_slc hd hx0 with ⟨h2, _, _⟩ | ⟨b, oo, cap, h2, _, h4⟩
    · omega
    · refine ⟨.pointer (some ⟨b, oo + i.toNat * sz, none⟩), ?_, by simp only [rep]; exact ⟨b, oo, rfl, h4⟩⟩
      simp only [execOp, ho, h2, hi1, Instr.indexAt, asIntOf, Sem.run_bind, Sem.run_pure, Result.andThen_ok, run_underlying hT.eq]
      simp [h0, h1, addr_add, hE.size]

theorem q_indexMs {T e : TypeId} {agg : Bool} {sz : Nat} {x ix : Operand} [hT : UN P T (.slice e)] [hE : TI P e agg sz] {id off n : Nat} {k : IntKind} {i : Int} (ho : o.op = .indexAddr T x ix) (hx : ρ x = .ms id off n) (hi : ρ ix = .sc (.int k i)) (h0 : 0 ≤ i) (h1 : i < n) : AQ P G wr o ρ S (.box id (off + i.toNat * sz)) :=
  AQ.run fun g l _ w a _ _ _ h => by
    have hx0 := h x (by simp [ho, Op.operands])
    have hi0 := h ix (by simp [ho, Op.operands])
    rw [hx] at hx0; rw [hi] at hi0
    have hi1 : a.eval ix = .int k i := by simpa [rep] using hi0
    simp only [rep] at hx0
    obtain ⟨b, cap, h3, h2, _⟩ := hx0
    refine ⟨.pointer (some ⟨b, off + i.toNat * sz, none⟩), ?_, by simp only [rep]; exact ⟨b, h3, rfl⟩⟩
    simp only [execOp, ho, h2, hi1, Instr.indexAt, asIntOf, Sem.run_bind, Sem.run_pure, Result.andThen_ok, run_underlying hT.eq]
    simp [h0, h1, addr_add, hE.size]

/-- A byte of a text. -/
theorem q_byte {T : TypeId} {x ix : Operand} [hT : UN P T .string] {s : List UInt8} {k : IntKind} {i : Int} (ho : o.op = .index T x ix) (hx : ρ x = st s) (hi : ρ ix = .sc (.int k i)) (h0 : 0 ≤ i) (h1 : i < s.length) :
    AQ P G wr o ρ S (.sc (.int .u8 ((s.getD i.toNat 0).toNat : Int))) :=
  AQ.scal fun w a h => by
    have h2 := h x (by simp [ho, Op.operands]) _ hx
    have h3 := h ix (by simp [ho, Op.operands]) _ hi
    have hlt : i.toNat < s.length := by omega
    have hr := run_index_string (P := P) w T ⟨⟨s⟩⟩ k i hT.eq
    have hsz : (⟨⟨s⟩⟩ : ByteArray).size = s.length := rfl
    rw [dif_pos (by rw [hsz]; exact ⟨h0, h1⟩)] at hr
    simp only [execOp, ho, h2, h3, Sem.run_bind, hr, Result.andThen_ok, Sem.run_pure]
    congr 3
    have : (⟨⟨s⟩⟩ : ByteArray)[i.toNat] = s[i.toNat] := rfl
    rw [this]
    simp [hlt]

/-! Lengths. -/
theorem q_lens {T : TypeId} {x : Operand} [hT : UN P T .string] {s : List UInt8} (ho : o.op = .call { callee := .builtin .len, args := #[x], argTypes := #[T] }) (hx : ρ x = st s) : AQ P G wr o ρ S (i64 s.length) :=
  AQ.scal fun w a h => by
    have h1 := h x (by simp [ho, Op.operands, Call.operands]) _ hx
    have hsz : (⟨⟨s⟩⟩ : ByteArray).size = s.length := rfl
    simp [execOp, ho, resolve, invoke, builtin, h1, Builtin.len_, run_underlying hT.eq, goInt, hsz]
theorem q_len {T e : TypeId} {x : Operand} [hT : UN P T (.slice e)] {d : D} {cs : List D} {n : Nat} (ho : o.op = .call { callee := .builtin .len, args := #[x], argTypes := #[T] }) (hx : ρ x = d) (hd : slc d = some (cs, n)) : AQ P G wr o ρ S (i64 n) :=
  AQ.run fun g l _ w a _ _ _ h => by
    have hx0 := h x (by simp [ho, Op.operands, Call.operands])
    rw [hx] at hx0
    refine ⟨.int .i64 n, ?_, by simp [rep]⟩
    rcases rep_slc hd hx0 with ⟨h1, _, h2⟩ | ⟨b, oo, cap, h2, _⟩
    · simp [execOp, ho, resolve, invoke, builtin, h2, Builtin.len_, run_underlying hT.eq, goInt, h1]
    · simp [execOp, ho, resolve, invoke, builtin, h2, Builtin.len_, run_underlying hT.eq, goInt]
theorem q_lenMs {T e : TypeId} {x : Operand} [hT : UN P T (.slice e)] {id off n : Nat} (ho : o.op = .call { callee := .builtin .len, args := #[x], argTypes := #[T] }) (hx : ρ x = .ms id off n) : AQ P G wr o ρ S (i64 n) :=
  AQ.run fun g l _ w a _ _ _ h => by
    have hx0 := h x (by simp [ho, Op.operands, Call.operands])
    rw [hx] at hx0
    simp only [rep] at hx0
    obtain ⟨b, cap, _, h2, _⟩ := hx0
    exact ⟨.int .i64 n, by simp [execOp, ho, resolve, invoke, builtin, h2, Builtin.len_, run_underlying hT.eq, goInt], by simp [rep]⟩
theorem q_max {Ts : Array TypeId} {x y : Operand} {k k' : IntKind} {a b : Int} (ho : o.op = .call { callee := .builtin .max, args := #[x, y], argTypes := Ts }) (hx : ρ x = .sc (.int k a)) (hy : ρ y = .sc (.int k' b)) :
    AQ P G wr o ρ S (.sc (.int k (if a < b then b else a))) :=
  AQ.scal fun w ac h => by
    have h1 := h x (by simp [ho, Op.operands, Call.operands]) _ hx
    have h2 := h y (by simp [ho, Op.operands, Call.operands]) _ hy
    simp only [execOp, ho, resolve, invoke, builtin, h1, h2, Sem.run_bind, Sem.run_pure, Result.andThen_ok, List.map_toArray, List.map_cons, List.map_nil, run_max_int2]
theorem q_min {Ts : Array TypeId} {x y : Operand} {k k' : IntKind} {a b : Int} (ho : o.op = .call { callee := .builtin .min, args := #[x, y], argTypes := Ts }) (hx : ρ x = .sc (.int k a)) (hy : ρ y = .sc (.int k' b)) :
    AQ P G wr o ρ S (.sc (.int k (if b < a then b else a))) :=
  AQ.scal fun w ac h => by
    have h1 := h x (by simp [ho, Op.operands, Call.operands]) _ hx
    have h2 := h y (by simp [ho, Op.operands, Call.operands]) _ hy
    simp only [execOp, ho, resolve, invoke, builtin, h1, h2, Sem.run_bind, Sem.run_pure, Result.andThen_ok, List.map_toArray, List.map_cons, List.map_nil, run_min_int2]

/-! Parts of texts and slices. -/
theorem extract_str (l : List UInt8) (a b : Nat) : (⟨⟨l⟩⟩ : ByteArray).extract a b = ⟨⟨(l.take b).drop a⟩⟩ := by
  apply ByteArray.ext
  rw [ByteArray.data_extract]
  apply Array.ext'
  simp [List.drop_take]

theorem q_cutS {T : TypeId} {x : Operand} {lo hi : Option Operand} [hT : UN P T .string] {s : List UInt8} {a b : Nat} (ho : o.op = .slice T x lo hi none) (hx : ρ x = st s) (hlo : match lo with | none => a = 0 | some y => ∃ k i, ρ y = .sc (.int k i) ∧ 0 ≤ i ∧ i.toNat = a) (hhi : match hi with | none => b = s.length | some y => ∃ k i, ρ y = .sc (.int k i) ∧ 0 ≤ i ∧ i.toNat = b) (hab : a ≤ b) (hb : b ≤ s.length) : AQ P G wr o ρ S (st ((s.take b).drop a)) :=
  AQ.scal fun w ac h => by
    have h1 := h x (by simp [ho, Op.operands]) _ hx
    have hsz : (⟨⟨s⟩⟩ : ByteArray).size = s.length := rfl
    have hb' : ∀ (y : Nat) (i : Int), 0 ≤ i → i.toNat ≤ y → (0 ≤ i ∧ i ≤ (y : Int)) := fun y i h0 h1 => by omega
    cases lo with
    | none =>
      subst hlo
      cases hi with
      | none =>
        subst hhi
        simp [execOp, ho, h1, Instr.sliceAt, Instr.slice, run_underlying hT.eq, Instr.sliceBounds]
      | some y =>
        obtain ⟨k, i, h2, h3, h4⟩ := hhi
        have h5 := h y (by simp [ho, Op.operands]) _ h2
        subst h4
        simp [execOp, ho, h1, h5, Instr.sliceAt, Instr.slice, run_underlying hT.eq, Instr.sliceBounds, run_sliceBound_if, hsz, hb' _ _ h3 hb, extract_str]
    | some y =>
      obtain ⟨k, i, h2, h3, h4⟩ := hlo
      have h5 := h y (by simp [ho, Op.operands]) _ h2
      subst h4
      cases hi with
      | none =>
        subst hhi
        simp [execOp, ho, h1, h5, Instr.sliceAt, Instr.slice, run_underlying hT.eq, Instr.sliceBounds, run_sliceBound_if, hsz, hb' _ _ h3 hab, extract_str]
      | some z =>
        obtain ⟨k', j, h6, h7, h8⟩ := hhi
        have h9 := h z (by simp [ho, Op.operands]) _ h6
        subst h8
        have e : ¬ (max j 0 < i) := by omega
        simp [e, execOp, ho, h1, h5, h9, Instr.sliceAt, Instr.slice, run_underlying hT.eq, Instr.sliceBounds, run_sliceBound_if, hsz, hb' _ _ h3 hab, hb' _ _ h7 hb, extract_str]

end
end Go.Abs
