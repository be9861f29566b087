/-
  The abstract logic: functions without a body: a float's bits, the part ahead of the point.
-/
import Derived.Test.YtpjckdhgefbonaaGreatDoorZNum
import Derived.Laws.Externs
namespace Go.Abs
set_option linter.unusedVariables false
set_option linter.unusedSimpArgs false
open Ieee
/-- A function without a body, and what the model does in its place. -/
class XF (P : Program) (f : FuncId) (e : outParam (Array Value → Sem Value)) : Prop where
  run : ∀ (args : Array Value) (w : World), (callFunc f args).run P w = ((e args).run P w).andThen fun v w' => .ok (.value v) w'
section
variable {P : Program} {G : Nat → D} {wr : Bool} {o : Oper} {ρ : Operand → D} {S : AH → Prop}
theorem XF.of {f : FuncId} {fn : Func} {e : Array Value → Sem Value} (hf : P.funcs[f]? = some fn) (hname : (fn.name == "runtime.NumGoroutine") = false) (hb : fn.body.isNone = true) (hn : Extern.findNext fn = none) (he : Extern.find fn = some e) : XF P f e :=
  ⟨fun args w => by rw [run_callFunc_extern hf hname hb hn he]⟩
theorem q_ext {x y : Operand} {Ts : Array TypeId} {f : FuncId} {e : Array Value → Sem Value} [hf : XF P f e] {a v : Value} (ho : o.op = .call { callee := .value x, args := #[y], argTypes := Ts }) (hx : ρ x = .fn f [] []) (hy : ρ y = .sc a) (he : ∀ w, (e #[a]).run P w = .ok v w) : AQ P G wr o ρ S (.sc v) :=
  AQ.run fun g l _ w ac _ _ _ h => by
    have hx0 := h x (by simp [ho, Op.operands, Call.operands])
    have hy0 := h y (by simp [ho, Op.operands, Call.operands])
    rw [hx] at hx0; rw [hy] at hy0
    simp only [rep] at hx0 hy0
    obtain ⟨u, v', h1, h2, h3⟩ := hx0
    simp only [repL] at h2 h3
    subst h2; subst h3
    have hr := hf.run #[ac.eval y] w
    rw [hy0, he w] at hr
    refine ⟨v, ?_, by simp [rep]⟩
    simp only [execOp, ho, resolve, h1, Deferred.ofValue, Sem.run_bind, Sem.run_pure, Result.andThen_ok, invoke]
    simp [hy0, hr]
theorem x_bits (b : Nat) (w : World) : (Extern.MathFloatBits.float64bits #[.float .f64 b]).run P w = .ok (.int .u64 b) w := rfl
theorem x_frombits (n : Int) (w : World) : (Extern.MathFloatBits.float64frombits #[.int .u64 n]).run P w = .ok (.float .f64 n.toNat) w := rfl
/-- The part ahead of the point. -/
def truncF (b : Nat) : Nat := double.write ((double.read b).integral .zero)
theorem x_trunc {b : Nat} {x : Int} (h : Fx b x) (w : World) : (Extern.MathFloor.toIntegral "math.archTrunc" .zero #[.float .f64 b]).run P w = .ok (.float .f64 (truncF b)) w := by
  obtain ⟨s, m, e, h1, _, _⟩ := h
  have h0 : FloatKind.f64.decode b = .number s m e := h1
  have : truncF b = FloatKind.f64.encode ((Datum.number s m e).integral .zero) := by unfold truncF; rw [h1]; rfl
  rw [this]
  have key : ∀ h1 h2, Extern.MathFloor.toIntegral.match_2 (motive := fun _ => Sem Value) #[.float .f64 b] h1 h2 = h1 b := fun _ _ => rfl
  delta Extern.MathFloor.toIntegral
  rw [key, h0]
  rfl
end
theorem trunc_k (p : Nat) (hp : p = 1074) (hup : unit = 2 ^ p) {b : Nat} {x : Int} (h : Fx b x) : Fx (truncF b) (x.tdiv unit * unit) := by
  have hu : ((unit : Nat) : Int) = (2 ^ p : Nat) := by rw [hup]
  obtain ⟨s, m, e, h1, h2, h3⟩ := h
  have hm := read_lt h1
  have hb : e ≤ 971 := by
    unfold Format.read at h1
    simp only [bin, infr, lp] at h1
    split at h1
    · cases h1; omega
    · split at h1
      · cases h1; omega
      · split at h1 <;> cases h1
  have ht : truncF b = double.write (.number s (Toward.zero.cut s (m <<< e.toNat) (-e).toNat) 0) := by unfold truncF; rw [h1]; rfl
  rw [ht]
  -- the magnitude
  obtain ⟨M, hM, hMr⟩ : ∃ M, Toward.zero.cut s (m <<< e.toNat) (-e).toNat = M ∧ M * 2 ^ p = (x.tdiv unit * unit).natAbs ∧ (∃ m0 k : Nat, M = m0 * 2 ^ k ∧ m0 < 2 ^ 53 ∧ k ≤ 971) := by
    refine ⟨_, rfl, ?_⟩
    rw [cut_zero, Nat.shiftLeft_eq]
    rcases Int.le_total 0 e with he | he
    · have e1 : (-e).toNat = 0 := by omega
      have e2 : (e + 1074).toNat = e.toNat + p := by omega
      rw [e1, Nat.zero_min, Nat.pow_zero, Nat.div_one]
      rw [e2, signed_up] at h3
      have hx : x.tdiv unit * unit = x := by rw [← h3, hu, Int.mul_tdiv_cancel _ (pow_ne p)]
      refine ⟨?_, m, e.toNat, rfl, hm, by omega⟩
      rw [hx, ← h3, Int.natAbs_mul, Int.natAbs_natCast, signed_abs]
    · obtain ⟨j, hj⟩ : ∃ j : Nat, e = -(j : Int) := ⟨(-e).toNat, by omega⟩
      have e1 : (-e).toNat = j := by omega
      have e2 : e.toNat = 0 := by omega
      obtain ⟨c, hc⟩ : ∃ c : Nat, (e + 1074).toNat = c := ⟨_, rfl⟩
      have hpj : p = c + j := by omega
      rw [e1, e2, Nat.pow_zero, Nat.mul_one]
      rw [hc] at h3
      rw [tdiv_val hu h3 hpj, signed_abs]
      by_cases hm0 : m = 0
      · subst hm0
        simp only [Nat.zero_div, Nat.zero_mul]
        exact ⟨trivial, 0, 0, by simp, by decide, by omega⟩
      · have hcut : m / 2 ^ min j (m.log2 + 2) = m / 2 ^ j := by
          rcases Nat.le_total j (m.log2 + 2) with h9 | h9
          · rw [Nat.min_eq_left h9]
          · rw [Nat.min_eq_right h9]
            have h10 := Nat.lt_log2_self (n := m)
            have h11 : m < 2 ^ (m.log2 + 2) := Nat.lt_of_lt_of_le h10 (Nat.pow_le_pow_right (by omega) (by omega))
            have h12 : m < 2 ^ j := Nat.lt_of_lt_of_le h10 (Nat.pow_le_pow_right (by omega) (by omega))
            rw [Nat.div_eq_of_lt h11, Nat.div_eq_of_lt h12]
        rw [hcut]
        refine ⟨?_, m / 2 ^ j, 0, by simp, Nat.lt_of_le_of_lt (Nat.div_le_self _ _) hm, by omega⟩
        rw [hpj, Nat.pow_add, Nat.mul_assoc, Nat.mul_comm (2 ^ j)]
  rw [hM]
  obtain ⟨hMx, m0, k, hk1, hk2, hk3⟩ := hMr
  refine write_fv _ _ _ _ (fun h => absurd h (by decide)) (fun _ => ?_) (fun hne => ?_) ⟨m0, k + p, by rw [← hMx, hk1, Nat.mul_assoc, ← Nat.pow_add], hk2, fun h0 => ?_⟩
  · rw [← hMx, show ((0 : Int) + 1074).toNat = p by omega]
  · have hx : x ≠ 0 := fun e => by rw [e] at hne; simp at hne
    have sx := signed_neg s m (e + 1074).toNat (by rw [h3]; exact hx)
    rw [h3] at sx
    rw [← sx]
    have hup' := unit_pos
    have : (x < 0) = (x.tdiv unit * unit < 0) := by
      apply propext
      rcases Int.lt_or_le x 0 with h6 | h6
      · obtain ⟨y, rfl⟩ : ∃ y, x = -y := ⟨-x, by omega⟩
        rw [Int.neg_tdiv, Int.neg_mul, Int.tdiv_eq_ediv_of_nonneg (by omega)] at hne ⊢
        have := Int.mul_nonneg (Int.ediv_nonneg (show 0 ≤ y by omega) (Int.le_of_lt hup')) (Int.le_of_lt hup')
        generalize y / (unit : Int) * unit = t at *
        omega
      · rw [Int.tdiv_eq_ediv_of_nonneg h6] at hne ⊢
        have := Int.mul_nonneg (Int.ediv_nonneg h6 (Int.le_of_lt hup')) (Int.le_of_lt hup')
        generalize x / (unit : Int) * unit = t at *
        omega
    simp only [this]
  · have := (Nat.log2_lt h0).2 hk2
    omega
theorem fx_truncF {b : Nat} {x : Int} (h : Fx b x) : Fx (truncF b) (x.tdiv unit * unit) := trunc_k 1074 rfl unit.eq_1 h
theorem write_lt (d : Datum) : double.write d < 2 ^ 64 := FloatKind.f64.format.write_lt d
theorem truncF_lt (b : Nat) : truncF b < 2 ^ 64 := write_lt _

/-- The parts of a number ahead of the point and behind it. -/
theorem modfF {b : Nat} {x : Int} (hb : b < 2 ^ 64) (h : Fx b x) : ∃ r, floatBits .sub .f64 b (truncF b) = some r ∧ r < 2 ^ 64 ∧ Fx (b / 2 ^ 63 * 2 ^ 63 + r % 2 ^ 63) (x - x.tdiv unit * unit) := by
  have ht := fx_truncF h
  obtain ⟨r, h1, h2⟩ := fx_sub h ht (rp_frac hb h)
  refine ⟨r, h1, bits_lt h1, fx_copysign (bits_lt h1) hb h2 fun h0 => ?_⟩
  have hx : x ≠ 0 := fun e => by rw [e] at h0; simp at h0
  rw [fx_sign hb h hx]
  have hu := unit_pos
  apply propext
  rcases Int.lt_or_le x 0 with h6 | h6
  · obtain ⟨y, rfl⟩ : ∃ y, x = -y := ⟨-x, by omega⟩
    rw [Int.neg_tdiv, Int.neg_mul] at h0 ⊢
    rw [Int.tdiv_eq_ediv_of_nonneg (by omega)] at h0 ⊢
    have := Int.ediv_mul_le y (show (unit : Int) ≠ 0 by omega)
    generalize y / (unit : Int) * unit = t at *
    omega
  · rw [Int.tdiv_eq_ediv_of_nonneg h6] at h0 ⊢
    have := Int.ediv_mul_le x (show (unit : Int) ≠ 0 by omega)
    generalize x / (unit : Int) * unit = t at *
    omega
/-! The machine's words of it. -/
theorem u64_wrap {n : Nat} (h : n < 2 ^ 64) : IntKind.u64.wrap (n : Int) = n := by
  simp [IntKind.wrap, IntKind.signed, IntKind.bits]; omega
theorem ofInt_nat (n : Nat) : BitVec.ofInt 64 (n : Int) = BitVec.ofNat 64 n := by
  apply BitVec.eq_of_toNat_eq
  rw [BitVec.toNat_ofInt, BitVec.toNat_ofNat]
  omega
theorem top_bit : BitVec.ofInt 64 9223372036854775808 = BitVec.ofNat 64 (2 ^ 63) := by decide
theorem abs_word {b : Nat} (hb : b < 2 ^ 64) : IntKind.u64.wrap ((BitVec.ofInt IntKind.u64.bits (b : Int) &&& ~~~ BitVec.ofInt IntKind.u64.bits 9223372036854775808).toNat : Int) = ((b % 2 ^ 63 : Nat) : Int) := by
  have e : (BitVec.ofInt IntKind.u64.bits (b : Int) &&& ~~~ BitVec.ofInt IntKind.u64.bits 9223372036854775808).toNat = b % 2 ^ 63 := by
    show (BitVec.ofInt 64 (b : Int) &&& ~~~ BitVec.ofInt 64 9223372036854775808).toNat = _
    rw [ofInt_nat, top_bit, andNot_sign b hb]
  rw [e, u64_wrap (by omega)]
theorem sign_word {b : Nat} (hb : b < 2 ^ 64) : IntKind.u64.wrap ((BitVec.ofInt IntKind.u64.bits (b : Int) &&& BitVec.ofInt IntKind.u64.bits 9223372036854775808).toNat : Int) = ((b / 2 ^ 63 * 2 ^ 63 : Nat) : Int) := by
  have e : (BitVec.ofInt IntKind.u64.bits (b : Int) &&& BitVec.ofInt IntKind.u64.bits 9223372036854775808).toNat = b / 2 ^ 63 * 2 ^ 63 := by
    show (BitVec.ofInt 64 (b : Int) &&& BitVec.ofInt 64 9223372036854775808).toNat = _
    rw [ofInt_nat, top_bit, and_sign b hb]
  rw [e, u64_wrap (by omega)]
theorem or_word {a b : Nat} (ha : a < 2 ^ 63) (hb : b < 2 ^ 64) : IntKind.u64.wrap ((BitVec.ofInt IntKind.u64.bits (a : Int) ||| BitVec.ofInt IntKind.u64.bits ((b / 2 ^ 63 * 2 ^ 63 : Nat) : Int)).toNat : Int) = ((b / 2 ^ 63 * 2 ^ 63 + a : Nat) : Int) := by
  have e : (BitVec.ofInt IntKind.u64.bits (a : Int) ||| BitVec.ofInt IntKind.u64.bits ((b / 2 ^ 63 * 2 ^ 63 : Nat) : Int)).toNat = b / 2 ^ 63 * 2 ^ 63 + a := by
    show (BitVec.ofInt 64 (a : Int) ||| BitVec.ofInt 64 ((b / 2 ^ 63 * 2 ^ 63 : Nat) : Int)).toNat = _
    rw [ofInt_nat, ofInt_nat, or_sign a b ha hb]
  rw [e, u64_wrap (by omega)]
theorem signbit_word {b : Nat} (hb : b < 2 ^ 64) : decide (IntKind.i64.wrap (b : Int) < 0) = decide (b / 2 ^ 63 = 1) := by
  apply decide_eq_decide.2
  rw [IntKind.wrap_i64]
  omega
theorem u64_eq {a b : Int} (h : a = b) : D.sc (.int .u64 a) = .sc (.int .u64 b) := by rw [h]
theorem fx_max48 : Fx 4823355200913801184 (281474976710655 * (unit : Nat)) := by
  have := fv_nearest (n := 281474976710655) (by decide)
  have e : FloatKind.f64.nearest 281474976710655 = 4823355200913801184 := by decide
  rw [e] at this; exact this
theorem fx_one : Fx 4607182418800017408 (1 * (unit : Nat)) := fy_one.whole
end Go.Abs
