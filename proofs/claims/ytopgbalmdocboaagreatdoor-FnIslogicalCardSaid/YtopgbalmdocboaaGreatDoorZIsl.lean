/-
  Plain facts: texts that are no truths.
-/
import Derived.Test.YtopgbalmdocboaaGreatDoorZFz
import Derived.Test.YtopgbalmdocboaaGreatDoorZText
import Derived.Test.YtopgbalmdocboaaGreatDoorZTx
import Derived.Lib.Fold
namespace Go.Abs
set_option linter.unusedVariables false
set_option linter.unusedSimpArgs false
open Go.Lib
abbrev wTrue : List UInt8 := [84, 82, 85, 69]
abbrev wFalse : List UInt8 := [70, 65, 76, 83, 69]
theorem fold_low {x y : UInt8} (h : foldEq x y = true) : lowB x = lowB y := by
  unfold foldEq at h
  have h := of_decide_eq_true h
  unfold lowB
  rcases h with h | ⟨h1, h2, h3⟩ | ⟨h1, h2, h3⟩
  · rw [UInt8.toNat_inj.1 h]
  · rw [if_pos ⟨h1, h2⟩, if_neg (by omega)]
    exact UInt8.toNat_inj.1 (by rw [UInt8.toNat_ofNat', Nat.mod_eq_of_lt (by omega)]; exact h3.symm)
  · rw [if_neg (by omega), if_pos ⟨h1, h2⟩]
    exact UInt8.toNat_inj.1 (by rw [UInt8.toNat_ofNat', Nat.mod_eq_of_lt (by omega)]; exact h3)
theorem fold_lowS : ∀ {s t : List UInt8}, equalFold s t = true → lowS s = lowS t
  | [], [], _ => rfl
  | x :: s, y :: t, h => by
    simp only [equalFold, Bool.and_eq_true] at h
    simp only [lowS, List.map_cons]
    rw [fold_low h.1]
    exact congrArg _ (fold_lowS (s := s) (t := t) h.2)
  | [], _ :: _, h => by simp [equalFold] at h
  | _ :: _, [], h => by simp [equalFold] at h
theorem letters_fold {s : List UInt8} (h : lettersB s = true) : equalFold wTrue s = false ∧ equalFold wFalse s = false := by
  constructor
  · cases he : equalFold wTrue s with
    | false => rfl
    | true =>
      have := letters_word (s := s) (w := lowS wTrue) (by decide) (fold_lowS he).symm
      rw [this] at h; cases h
  · cases he : equalFold wFalse s with
    | false => rfl
    | true =>
      have := letters_word (s := s) (w := lowS wFalse) (by decide) (fold_lowS he).symm
      rw [this] at h; cases h
theorem letters_ascii {s : List UInt8} (h : lettersB s = true) : ∀ b ∈ s, b.toNat < 128 := by
  unfold lettersB at h
  rw [Bool.and_eq_true, List.all_eq_true] at h
  intro b hb
  have h1 := h.1 b hb
  unfold letterB at h1
  rw [Bool.and_eq_true] at h1
  have h2 := of_decide_eq_true h1.2
  rcases Nat.lt_or_ge b.toNat 128 with h3 | h3
  · exact h3
  · rw [lowB_same (by omega)] at h2; omega
theorem head_fold {b : UInt8} {r : List UInt8} (h : b = 45 ∨ (48 ≤ b.toNat ∧ b.toNat ≤ 57)) : equalFold wTrue (b :: r) = false ∧ equalFold wFalse (b :: r) = false := by
  have hb : b.toNat ≤ 57 ∧ 45 ≤ b.toNat := by
    rcases h with rfl | h
    · decide
    · omega
  have e1 : foldEq 84 b = false := decide_eq_false (by
    show ¬ ((84 : Nat) = b.toNat ∨ (65 ≤ 84 ∧ 84 ≤ 90 ∧ b.toNat = 84 + 32) ∨ (65 ≤ b.toNat ∧ b.toNat ≤ 90 ∧ 84 = b.toNat + 32))
    omega)
  have e2 : foldEq 70 b = false := decide_eq_false (by
    show ¬ ((70 : Nat) = b.toNat ∨ (65 ≤ 70 ∧ 70 ≤ 90 ∧ b.toNat = 70 + 32) ∨ (65 ≤ b.toNat ∧ b.toNat ≤ 90 ∧ 70 = b.toNat + 32))
    omega)
  exact ⟨equalFold_no _ _ _ _ e1, equalFold_no _ _ _ _ e2⟩
theorem dec_ascii (u : Nat) : ∀ b ∈ decDigits u, b.toNat < 128 := fun b hb => by have := dec_dig b hb; omega
theorem exp_ascii {e : Nat} (h : e < 100) : ∀ b ∈ expS e, b.toNat < 128 := by
  intro b hb
  unfold expS at hb
  split at hb
  · simp only [List.mem_cons, List.mem_nil_iff, or_false] at hb
    rcases hb with rfl | rfl
    · decide
    · rw [UInt8.toNat_ofNat']; omega
  · simp only [List.mem_cons, List.mem_nil_iff, or_false] at hb
    rcases hb with rfl | rfl <;> (rw [UInt8.toNat_ofNat']; omega)
theorem fmtT_ascii {ds : List UInt8} {dp : Int} (hd : ∀ b ∈ ds, b.toNat < 128) (hp : dp ≤ 99) : ∀ b ∈ fmtT ds dp, b.toNat < 128 := by
  intro b hb
  have e48 : ∀ k, b ∈ List.replicate k (48 : UInt8) → b.toNat < 128 := fun k h => by rw [List.eq_of_mem_replicate h]; decide
  have etk : ∀ k, b ∈ ds.take k → b.toNat < 128 := fun k h => hd b (List.mem_of_mem_take h)
  have edr : ∀ k, b ∈ ds.drop k → b.toNat < 128 := fun k h => hd b (List.mem_of_mem_drop h)
  unfold fmtT at hb
  split at hb
  · rcases List.mem_append.1 hb with hb | hb
    · rcases List.mem_append.1 hb with hb | hb
      · exact etk _ hb
      · split at hb
        · rcases List.mem_cons.1 hb with rfl | hb
          · decide
          · exact edr _ hb
        · cases hb
    · rcases List.mem_cons.1 hb with rfl | hb
      · decide
      · rcases List.mem_cons.1 hb with rfl | hb
        · decide
        · exact exp_ascii (by omega) b hb
  · rcases List.mem_append.1 hb with hb | hb
    · split at hb
      · rcases List.mem_append.1 hb with hb | hb
        · exact etk _ hb
        · exact e48 _ hb
      · rw [List.mem_singleton.1 hb]; decide
    · split at hb
      · rcases List.mem_cons.1 hb with rfl | hb
        · decide
        · rcases List.mem_append.1 hb with hb | hb
          · exact e48 _ hb
          · exact edr _ hb
      · cases hb
theorem txt_ascii (neg : Bool) {a : Nat} (h : a < 2 ^ 41) : ∀ b ∈ txtN neg a, b.toNat < 128 := by
  intro b hb
  have en : b ∈ (if neg = true then [45] else ([] : List UInt8)) → b.toNat < 128 := fun hb => by
    cases neg
    · simp at hb
    · simp at hb; subst hb; decide
  unfold txtN at hb
  split at hb
  · rcases List.mem_append.1 hb with hb | hb
    · exact en hb
    · rw [List.mem_singleton.1 hb]; decide
  · rename_i h0
    have hL : a.log2 ≤ 40 := by have := (Nat.log2_lt h0).2 h; omega
    unfold numT at hb
    rcases List.mem_append.1 hb with hb | hb
    · exact en hb
    · exact fmtT_ascii (dec_ascii _) (dpN_bounds (by omega) hL Nat.lt_log2_self).2 b hb
theorem fmtT_len {ds : List UInt8} {dp : Int} (hd : ds.length ≤ 20) (h1 : -3 ≤ dp) (h2 : dp ≤ 99) : (fmtT ds dp).length ≤ 100 := by
  unfold fmtT
  split
  · have he : ∀ e, (expS e).length = 2 := fun e => by unfold expS; split <;> rfl
    simp only [List.length_append, List.length_cons, List.length_take, he]
    split <;> simp <;> omega
  · simp only [List.length_append]
    have a1 : (if 0 < dp then ds.take dp.toNat ++ List.replicate (dp.toNat - ds.length) 48 else [48]).length ≤ 40 := by
      split <;> simp <;> omega
    have a2 : (if dp < ds.length then 46 :: (List.replicate (-dp).toNat 48 ++ ds.drop dp.toNat) else []).length ≤ 40 := by
      split <;> simp <;> omega
    omega
theorem txt_len (neg : Bool) {a : Nat} (h : a < 2 ^ 41) : (txtN neg a).length ≤ 101 := by
  have en : (if neg = true then [45] else ([] : List UInt8)).length ≤ 1 := by split <;> simp
  unfold txtN
  split
  · rw [List.length_append]; simp; split <;> simp
  · rename_i h0
    have hL : a.log2 ≤ 40 := by have := (Nat.log2_lt h0).2 h; omega
    unfold numT
    rw [List.length_append]
    have hb := dpN_bounds (a := a) (by omega) hL Nat.lt_log2_self
    have hlt := digN_lt (a := a) hL Nat.lt_log2_self
    have hN0 := digN_pos (a := a) (by omega) hL
    obtain ⟨c1, c2, c3, c4⟩ := core_facts (digN a a.log2) (digN a a.log2) (Nat.le_refl _) hN0
    have h20 := nDigits_le20 (digN a a.log2) (by omega)
    have := fmtT_len (ds := decDigits (core (digN a a.log2))) (by rw [decDigits_length]; omega) hb.1 hb.2
    omega
theorem txt_fold (neg : Bool) {a : Nat} (h : a < 2 ^ 41) : equalFold wTrue (txtN neg a) = false ∧ equalFold wFalse (txtN neg a) = false := by
  obtain ⟨b, r, e, hb⟩ := txt_head neg h
  rw [e]; exact head_fold hb
theorem errs_fold : ∀ k (h : k < 7), (equalFold wTrue (errsL[k]'h) = false ∧ equalFold wFalse (errsL[k]'h) = false) ∧ ∀ b ∈ errsL[k]'h, b.toNat < 128 := by decide
/-- A number whose text is told. -/
structure NumOK (n d : Int) (x : Int) (a : Nat) : Prop where
  q : floatBits .quo .f64 (FloatKind.f64.nearest n) (FloatKind.f64.nearest d) = some (qV (num n d))
  fx : Fx (qV (num n d)) x
  six : x.natAbs * 16 = a * unit
  lt : a < 2 ^ 41
  w : qV (num n d) < 2 ^ 64
theorem num_whole_ok {n : Int} (h : ¬ (99999999999 < n ∨ n < -99999999999)) : NumOK n 1 (n * (unit : Nat)) (16 * n.natAbs) := by
  obtain ⟨h1, h2, h3⟩ := qV_whole h
  refine ⟨h1, h2, ?_, by omega, h3⟩
  rw [Int.natAbs_mul, Int.natAbs_natCast, Nat.mul_comm 16, Nat.mul_right_comm]
theorem num_six_ok {v n d : Int} (h : Six v n d) : ∃ x, NumOK n d x v.natAbs := by
  obtain ⟨h1, ⟨x, h2, h3⟩, h4⟩ := qV_six h
  refine ⟨x, h1, h2, ?_, ?_, h4⟩
  · have h5 := congrArg Int.natAbs h3
    rw [Int.natAbs_mul, Int.natAbs_mul, Int.natAbs_natCast, Int.natAbs_natCast] at h5
    exact h5
  · have h6 := h.eq
    have h7 := h.lo
    have h8 := h.hi
    rcases h.dd with e | e | e | e | e <;> subst e <;> omega
theorem made_cases (a n : Int) (s : List UInt8) : madeV a n s = noV ∨ madeV a n s = doubt ∨ (∃ m d x k, madeV a n s = num m d ∧ NumOK m d x k) ∨ madeV a n s = strV s ∨ (∃ c, madeV a n s = boolV c) ∨ ∃ k, ∃ h : k < 7, madeV a n s = errV (errsL[k]'h) := by
  unfold madeV
  split
  · exact .inl rfl
  split
  · by_cases h : 99999999999 < n ∨ n < -99999999999
    · rw [intV_doubt h]; exact .inr (.inl rfl)
    · rw [intV_num h]; exact .inr (.inr (.inl ⟨n, 1, _, _, rfl, num_whole_ok h⟩))
  split
  · exact .inr (.inr (.inr (.inl rfl)))
  split
  · exact .inr (.inr (.inr (.inr (.inl ⟨_, rfl⟩))))
  split
  · exact .inr (.inr (.inr (.inr (.inr ⟨_, errI_lt n, rfl⟩))))
  · rcases sixV_cases (clampI n) with h | ⟨m, d, h, hs⟩
    · rw [h]; exact .inr (.inl rfl)
    · rw [h]
      obtain ⟨x, hx⟩ := num_six_ok hs
      exact .inr (.inr (.inl ⟨m, d, x, _, rfl, hx⟩))
theorem same_bool (c : Bool) : sameI (iBool (if c then 4607182418800017408 else 0)) (iBool (FloatKind.f64.nearest (if c then 1 else 0))) = true := by
  cases c
  · rw [show FloatKind.f64.nearest (if false = true then 1 else 0) = 0 from by decide]
    show (decide (3 = 3) && (fcmp .eql .f64 0 0 && decide (([] : List UInt8) = []))) = true
    rw [fcmp_eq fx_zero fx_zero]; simp
  · rw [show FloatKind.f64.nearest (if true = true then 1 else 0) = 4607182418800017408 from by decide]
    show (decide (3 = 3) && (fcmp .eql .f64 4607182418800017408 4607182418800017408 && decide (([] : List UInt8) = []))) = true
    rw [fcmp_eq fx_one fx_one]; simp
end Go.Abs
