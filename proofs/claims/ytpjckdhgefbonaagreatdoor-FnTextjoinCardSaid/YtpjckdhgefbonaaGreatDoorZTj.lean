/-
  Plain facts: the loop that joins texts.
-/
import Derived.Test.YtpjckdhgefbonaaGreatDoorZJoin
import Derived.Test.YtpjckdhgefbonaaGreatDoorZText2
namespace Go.Abs
set_option linter.unusedVariables false
set_option linter.unusedSimpArgs false
def begunB (c : Bool) (l : List (List UInt8)) : Bool := decide (¬ keepL c l = [])
theorem begun_no {c : Bool} {l : List (List UInt8)} (h : begunB c l = false) : keepL c l = [] := by simpa [begunB] using h
theorem begun_yes {c : Bool} {l : List (List UInt8)} (h : begunB c l = true) : ¬ keepL c l = [] := by simpa [begunB] using h
theorem tj_skip {b : List UInt8} {c : Bool} {l : List (List UInt8)} {i : Nat} (h : i < l.length) (h1 : l[i] = []) (h2 : c = true) : joinT b c (l.take (i + 1)) = joinT b c (l.take i) ∧ begunB c (l.take (i + 1)) = begunB c (l.take i) := by
  unfold joinT begunB
  rw [keep_take h, if_pos ⟨h1, h2⟩, List.append_nil]
  exact ⟨rfl, rfl⟩
theorem tj_more {b : List UInt8} {c : Bool} {l : List (List UInt8)} {i : Nat} (h : i < l.length) (hc : ¬ (l[i] = [] ∧ c = true)) (hb : begunB c (l.take i) = true) : joinT b c (l.take (i + 1)) = joinT b c (l.take i) ++ b ++ l[i] ∧ begunB c (l.take (i + 1)) = true := by
  unfold joinT
  have hb' := begun_yes hb
  refine ⟨?_, ?_⟩
  · rw [keep_take h, if_neg hc, join_snoc, if_neg hb']
  · unfold begunB; rw [keep_take h, if_neg hc]; simp
theorem tj_one {b : List UInt8} {c : Bool} {l : List (List UInt8)} {i : Nat} (h : i < l.length) (hc : ¬ (l[i] = [] ∧ c = true)) (hb : begunB c (l.take i) = false) : joinT b c (l.take (i + 1)) = joinT b c (l.take i) ++ l[i] ∧ begunB c (l.take (i + 1)) = true := by
  unfold joinT
  have hb' := begun_no hb
  refine ⟨?_, ?_⟩
  · rw [keep_take h, if_neg hc, join_snoc, if_pos hb', hb']; rfl
  · unfold begunB; rw [keep_take h, if_neg hc]; simp
theorem tj_len {b : List UInt8} {c : Bool} {l : List (List UInt8)} (hb : b.length ≤ 1000) (hl : ∀ s ∈ l, s.length ≤ 1000) : (joinT b c l).length ≤ 2000 * l.length := by
  have h1 := join_len (xs := keepL c l) hb fun s hs => hl s (keep_mem hs)
  have h2 := keep_len c l
  have h3 : 2000 * (keepL c l).length ≤ 2000 * l.length := Nat.mul_le_mul_left _ h2
  exact Nat.le_trans h1 h3
theorem take_consM {α β : Type} (f : α → β) {b : α} {l : List α} {i : Nat} (h : i < l.length) : ((b :: l).map f)[i + 1]? = some (f l[i]) := by
  simp [h]
theorem firstV_no {l : List V} (h : ∀ v ∈ l, v.kind = 1 ∨ v.kind = 2 ∨ v.kind = 3) : firstV l = (noV, false) := by
  simp only [firstV, find_no (l := l) (p := isK 6) fun v hv => by have := h v hv; simp only [isK, decide_eq_false_iff_not]; omega, find_no (l := l) (p := isK 4) fun v hv => by have := h v hv; simp only [isK, decide_eq_false_iff_not]; omega]
/-- The arguments of TEXTJOIN. -/
def tjA (b : List UInt8) (c : Bool) (l : List (List UInt8)) : List V := strV b :: boolV c :: l.map strV
theorem tjA_len (b : List UInt8) (c : Bool) (l : List (List UInt8)) : (tjA b c l).length = l.length + 2 := by simp [tjA]
theorem tjA_mem {b : List UInt8} {c : Bool} {l : List (List UInt8)} {v : V} (h : v ∈ tjA b c l) : (v = strV b ∨ ∃ s ∈ l, v = strV s) ∨ v = boolV c := by
  simp only [tjA, List.mem_cons, List.mem_map] at h
  rcases h with h | h | ⟨s, hs, rfl⟩
  · exact .inl (.inl h)
  · exact .inr h
  · exact .inl (.inr ⟨s, hs, rfl⟩)
theorem tjA_kind {b : List UInt8} {c : Bool} {l : List (List UInt8)} {v : V} (h : v ∈ tjA b c l) : v.kind = 2 ∨ v.kind = 3 := by
  rcases tjA_mem h with (rfl | ⟨s, _, rfl⟩) | rfl
  · exact .inl rfl
  · exact .inl rfl
  · exact .inr rfl
end Go.Abs
