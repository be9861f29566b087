/-
  Plain facts: texts joined by a text, empty ones left out or not.
-/
import Derived.Test.YtpjckdhgefbonaaGreatDoorZText
import Derived.Lib.Join
namespace Go.Abs
set_option linter.unusedVariables false
set_option linter.unusedSimpArgs false
def joinB (b : List UInt8) : List (List UInt8) → List UInt8
  | [] => []
  | x :: xs => x ++ (xs.map (b ++ ·)).flatten
theorem join_lib (b : List UInt8) (l : List (List UInt8)) : Lib.join l b = joinB b l := by
  cases l with
  | nil => rfl
  | cons x xs => rw [Lib.join_cons]; rfl
def keepL (skip : Bool) (l : List (List UInt8)) : List (List UInt8) := l.filter fun s => !(decide (s = []) && skip)
theorem keep_take {skip : Bool} {l : List (List UInt8)} {i : Nat} (h : i < l.length) : keepL skip (l.take (i + 1)) = keepL skip (l.take i) ++ (if l[i] = [] ∧ skip = true then [] else [l[i]]) := by
  rw [List.take_succ_eq_append_getElem h]
  unfold keepL
  rw [List.filter_append]
  congr 1
  by_cases hc : l[i] = [] ∧ skip = true
  · rw [if_pos hc, List.filter_cons, if_neg (by simp [hc.1, hc.2])]; rfl
  · rw [if_neg hc, List.filter_cons, if_pos (by
      cases hs : skip
      · simp
      · have : ¬ l[i] = [] := fun e => hc ⟨e, hs⟩
        simp [this])]; rfl
theorem join_snoc (b : List UInt8) (xs : List (List UInt8)) (y : List UInt8) : joinB b (xs ++ [y]) = if xs = [] then y else joinB b xs ++ b ++ y := by
  cases xs with
  | nil => simp [joinB]
  | cons x xs => simp [joinB]
theorem join_len {b : List UInt8} {xs : List (List UInt8)} (hb : b.length ≤ 1000) (h : ∀ s ∈ xs, s.length ≤ 1000) : (joinB b xs).length ≤ 2000 * xs.length := by
  have key : ∀ ys : List (List UInt8), (∀ s ∈ ys, s.length ≤ 1000) → ((ys.map (b ++ ·)).flatten).length ≤ 2000 * ys.length := fun ys => by
    induction ys with
    | nil => simp
    | cons y ys ih =>
      intro hy
      have h1 := ih fun s hs => hy s (List.mem_cons_of_mem _ hs)
      have h2 := hy y List.mem_cons_self
      simp only [List.map_cons, List.flatten_cons, List.length_append, List.length_cons]
      omega
  cases xs with
  | nil => simp [joinB]
  | cons x xs =>
    have h1 := key xs fun s hs => h s (List.mem_cons_of_mem _ hs)
    have h2 := h x List.mem_cons_self
    simp only [joinB, List.length_append, List.length_cons]
    omega
theorem keep_mem {skip : Bool} {l : List (List UInt8)} {s : List UInt8} (h : s ∈ keepL skip l) : s ∈ l := (List.mem_filter.1 h).1
theorem keep_len (skip : Bool) (l : List (List UInt8)) : (keepL skip l).length ≤ l.length := List.length_filter_le _ _
theorem join_mem {b : List UInt8} {xs : List (List UInt8)} {c : UInt8} (h : c ∈ joinB b xs) : c ∈ b ∨ ∃ s ∈ xs, c ∈ s := by
  cases xs with
  | nil => simp [joinB] at h
  | cons x xs =>
    simp only [joinB, List.mem_append, List.mem_flatten, List.mem_map] at h
    rcases h with h | ⟨t, ⟨s, hs, rfl⟩, hc⟩
    · exact .inr ⟨x, List.mem_cons_self, h⟩
    · rcases List.mem_append.1 hc with hc | hc
      · exact .inl hc
      · exact .inr ⟨s, List.mem_cons_of_mem _ hs, hc⟩
def joinT (b : List UInt8) (skip : Bool) (l : List (List UInt8)) : List UInt8 := joinB b (keepL skip l)
def joinV (b : List UInt8) (skip : Bool) (l : List (List UInt8)) : V := if 20000 < (joinT b skip l).length then doubt else strV (joinT b skip l)
theorem joinT_plain {b : List UInt8} {skip : Bool} {l : List (List UInt8)} (hb : asciiB b = true) (hl : ∀ s ∈ l, asciiB s = true) : ∀ c ∈ joinT b skip l, c.toNat < 128 := fun c hc => by
  have key : ∀ s, asciiB s = true → c ∈ s → c.toNat < 128 := fun s hs h => by
    have := List.all_eq_true.1 hs c h
    simp only [Bool.and_eq_true, decide_eq_true_eq] at this
    omega
  rcases join_mem hc with h | ⟨s, hs, h⟩
  · exact key b hb h
  · exact key s (hl s (keep_mem hs)) h
end Go.Abs
