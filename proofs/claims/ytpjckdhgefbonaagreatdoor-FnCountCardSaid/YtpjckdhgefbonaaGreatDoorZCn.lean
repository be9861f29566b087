/- Walks of the functions, printed by program, and the logic behind them: each theorem says what one function or one step answers. -/
import Derived.Test.YtpjckdhgefbonaaGreatDoorZFm
import Derived.Test.YtpjckdhgefbonaaGreatDoorZTx
import Derived.Test.YtpjckdhgefbonaaGreatDoorZItem
import Derived.Test.YtpjckdhgefbonaaGreatDoorZCnt
namespace Go.Abs
set_option linter.unusedVariables false
set_option linter.unusedSimpArgs false
def innX (v : IV) : F := if v.kind = 0 then fEmpty else innF v
def iNone : IV := ⟨0, 0, [], []⟩
def ivX (v : V) : IV := if v.kind = 0 then iNone else inV v
def cvX (u : U) : IU := ⟨(ivX u.v).kind, (ivX u.v).num, (ivX u.v).text⟩
inductive Sort2 : V → Prop
  | none : Sort2 noV
  | num (n d : Int) (x : Int) (hq : floatBits .quo .f64 (FloatKind.f64.nearest n) (FloatKind.f64.nearest d) = some (qV (num n d))) (hx : Fx (qV (Go.Abs.num n d)) x) : Sort2 (Go.Abs.num n d)
  | txt (s : List UInt8) : Sort2 (strV s)
  | bool (c : Bool) : Sort2 (boolV c)
theorem Sort2.of1 {v : V} (h : Sort1 v) (hk : kOKv v = true) (h0 : v.kind = 0 → v = noV) (h3 : v.kind = 3 → ∃ c, v = boolV c) : Sort2 v := by
  cases h with
  | txt s => exact .txt s
  | num n d x hq hx => exact .num n d x hq hx
  | other _ h hr =>
    simp only [kOKv, Bool.or_eq_true, decide_eq_true_eq] at hk
    rcases hk with ((hk | hk) | hk) | hk
    · exact absurd hk h.1
    · rw [h0 hk]; exact .none
    · exact absurd hk h.2.1
    · obtain ⟨c, e⟩ := h3 hk; rw [e]; exact .bool c
theorem it_none (x : It) (h : (itV x).kind = 0) : itV x = noV := by
  unfold itV at h ⊢
  (repeat' split at h) <;> (try simp_all [strV, boolV, errV])
  · unfold intV at h; split at h <;> simp [doubt] at h
  · rcases sixV_cases (x.num.tmod 1099511627776 * 4) with e | ⟨m, d, e, _⟩ <;> rw [e] at h <;> simp [doubt, num] at h
theorem it_bool (x : It) (h : (itV x).kind = 3) : ∃ c, itV x = boolV c := by
  unfold itV at h ⊢
  (repeat' split at h) <;> (try simp_all [strV, errV, noV])
  · unfold intV at h; split at h <;> simp [doubt] at h
  · rcases sixV_cases (x.num.tmod 1099511627776 * 4) with e | ⟨m, d, e, _⟩ <;> rw [e] at h <;> simp [doubt, num] at h
  · cases (!decide (x.num.tmod 2 = 0)) with
    | true => exact .inr rfl
    | false => exact .inl rfl
theorem sort2_it (x : It) (hk : kOKv (itU x).v = true) : Sort2 (itU x).v := by
  rw [itU_v] at hk ⊢
  exact Sort2.of1 (sort_it x) hk (it_none x) (it_bool x)
theorem sort2_cell (l : List It) (n : Nat) (hk : kOKv (cellU l n).v = true) : Sort2 (cellU l n).v := by
  unfold cellU at hk ⊢
  split
  · rename_i h; rw [dif_pos h] at hk; exact sort2_it _ hk
  · exact .none
theorem Sort2.rows {v : V} (h : Sort2 v) : (ivX v).rows = [] := by cases h <;> rfl
theorem Sort2.cell {v : V} (h : Sort2 v) : IsCell (innX (ivX v)) := by
  cases h with
  | none => exact .none
  | num n d x hq hx => exact .num _
  | txt s => exact .str s
  | bool c => exact .bool _
theorem Sort2.cf {v : V} (h : Sort2 v) : cF (innX (ivX v)) = if v.kind = 1 then 1 else 0 := by
  cases h <;> rfl
theorem Sort2.one {v : V} (h : Sort2 v) (hk : v.kind = 1 ∨ v.kind = 3) : (∃ b, innX (ivX v) = fNum b) ∨ ∃ c, innX (ivX v) = fBool c := by
  cases h with
  | none => simp [noV] at hk
  | num n d x hq hx => exact .inl ⟨_, rfl⟩
  | txt s => simp [strV] at hk
  | bool c => exact .inr ⟨_, rfl⟩
theorem cvX_v {u : U} (h : Sort2 u.v) : IU.v (cvX u) = ivX u.v := by
  have := h.rows
  unfold IU.v cvX
  generalize ivX u.v = w at *
  cases w; simp only at this; subst this; rfl
end Go.Abs
namespace Go.Abs
set_option linter.unusedVariables false
set_option linter.unusedSimpArgs false
theorem flat_bound {α : Type} {R : List (List α)} {k : Nat} (h : ∀ r ∈ R, r.length ≤ k) : R.flatten.length ≤ k * R.length := by
  induction R with
  | nil => simp
  | cons r R ih =>
    have h1 := h r List.mem_cons_self
    have h2 := ih fun r hr => h r (List.mem_cons_of_mem _ hr)
    simp only [List.flatten_cons, List.length_append, List.length_cons, Nat.mul_add, Nat.mul_one]
    omega
theorem cell_five (l : List It) (n : Nat) : ¬ (cellU l n).kind = 5 := by
  unfold cellU
  split
  · exact (sort_it _).five
  · simp [noU]
theorem tab_len (l : List It) (cols : Int) : (tabU l cols).length ≤ 120 ∧ ¬ tabU l cols = [] := by
  have h1 : (l.take 120).length ≤ 120 := by rw [List.length_take]; omega
  have h2 : (l.take 120).length / colsN cols ≤ (l.take 120).length := Nat.div_le_self _ _
  have h3 : (tabU l cols).length = rowsN (l.take 120).length (colsN cols) := by simp [tabU, rowsU]
  generalize (l.take 120).length = a at *
  have h4 : 1 ≤ rowsN a (colsN cols) ∧ rowsN a (colsN cols) ≤ 120 := by
    unfold rowsN
    generalize a / colsN cols = b at *
    split <;> omega
  refine ⟨by omega, fun e => ?_⟩
  rw [e] at h3; simp only [List.length_nil] at h3; omega
theorem tab_row {l : List It} {cols : Int} {r : List U} (hr : r ∈ tabU l cols) : r.length ≤ 6 ∧ ∀ u ∈ r, ∃ n, u = cellU (l.take 120) n := by
  obtain ⟨p1, p2⟩ := part_le (k := cols) (n := 6) (by omega)
  have hc : colsN cols ≤ 6 := by unfold colsN; omega
  simp only [tabU, rowsU, List.mem_map] at hr
  obtain ⟨i, _, rfl⟩ := hr
  refine ⟨by simp [rowU]; exact hc, fun u hu => ?_⟩
  simp only [rowU, List.mem_map] at hu
  obtain ⟨j, _, rfl⟩ := hu
  exact ⟨_, rfl⟩
theorem tab_flat (l : List It) (cols : Int) : (tabU l cols).flatten.length ≤ 720 := by
  have := flat_bound (R := tabU l cols) (k := 6) fun r hr => (tab_row hr).1
  have h2 := (tab_len l cols).1
  omega
theorem cfs_c1 {l : List U} (h : ∀ u ∈ l, Sort2 u.v) : cFs (l.map fun u => innX (IU.v (cvX u))) = c1 (l.map U.v) := by
  induction l with
  | nil => rfl
  | cons u l ih =>
    have h1 := h u List.mem_cons_self
    have h2 := ih fun u hu => h u (List.mem_cons_of_mem _ hu)
    have h3 := h1.cf
    simp only [cFs, c1, List.map_cons, List.sum_cons, List.filter_cons] at h2 ⊢
    rw [cvX_v h1, h3, h2]
    by_cases hk : u.v.kind = 1
    · rw [if_pos hk]; simp [hk]; omega
    · rw [if_neg hk]; simp [hk]
theorem cnt_singles {us : List U} (h : ∀ u ∈ us, u.v.kind = 1 ∨ u.v.kind = 3) : cntL (us.map U.v) = us.length := by
  induction us with
  | nil => rfl
  | cons u us ih =>
    have h1 := h u List.mem_cons_self
    have h2 := ih fun u hu => h u (List.mem_cons_of_mem _ hu)
    simp only [cntL, List.map_cons, List.sum_cons, List.length_cons] at h2 ⊢
    rw [h2, show cntV u.v = 1 from if_pos h1]; omega
theorem cnt_args (T : List (List U)) (us : List U) : cntL (tabV T :: us.map U.v) = c1 (T.flatten.map U.v) + cntL (us.map U.v) := by
  simp only [cntL, List.map_cons, List.sum_cons]
  rw [show cntV (tabV T) = c1 (T.flatten.map U.v) from by unfold cntV; rw [if_neg (by simp [tabV]), if_pos (show (tabV T).kind = 5 from rfl)]; rfl]
def gX (v : V) : IV := if v.kind = 5 then tabI (v.rows.map (·.map cvX)) else ivX v
end Go.Abs
