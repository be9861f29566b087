/- Walks of the functions, printed by program, and the logic behind them: each theorem says what one function or one step answers. -/
import Derived.Test.YtopgbalmdocboaaGreatDoorZIter
import Derived.Test.YtopgbalmdocboaaGreatDoorZFz
import Derived.Test.YtopgbalmdocboaaGreatDoorZText
import Derived.Test.YtopgbalmdocboaaGreatDoorZTx
import Derived.Lib.Fold
import Derived.Test.YtopgbalmdocboaaGreatDoorZHs
import Derived.Test.YtopgbalmdocboaaGreatDoorZDoor
import Derived.Test.YtopgbalmdocboaaGreatDoorZLib
import Derived.Lib.AtoiErrMem
import Derived.Lib.Atoi
namespace Go.Abs
set_option linter.unusedVariables false
set_option linter.unusedSimpArgs false
section
variable {P : Program} {G : Nat → D} {g g' : Gh} {l l' : Lo} {A A' : AH} {wr : Bool} {Prot : Nat → Prop} {w w' : World} {o : Oper} {ρ : Operand → D} {S : AH → Prop}
def IsOwn2 (A : AH) (e : Nat) (d : D) (n : Nat) (xs : List D) : Prop := (d = .lit xs n) ∨ ∃ t, d = .gs t e xs n ∧ A.live t = true
end
end Go.Abs
namespace Go.Abs
set_option linter.unusedVariables false
set_option linter.unusedSimpArgs false
open Go.Lib
abbrev wTrue : List UInt8 := [84, 82, 85, 69]
abbrev wFalse : List UInt8 := [70, 65, 76, 83, 69]
theorem fold_low {x y : UInt8} (h : foldEq x y = true) : lowB x = lowB y := by
  unfold foldEq at h
  have h := of_decide_eq_true h
  unfold lowB
  rcases h with h | ⟨h1, h2, h3⟩ | ⟨h1, h2, h3⟩
  · rw [UInt8.toNat_inj.1 h]
  · rw [if_pos ⟨h1, h2⟩, if_neg (by omega)]
    exact UInt8.toNat_inj.1 (by rw [UInt8.toNat_ofNat', Nat.mod_eq_of_lt (by omega)]; exact h3.symm)
  · rw [if_neg (by omega), if_pos ⟨h1, h2⟩]
    exact UInt8.toNat_inj.1 (by rw [UInt8.toNat_ofNat', Nat.mod_eq_of_lt (by omega)]; exact h3)
theorem fold_lowS : ∀ {s t : List UInt8}, equalFold s t = true → lowS s = lowS t
  | [], [], _ => rfl
  | x :: s, y :: t, h => by
    simp only [equalFold, Bool.and_eq_true] at h
    simp only [lowS, List.map_cons]
    rw [fold_low h.1]
    exact congrArg _ (fold_lowS (s := s) (t := t) h.2)
  | [], _ :: _, h => by simp [equalFold] at h
  | _ :: _, [], h => by simp [equalFold] at h
theorem letters_fold {s : List UInt8} (h : lettersB s = true) : equalFold wTrue s = false ∧ equalFold wFalse s = false := by
  constructor
  · cases he : equalFold wTrue s with
    | false => rfl
    | true =>
      have := letters_word (s := s) (w := lowS wTrue) (by decide) (fold_lowS he).symm
      rw [this] at h; cases h
  · cases he : equalFold wFalse s with
    | false => rfl
    | true =>
      have := letters_word (s := s) (w := lowS wFalse) (by decide) (fold_lowS he).symm
      rw [this] at h; cases h
theorem letters_ascii {s : List UInt8} (h : lettersB s = true) : ∀ b ∈ s, b.toNat < 128 := by
  unfold lettersB at h
  rw [Bool.and_eq_true, List.all_eq_true] at h
  intro b hb
  have h1 := h.1 b hb
  unfold letterB at h1
  rw [Bool.and_eq_true] at h1
  have h2 := of_decide_eq_true h1.2
  rcases Nat.lt_or_ge b.toNat 128 with h3 | h3
  · exact h3
  · rw [lowB_same (by omega)] at h2; omega
theorem head_fold {b : UInt8} {r : List UInt8} (h : b = 45 ∨ (48 ≤ b.toNat ∧ b.toNat ≤ 57)) : equalFold wTrue (b :: r) = false ∧ equalFold wFalse (b :: r) = false := by
  have hb : b.toNat ≤ 57 ∧ 45 ≤ b.toNat := by
    rcases h with rfl | h
    · decide
    · omega
  have e1 : foldEq 84 b = false := decide_eq_false (by
    show ¬ ((84 : Nat) = b.toNat ∨ (65 ≤ 84 ∧ 84 ≤ 90 ∧ b.toNat = 84 + 32) ∨ (65 ≤ b.toNat ∧ b.toNat ≤ 90 ∧ 84 = b.toNat + 32))
    omega)
  have e2 : foldEq 70 b = false := decide_eq_false (by
    show ¬ ((70 : Nat) = b.toNat ∨ (65 ≤ 70 ∧ 70 ≤ 90 ∧ b.toNat = 70 + 32) ∨ (65 ≤ b.toNat ∧ b.toNat ≤ 90 ∧ 70 = b.toNat + 32))
    omega)
  exact ⟨equalFold_no _ _ _ _ e1, equalFold_no _ _ _ _ e2⟩
theorem dec_ascii (u : Nat) : ∀ b ∈ decDigits u, b.toNat < 128 := fun b hb => by have := dec_dig b hb; omega
theorem exp_ascii {e : Nat} (h : e < 100) : ∀ b ∈ expS e, b.toNat < 128 := by
  intro b hb
  unfold expS at hb
  split at hb
  · simp only [List.mem_cons, List.mem_nil_iff, or_false] at hb
    rcases hb with rfl | rfl
    · decide
    · rw [UInt8.toNat_ofNat']; omega
  · simp only [List.mem_cons, List.mem_nil_iff, or_false] at hb
    rcases hb with rfl | rfl <;> (rw [UInt8.toNat_ofNat']; omega)
theorem fmtT_ascii {ds : List UInt8} {dp : Int} (hd : ∀ b ∈ ds, b.toNat < 128) (hp : dp ≤ 99) : ∀ b ∈ fmtT ds dp, b.toNat < 128 := by
  intro b hb
  have e48 : ∀ k, b ∈ List.replicate k (48 : UInt8) → b.toNat < 128 := fun k h => by rw [List.eq_of_mem_replicate h]; decide
  have etk : ∀ k, b ∈ ds.take k → b.toNat < 128 := fun k h => hd b (List.mem_of_mem_take h)
  have edr : ∀ k, b ∈ ds.drop k → b.toNat < 128 := fun k h => hd b (List.mem_of_mem_drop h)
  unfold fmtT at hb
  split at hb
  · rcases List.mem_append.1 hb with hb | hb
    · rcases List.mem_append.1 hb with hb | hb
      · exact etk _ hb
      · split at hb
        · rcases List.mem_cons.1 hb with rfl | hb
          · decide
          · exact edr _ hb
        · cases hb
    · rcases List.mem_cons.1 hb with rfl | hb
      · decide
      · rcases List.mem_cons.1 hb with rfl | hb
        · decide
        · exact exp_ascii (by omega) b hb
  · rcases List.mem_append.1 hb with hb | hb
    · split at hb
      · rcases List.mem_append.1 hb with hb | hb
        · exact etk _ hb
        · exact e48 _ hb
      · rw [List.mem_singleton.1 hb]; decide
    · split at hb
      · rcases List.mem_cons.1 hb with rfl | hb
        · decide
        · rcases List.mem_append.1 hb with hb | hb
          · exact e48 _ hb
          · exact edr _ hb
      · cases hb
theorem txt_ascii (neg : Bool) {a : Nat} (h : a < 2 ^ 41) : ∀ b ∈ txtN neg a, b.toNat < 128 := by
  intro b hb
  have en : b ∈ (if neg = true then [45] else ([] : List UInt8)) → b.toNat < 128 := fun hb => by
    cases neg
    · simp at hb
    · simp at hb; subst hb; decide
  unfold txtN at hb
  split at hb
  · rcases List.mem_append.1 hb with hb | hb
    · exact en hb
    · rw [List.mem_singleton.1 hb]; decide
  · rename_i h0
    have hL : a.log2 ≤ 40 := by have := (Nat.log2_lt h0).2 h; omega
    unfold numT at hb
    rcases List.mem_append.1 hb with hb | hb
    · exact en hb
    · exact fmtT_ascii (dec_ascii _) (dpN_bounds (by omega) hL Nat.lt_log2_self).2 b hb
theorem fmtT_len {ds : List UInt8} {dp : Int} (hd : ds.length ≤ 20) (h1 : -3 ≤ dp) (h2 : dp ≤ 99) : (fmtT ds dp).length ≤ 100 := by
  unfold fmtT
  split
  · have he : ∀ e, (expS e).length = 2 := fun e => by unfold expS; split <;> rfl
    simp only [List.length_append, List.length_cons, List.length_take, he]
    split <;> simp <;> omega
  · simp only [List.length_append]
    have a1 : (if 0 < dp then ds.take dp.toNat ++ List.replicate (dp.toNat - ds.length) 48 else [48]).length ≤ 40 := by
      split <;> simp <;> omega
    have a2 : (if dp < ds.length then 46 :: (List.replicate (-dp).toNat 48 ++ ds.drop dp.toNat) else []).length ≤ 40 := by
      split <;> simp <;> omega
    omega
theorem txt_len (neg : Bool) {a : Nat} (h : a < 2 ^ 41) : (txtN neg a).length ≤ 101 := by
  have en : (if neg = true then [45] else ([] : List UInt8)).length ≤ 1 := by split <;> simp
  unfold txtN
  split
  · rw [List.length_append]; simp; split <;> simp
  · rename_i h0
    have hL : a.log2 ≤ 40 := by have := (Nat.log2_lt h0).2 h; omega
    unfold numT
    rw [List.length_append]
    have hb := dpN_bounds (a := a) (by omega) hL Nat.lt_log2_self
    have hlt := digN_lt (a := a) hL Nat.lt_log2_self
    have hN0 := digN_pos (a := a) (by omega) hL
    obtain ⟨c1, c2, c3, c4⟩ := core_facts (digN a a.log2) (digN a a.log2) (Nat.le_refl _) hN0
    have h20 := nDigits_le20 (digN a a.log2) (by omega)
    have := fmtT_len (ds := decDigits (core (digN a a.log2))) (by rw [decDigits_length]; omega) hb.1 hb.2
    omega
theorem txt_fold (neg : Bool) {a : Nat} (h : a < 2 ^ 41) : equalFold wTrue (txtN neg a) = false ∧ equalFold wFalse (txtN neg a) = false := by
  obtain ⟨b, r, e, hb⟩ := txt_head neg h
  rw [e]; exact head_fold hb
theorem errs_fold : ∀ k (h : k < 7), (equalFold wTrue (errsL[k]'h) = false ∧ equalFold wFalse (errsL[k]'h) = false) ∧ ∀ b ∈ errsL[k]'h, b.toNat < 128 := by decide
/-- A number whose text is told. -/
structure NumOK (n d : Int) (x : Int) (a : Nat) : Prop where
  q : floatBits .quo .f64 (FloatKind.f64.nearest n) (FloatKind.f64.nearest d) = some (qV (num n d))
  fx : Fx (qV (num n d)) x
  six : x.natAbs * 16 = a * unit
  lt : a < 2 ^ 41
  w : qV (num n d) < 2 ^ 64
theorem num_whole_ok {n : Int} (h : ¬ (99999999999 < n ∨ n < -99999999999)) : NumOK n 1 (n * (unit : Nat)) (16 * n.natAbs) := by
  obtain ⟨h1, h2, h3⟩ := qV_whole h
  refine ⟨h1, h2, ?_, by omega, h3⟩
  rw [Int.natAbs_mul, Int.natAbs_natCast, Nat.mul_comm 16, Nat.mul_right_comm]
theorem num_six_ok {v n d : Int} (h : Six v n d) : ∃ x, NumOK n d x v.natAbs := by
  obtain ⟨h1, ⟨x, h2, h3⟩, h4⟩ := qV_six h
  refine ⟨x, h1, h2, ?_, ?_, h4⟩
  · have h5 := congrArg Int.natAbs h3
    rw [Int.natAbs_mul, Int.natAbs_mul, Int.natAbs_natCast, Int.natAbs_natCast] at h5
    exact h5
  · have h6 := h.eq
    have h7 := h.lo
    have h8 := h.hi
    rcases h.dd with e | e | e | e | e <;> subst e <;> omega
theorem made_cases (a n : Int) (s : List UInt8) : madeV a n s = noV ∨ madeV a n s = doubt ∨ (∃ m d x k, madeV a n s = num m d ∧ NumOK m d x k) ∨ madeV a n s = strV s ∨ (∃ c, madeV a n s = boolV c) ∨ ∃ k, ∃ h : k < 7, madeV a n s = errV (errsL[k]'h) := by
  unfold madeV
  split
  · exact .inl rfl
  split
  · by_cases h : 99999999999 < n ∨ n < -99999999999
    · rw [intV_doubt h]; exact .inr (.inl rfl)
    · rw [intV_num h]; exact .inr (.inr (.inl ⟨n, 1, _, _, rfl, num_whole_ok h⟩))
  split
  · exact .inr (.inr (.inr (.inl rfl)))
  split
  · exact .inr (.inr (.inr (.inr (.inl ⟨_, rfl⟩))))
  split
  · exact .inr (.inr (.inr (.inr (.inr ⟨_, errI_lt n, rfl⟩))))
  · rcases sixV_cases (clampI n) with h | ⟨m, d, h, hs⟩
    · rw [h]; exact .inr (.inl rfl)
    · rw [h]
      obtain ⟨x, hx⟩ := num_six_ok hs
      exact .inr (.inr (.inl ⟨m, d, x, _, rfl, hx⟩))
theorem same_bool (c : Bool) : sameI (iBool (if c then 4607182418800017408 else 0)) (iBool (FloatKind.f64.nearest (if c then 1 else 0))) = true := by
  cases c
  · rw [show FloatKind.f64.nearest (if false = true then 1 else 0) = 0 from by decide]
    show (decide (3 = 3) && (fcmp .eql .f64 0 0 && decide (([] : List UInt8) = []))) = true
    rw [fcmp_eq fx_zero fx_zero]; simp
  · rw [show FloatKind.f64.nearest (if true = true then 1 else 0) = 4607182418800017408 from by decide]
    show (decide (3 = 3) && (fcmp .eql .f64 4607182418800017408 4607182418800017408 && decide (([] : List UInt8) = []))) = true
    rw [fcmp_eq fx_one fx_one]; simp
end Go.Abs
namespace Go.Abs
set_option linter.unusedVariables false
set_option linter.unusedSimpArgs false
def F.c (f : F) : List D := [st [], fl f.num, st f.str, .im [] 0, .im [] 0, bl f.bool, st f.err, .sc (.int .u8 f.ty), .sc (.pointer none), .sc (.pointer none)]
theorem F.c_len (f : F) : (F.c f).length = 10 := rfl
/-- A table: a row of rows, each of them whole. -/
structure IsMat (h : Heap) (id n cap : Nat) (ids : List Nat) (k kc : Nat) (rows : List (List F)) : Prop where
  len : ids.length = n
  rlen : rows.length = n
  top : ∃ sp, h id = some (ids.map (fun r => D.hs r 0 k kc) ++ sp)
  row : ∀ i (h1 : i < ids.length) (h2 : i < rows.length), h ids[i] = some (rows[i].flatMap F.c) ∧ rows[i].length = k
theorem IsMat.at {h : Heap} {id n cap k kc : Nat} {ids : List Nat} {rows : List (List F)} (H : IsMat h id n cap ids k kc rows) {i : Nat} (h1 : i < ids.length) : Heap.get h id i = some (.hs ids[i] 0 k kc) := by
  obtain ⟨sp, hs⟩ := H.top
  simp only [Heap.get, hs, Option.bind_some]
  rw [List.getElem?_append_left (by simpa using h1)]
  simp [h1]
end Go.Abs
namespace Go.Abs
set_option linter.unusedVariables false
set_option linter.unusedSimpArgs false
def munCell (i j : Nat) : U := ⟨1, if i = j then 1 else 0, 1, []⟩
def munRow (k i : Nat) : List U := (List.range k).map (munCell i)
def munR (k i : Nat) : List (List U) := (List.range i).map (munRow k)
def munF (i j : Nat) : F := fNum (if i = j then 4607182418800017408 else 0)
def munRF (k i : Nat) : List F := (List.range k).map (munF i)
def munFs (k i : Nat) : List (List F) := (List.range i).map (munRF k)
def IU.v (x : IU) : IV := ⟨x.kind, x.num, x.text, []⟩
/-- A single value of the reference, as one of the thin package. -/
def numI (u : U) : IU := ⟨1, if u.num = 1 then 4607182418800017408 else 0, []⟩
def tabI (rows : List (List IU)) : IV := ⟨5, 0, [], rows⟩
/-- What stands in a row's cell, in the program: a table. -/
def matD (id n cap : Nat) : D := .agg [st [], fl 0, st [], .im [] 0, .hs id 0 n cap, bl false, st [], .sc (.int .u8 4), .sc (.pointer none), .sc (.pointer none)]
abbrev zF : List D := [.sc (.string ⟨⟨[]⟩⟩), .sc (.float .f64 0), .sc (.string ⟨⟨[]⟩⟩), .sc (.slice none 0 0), .sc (.slice none 0 0), .sc (.bool false), .sc (.string ⟨⟨[]⟩⟩), .sc (.int .u8 0), .sc (.pointer none), .sc (.pointer none)]
/-- The table as it grows. -/
structure Mun (hh : Heap) (id i cap : Nat) (ids : List Nat) (k : Nat) : Prop where
  row : IsRow hh 1 (.hs id 0 i cap) i (ids.map fun r => .hs r 0 k k)
  has : ∃ cs, hh id = some cs
  len : ids.length = i
  cells : ∀ j (h : j < ids.length), hh ids[j] = some ((munRF k j).flatMap F.c)
  ne : ∀ r ∈ ids, r ≠ id
def fI (f : F) : IU := ⟨1, f.num, []⟩
end Go.Abs
namespace Go.Abs
set_option linter.unusedVariables false
set_option linter.unusedSimpArgs false
/-- What was there stays, but for these. -/
def Keep (h h' : Heap) (l : List Nat) : Prop := ∀ x, x ∉ l → h x ≠ none → h' x = h x
theorem Keep.refl (h : Heap) (l : List Nat) : Keep h h l := fun _ _ _ => rfl
theorem Keep.trans {h h' h'' : Heap} {l l' : List Nat} (a : Keep h h' l) (b : Keep h' h'' l') (hl : ∀ x, x ∈ l' → h x ≠ none → x ∈ l) : Keep h h'' l := fun x hx hn => by
  have h1 := a x hx hn
  rw [b x (fun e => hx (hl x e hn)) (by rw [h1]; exact hn), h1]
theorem IsList.some {h : Heap} {k : Nat} {es : List (Nat × D)} (H : IsList h k es) {x : Nat} (hx : x ∈ k :: es.map (·.1)) : h x ≠ none := by
  rcases List.mem_cons.1 hx with rfl | hx
  · intro e; have := H.klen; simp [Heap.len, e] at this
  · obtain ⟨p, hp, rfl⟩ := List.mem_map.1 hx
    intro e; have := H.elen p hp; simp [Heap.len, e] at this
theorem IsList.of_same {h h' : Heap} {k : Nat} {es : List (Nat × D)} (H : IsList h k es) (hs : ∀ x ∈ k :: es.map (·.1), h' x = h x) : IsList h' k es := by
  have hk := hs k List.mem_cons_self
  have he : ∀ p ∈ es, h' p.1 = h p.1 := fun p hp => hs _ (List.mem_cons_of_mem _ (List.mem_map.2 ⟨p, hp, rfl⟩))
  have hr : ∀ i, i ≤ es.length → h' (ring k (es.map (·.1)) i) = h (ring k (es.map (·.1)) i) := fun i hi => hs _ (ring_mem (by simpa using hi))
  have hr1 : ∀ i, i ≤ es.length → h' (ring k (es.map (·.1)) (i + 1)) = h (ring k (es.map (·.1)) (i + 1)) := fun i hi => by
    rcases Nat.lt_or_ge i es.length with h1 | h1
    · exact hr (i + 1) h1
    · have : i = es.length := by omega
      subst this
      rw [ring_end k (es.map (·.1)) (n := es.length) (by simp)]
      exact hk
  exact ⟨by simp only [Heap.len, hk]; exact H.klen, fun p hp => by simp only [Heap.len, he p hp]; exact H.elen p hp, fun i hi => by simp only [Heap.get, hr i hi]; exact H.next i hi, fun i hi => by simp only [Heap.get, hr1 i hi]; exact H.prev i hi,
    fun p hp => by simp only [Heap.get, he p hp]; exact H.list p hp, fun p hp => by simp only [Heap.get, he p hp]; exact H.val p hp, by simp only [Heap.get, hk]; exact H.n, H.nodup⟩
theorem IsList.keep {h h' : Heap} {k : Nat} {es : List (Nat × D)} {l : List Nat} (H : IsList h k es) (hK : Keep h h' l) (hd : ∀ x ∈ k :: es.map (·.1), x ∉ l) : IsList h' k es := H.of_same fun x hx => hK x (hd x hx) (H.some hx)
def lstF (r : List F) : D := .im (r.flatMap F.c) r.length
/-- An argument that is a table of cells, as a range of a sheet. -/
def matF (rows : List (List F)) (kr kc : Nat) : D := .agg [st [], fl 0, st [], .im [] 0, .im (rows.map lstF) rows.length, bl false, st [], .sc (.int .u8 4), .hp kr 0, .hp kc 0]
end Go.Abs
namespace Go.Abs
set_option linter.unusedVariables false
set_option linter.unusedSimpArgs false
section
variable {P : Program} {G : Nat → D}
theorem PF.at {f : FuncId} {ds : List D} {v : D} (hc : PF P G f ds v) (h : Heap) : ACall P G f true ds h (fun v' h' => v' = v ∧ h' = h) := fun g Prot w cargs hr hd => (hc g _ w cargs (call_in0 hr) hd).mono (by
  rintro e w' ⟨cv, v', h', g', rfl, rfl, hf, hr', hv⟩
  obtain ⟨k1, k2⟩ := call_back0 hr hf hr'
  exact ⟨cv, v', h, g', rfl, ⟨rfl, rfl⟩, k2, k1, hv⟩)
end
def WL (TF : Nat) (R : List (List F)) (kr kc : Nat) (fs : List F) : List D := .ifc TF (matF R kr kc) :: fs.map fun f => .ifc TF f.d
structure TabAt (h : Heap) (kr kc : Nat) (rg : Nat × D) (l : List Nat) : Prop where
  lr : IsList h kr []
  lc : IsList h kc [rg]
  ne : ¬ kr = kc
  off : kr ∉ l ∧ kc ∉ l ∧ rg.1 ∉ l
theorem TabAt.keep {h h' : Heap} {kr kc : Nat} {rg : Nat × D} {l l' : List Nat} (H : TabAt h kr kc rg l) (hK : Keep h h' l') (hl : ∀ x ∈ l', x ∈ l) : TabAt h' kr kc rg l where
  lr := H.lr.keep hK fun x hx => by simp at hx; subst hx; exact fun e => H.off.1 (hl _ e)
  lc := H.lc.keep hK fun x hx => by
    simp at hx
    rcases hx with rfl | rfl
    · exact fun e => H.off.2.1 (hl _ e)
    · exact fun e => H.off.2.2 (hl _ e)
  ne := H.ne
  off := H.off
theorem TabAt.more {h : Heap} {kr kc e : Nat} {rg : Nat × D} {l : List Nat} (H : TabAt h kr kc rg l) (he : h e = none) : TabAt h kr kc rg (l ++ [e]) where
  lr := H.lr
  lc := H.lc
  ne := H.ne
  off := by
    have h1 : ¬ kr = e := fun x => H.lr.some List.mem_cons_self (x ▸ he)
    have h2 : ¬ kc = e := fun x => H.lc.some List.mem_cons_self (x ▸ he)
    have h3 : ¬ rg.1 = e := fun x => H.lc.some (x := rg.1) (by simp) (x ▸ he)
    simp [H.off.1, H.off.2.1, H.off.2.2, h1, h2, h3]
end Go.Abs
namespace Go.Abs
set_option linter.unusedVariables false
set_option linter.unusedSimpArgs false
def setC (h : Heap) (kc n : Nat) : Heap := fun x => if x = kc then some [i64 (n : Int)] else h x
structure Cn (h : Heap) (fid kc kf n : Nat) : Prop where
  cnt : h kc = some [i64 (n : Int)]
  fn : h kf = some [.fn fid [] [.hp kc 0, .hp kf 0]]
  ne : ¬ kf = kc
theorem Cn.set {h : Heap} {fid kc kf n m : Nat} (C : Cn h fid kc kf n) : Cn (setC h kc m) fid kc kf m where
  cnt := if_pos rfl
  fn := (if_neg C.ne).trans C.fn
  ne := C.ne
inductive IsCell : F → Prop
  | num (b : Nat) : IsCell (fNum b)
  | bool (c : Bool) : IsCell (fBool c)
  | str (s : List UInt8) : IsCell (fStr s)
  | none : IsCell fEmpty
def cF (f : F) : Nat := if f.ty = 1 ∧ f.bool = false then 1 else 0
def cFs (l : List F) : Nat := (l.map cF).sum
end Go.Abs
namespace Go.Abs
set_option linter.unusedVariables false
set_option linter.unusedSimpArgs false
structure It where
  kind : Int
  num : Int
  text : List UInt8
def It.c (x : It) : List D := [i64 x.kind, i64 x.num, st x.text]
def itL (l : List It) : D := .im (l.flatMap It.c) l.length
/-- A number from 0 to n - 1. -/
def partI (k n : Int) : Int := if k.tmod n < 0 then k.tmod n + n else k.tmod n
theorem part_le {k n : Int} (h : 0 < n) : 0 ≤ partI k n ∧ partI k n < n := by
  have h1 := Int.tmod_lt_of_pos k h
  have h2 : -n < k.tmod n := by
    rcases Int.lt_or_le k 0 with hk | hk
    · have : (-k).tmod n < n := Int.tmod_lt_of_pos _ h
      rw [Int.neg_tmod] at this; omega
    · have := Int.tmod_nonneg n hk; omega
  unfold partI; split <;> omega
def errsT : List (List UInt8) := [[35, 68, 73, 86, 47, 48, 33], [35, 78, 47, 65], [35, 86, 65, 76, 85, 69, 33], [35, 82, 69, 70, 33], [35, 78, 65, 77, 69, 63], [35, 78, 85, 77, 33], [35, 78, 85, 76, 76, 33]]
def errT (n : Int) : Nat := (partI n 7).toNat
theorem errT_lt (n : Int) : errT n < 7 := by have := part_le (k := n) (n := 7) (by omega); unfold errT; omega
def itV (x : It) : V :=
  if partI x.kind 6 = 1 then intV x.num else if partI x.kind 6 = 2 then sixV (x.num.tmod 1099511627776 * 4) else if partI x.kind 6 = 3 then strV x.text else if partI x.kind 6 = 4 then boolV (decide (¬ x.num.tmod 2 = 0)) else if partI x.kind 6 = 5 then errV (errsT[errT x.num]'(errT_lt x.num)) else noV
def itU (x : It) : U := (itV x).u
def noU : U := ⟨0, 0, 0, []⟩
/-- A table of cells: whole rows of so many columns. -/
def cellU (l : List It) (n : Nat) : U := if h : n < l.length then itU l[n] else noU
def rowU (l : List It) (c i k : Nat) : List U := (List.range k).map fun j => cellU l (i * c + j)
def rowsU (l : List It) (c m : Nat) : List (List U) := (List.range m).map fun i => rowU l c i c
def colsN (cols : Int) : Nat := (1 + partI cols 6).toNat
def rowsN (n c : Nat) : Nat := if n / c = 0 then 1 else n / c
def tabU (l : List It) (cols : Int) : List (List U) := rowsU (l.take 120) (colsN cols) (rowsN (l.take 120).length (colsN cols))
end Go.Abs
namespace Go.Abs
set_option linter.unusedVariables false
set_option linter.unusedSimpArgs false
def kOKv (v : V) : Bool := decide (v.kind = 1) || decide (v.kind = 0) || decide (v.kind = 2) || decide (v.kind = 3)
def c1 (l : List V) : Nat := (l.filter fun v => decide (v.kind = 1)).length
def okC (v : V) : Bool := decide (v.kind = 1) || decide (v.kind = 3) || (decide (v.kind = 5) && (v.rows.flatten.map U.v).all kOKv)
def cntV (v : V) : Nat := if v.kind = 1 ∨ v.kind = 3 then 1 else if v.kind = 5 then c1 (v.rows.flatten.map U.v) else 0
def cntL (l : List V) : Nat := (l.map cntV).sum
def countV (l : List V) : V := if l.all okC then intV (cntL l : Nat) else doubt
end Go.Abs
namespace Go.Abs
set_option linter.unusedVariables false
set_option linter.unusedSimpArgs false
def innX (v : IV) : F := if v.kind = 0 then fEmpty else innF v
def iNone : IV := ⟨0, 0, [], []⟩
def ivX (v : V) : IV := if v.kind = 0 then iNone else inV v
def cvX (u : U) : IU := ⟨(ivX u.v).kind, (ivX u.v).num, (ivX u.v).text⟩
inductive Sort2 : V → Prop
  | none : Sort2 noV
  | num (n d : Int) (x : Int) (hq : floatBits .quo .f64 (FloatKind.f64.nearest n) (FloatKind.f64.nearest d) = some (qV (num n d))) (hx : Fx (qV (Go.Abs.num n d)) x) : Sort2 (Go.Abs.num n d)
  | txt (s : List UInt8) : Sort2 (strV s)
  | bool (c : Bool) : Sort2 (boolV c)
theorem Sort2.rows {v : V} (h : Sort2 v) : (ivX v).rows = [] := by cases h <;> rfl
theorem Sort2.cell {v : V} (h : Sort2 v) : IsCell (innX (ivX v)) := by
  cases h with
  | none => exact .none
  | num n d x hq hx => exact .num _
  | txt s => exact .str s
  | bool c => exact .bool _
theorem Sort2.one {v : V} (h : Sort2 v) (hk : v.kind = 1 ∨ v.kind = 3) : (∃ b, innX (ivX v) = fNum b) ∨ ∃ c, innX (ivX v) = fBool c := by
  cases h with
  | none => simp [noV] at hk
  | num n d x hq hx => exact .inl ⟨_, rfl⟩
  | txt s => simp [strV] at hk
  | bool c => exact .inr ⟨_, rfl⟩
end Go.Abs
namespace Go.Abs
set_option linter.unusedVariables false
set_option linter.unusedSimpArgs false
open Go.Lib
end Go.Abs
