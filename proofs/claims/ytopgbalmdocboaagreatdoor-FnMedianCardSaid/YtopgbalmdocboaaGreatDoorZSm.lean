/- Walks of the functions, printed by program, and the logic behind them: each theorem says what one function or one step answers. -/
import Derived.Test.YtopgbalmdocboaaGreatDoorZBy
import Derived.Test.YtopgbalmdocboaaGreatDoorZIt2
import Derived.Test.YtopgbalmdocboaaGreatDoorZDoor
import Derived.Test.YtopgbalmdocboaaGreatDoorZTx
import Derived.Test.YtopgbalmdocboaaGreatDoorZLib
import Derived.Test.YtopgbalmdocboaaGreatDoorZTe
namespace Go.Abs
set_option linter.unusedVariables false
set_option linter.unusedSimpArgs false
theorem live_tags_old {A : AH} {t : Nat} (h : A.live t = true) : (A.tags 1).live t = true := by
  show (A.live t || _) = true
  rw [h]; rfl
theorem live_app_old {A : AH} {t t2 : Nat} (h : A.live t = true) (hne : t ≠ t2) : (A.app t2).live t = true := by
  simp [AH.app, AH.row, AH.kill, h, beq_false hne]
def F.c (f : F) : List D := [st [], fl f.num, st f.str, .im [] 0, .im [] 0, bl f.bool, st f.err, .sc (.int .u8 f.ty), .sc (.pointer none), .sc (.pointer none)]
theorem F.c_len (f : F) : (F.c f).length = 10 := rfl
/-- A table: a row of rows, each of them whole. -/
structure IsMat (h : Heap) (id n cap : Nat) (ids : List Nat) (k kc : Nat) (rows : List (List F)) : Prop where
  len : ids.length = n
  rlen : rows.length = n
  top : ∃ sp, h id = some (ids.map (fun r => D.hs r 0 k kc) ++ sp)
  row : ∀ i (h1 : i < ids.length) (h2 : i < rows.length), h ids[i] = some (rows[i].flatMap F.c) ∧ rows[i].length = k
theorem IsMat.at {h : Heap} {id n cap k kc : Nat} {ids : List Nat} {rows : List (List F)} (H : IsMat h id n cap ids k kc rows) {i : Nat} (h1 : i < ids.length) : Heap.get h id i = some (.hs ids[i] 0 k kc) := by
  obtain ⟨sp, hs⟩ := H.top
  simp only [Heap.get, hs, Option.bind_some]
  rw [List.getElem?_append_left (by simpa using h1)]
  simp [h1]
end Go.Abs
namespace Go.Abs
set_option linter.unusedVariables false
set_option linter.unusedSimpArgs false
def munCell (i j : Nat) : U := ⟨1, if i = j then 1 else 0, 1, []⟩
def munRow (k i : Nat) : List U := (List.range k).map (munCell i)
def munR (k i : Nat) : List (List U) := (List.range i).map (munRow k)
def munF (i j : Nat) : F := fNum (if i = j then 4607182418800017408 else 0)
def munRF (k i : Nat) : List F := (List.range k).map (munF i)
def munFs (k i : Nat) : List (List F) := (List.range i).map (munRF k)
def IU.v (x : IU) : IV := ⟨x.kind, x.num, x.text, []⟩
theorem ilst_U (r : List IU) : ilst (r.map IU.v) = ilstU r := by
  unfold ilst ilstU
  rw [List.length_map, List.flatMap_map]; rfl
theorem take_ilstU {r : List IU} {j : Nat} (h : j < r.length) : takeAt true 4 (r.flatMap IU.c) ((j : Int).toNat * 4) = some (IU.v r[j]).d := take_flat IU.c 4 (fun _ => rfl) h
/-- A single value of the reference, as one of the thin package. -/
def numI (u : U) : IU := ⟨1, if u.num = 1 then 4607182418800017408 else 0, []⟩
def tabI (rows : List (List IU)) : IV := ⟨5, 0, [], rows⟩
/-- What stands in a row's cell, in the program: a table. -/
def matD (id n cap : Nat) : D := .agg [st [], fl 0, st [], .im [] 0, .hs id 0 n cap, bl false, st [], .sc (.int .u8 4), .sc (.pointer none), .sc (.pointer none)]
abbrev zF : List D := [.sc (.string ⟨⟨[]⟩⟩), .sc (.float .f64 0), .sc (.string ⟨⟨[]⟩⟩), .sc (.slice none 0 0), .sc (.slice none 0 0), .sc (.bool false), .sc (.string ⟨⟨[]⟩⟩), .sc (.int .u8 0), .sc (.pointer none), .sc (.pointer none)]
/-- The table as it grows. -/
structure Mun (hh : Heap) (id i cap : Nat) (ids : List Nat) (k : Nat) : Prop where
  row : IsRow hh 1 (.hs id 0 i cap) i (ids.map fun r => .hs r 0 k k)
  has : ∃ cs, hh id = some cs
  len : ids.length = i
  cells : ∀ j (h : j < ids.length), hh ids[j] = some ((munRF k j).flatMap F.c)
  ne : ∀ r ∈ ids, r ≠ id
def fI (f : F) : IU := ⟨1, f.num, []⟩
end Go.Abs
namespace Go.Abs
set_option linter.unusedVariables false
set_option linter.unusedSimpArgs false
/-- What was there stays, but for these. -/
def Keep (h h' : Heap) (l : List Nat) : Prop := ∀ x, x ∉ l → h x ≠ none → h' x = h x
theorem Keep.refl (h : Heap) (l : List Nat) : Keep h h l := fun _ _ _ => rfl
theorem Keep.trans {h h' h'' : Heap} {l l' : List Nat} (a : Keep h h' l) (b : Keep h' h'' l') (hl : ∀ x, x ∈ l' → h x ≠ none → x ∈ l) : Keep h h'' l := fun x hx hn => by
  have h1 := a x hx hn
  rw [b x (fun e => hx (hl x e hn)) (by rw [h1]; exact hn), h1]
theorem put_off {h : Heap} {k off x : Nat} {d : D} (hx : x ≠ k) : Heap.put h k off d x = h x := if_neg hx
theorem insBack_off {h : Heap} {k a e n x : Nat} (h1 : x ≠ k) (h2 : x ≠ a) (h3 : x ≠ e) : insBack h k a e n x = h x := by
  unfold insBack
  rw [put_off h1, put_off h3, put_off h1, put_off h2, put_off h3, put_off h3]
theorem IsList.some {h : Heap} {k : Nat} {es : List (Nat × D)} (H : IsList h k es) {x : Nat} (hx : x ∈ k :: es.map (·.1)) : h x ≠ none := by
  rcases List.mem_cons.1 hx with rfl | hx
  · intro e; have := H.klen; simp [Heap.len, e] at this
  · obtain ⟨p, hp, rfl⟩ := List.mem_map.1 hx
    intro e; have := H.elen p hp; simp [Heap.len, e] at this
theorem IsList.of_same {h h' : Heap} {k : Nat} {es : List (Nat × D)} (H : IsList h k es) (hs : ∀ x ∈ k :: es.map (·.1), h' x = h x) : IsList h' k es := by
  have hk := hs k List.mem_cons_self
  have he : ∀ p ∈ es, h' p.1 = h p.1 := fun p hp => hs _ (List.mem_cons_of_mem _ (List.mem_map.2 ⟨p, hp, rfl⟩))
  have hr : ∀ i, i ≤ es.length → h' (ring k (es.map (·.1)) i) = h (ring k (es.map (·.1)) i) := fun i hi => hs _ (ring_mem (by simpa using hi))
  have hr1 : ∀ i, i ≤ es.length → h' (ring k (es.map (·.1)) (i + 1)) = h (ring k (es.map (·.1)) (i + 1)) := fun i hi => by
    rcases Nat.lt_or_ge i es.length with h1 | h1
    · exact hr (i + 1) h1
    · have : i = es.length := by omega
      subst this
      rw [ring_end k (es.map (·.1)) (n := es.length) (by simp)]
      exact hk
  exact ⟨by simp only [Heap.len, hk]; exact H.klen, fun p hp => by simp only [Heap.len, he p hp]; exact H.elen p hp, fun i hi => by simp only [Heap.get, hr i hi]; exact H.next i hi, fun i hi => by simp only [Heap.get, hr1 i hi]; exact H.prev i hi,
    fun p hp => by simp only [Heap.get, he p hp]; exact H.list p hp, fun p hp => by simp only [Heap.get, he p hp]; exact H.val p hp, by simp only [Heap.get, hk]; exact H.n, H.nodup⟩
theorem IsList.keep {h h' : Heap} {k : Nat} {es : List (Nat × D)} {l : List Nat} (H : IsList h k es) (hK : Keep h h' l) (hd : ∀ x ∈ k :: es.map (·.1), x ∉ l) : IsList h' k es := H.of_same fun x hx => hK x (hd x hx) (H.some hx)
def lstF (r : List F) : D := .im (r.flatMap F.c) r.length
theorem len_lstF (r : List F) : (r.flatMap F.c).length = r.length * 10 := length_flat F.c 10 F.c_len r
theorem take_lstF {r : List F} {j : Nat} (h : j < r.length) : takeAt true 10 (r.flatMap F.c) ((j : Int).toNat * 10) = some r[j].d := take_flat F.c 10 F.c_len h
/-- An argument that is a table of cells, as a range of a sheet. -/
def matF (rows : List (List F)) (kr kc : Nat) : D := .agg [st [], fl 0, st [], .im [] 0, .im (rows.map lstF) rows.length, bl false, st [], .sc (.int .u8 4), .hp kr 0, .hp kc 0]
end Go.Abs
namespace Go.Abs
set_option linter.unusedVariables false
set_option linter.unusedSimpArgs false
section
variable {P : Program} {G : Nat → D}
theorem PF.at {f : FuncId} {ds : List D} {v : D} (hc : PF P G f ds v) (h : Heap) : ACall P G f true ds h (fun v' h' => v' = v ∧ h' = h) := fun g Prot w cargs hr hd => (hc g _ w cargs (call_in0 hr) hd).mono (by
  rintro e w' ⟨cv, v', h', g', rfl, rfl, hf, hr', hv⟩
  obtain ⟨k1, k2⟩ := call_back0 hr hf hr'
  exact ⟨cv, v', h, g', rfl, ⟨rfl, rfl⟩, k2, k1, hv⟩)
end
def WL (TF : Nat) (R : List (List F)) (kr kc : Nat) (fs : List F) : List D := .ifc TF (matF R kr kc) :: fs.map fun f => .ifc TF f.d
structure TabAt (h : Heap) (kr kc : Nat) (rg : Nat × D) (l : List Nat) : Prop where
  lr : IsList h kr []
  lc : IsList h kc [rg]
  ne : ¬ kr = kc
  off : kr ∉ l ∧ kc ∉ l ∧ rg.1 ∉ l
theorem TabAt.keep {h h' : Heap} {kr kc : Nat} {rg : Nat × D} {l l' : List Nat} (H : TabAt h kr kc rg l) (hK : Keep h h' l') (hl : ∀ x ∈ l', x ∈ l) : TabAt h' kr kc rg l where
  lr := H.lr.keep hK fun x hx => by simp at hx; subst hx; exact fun e => H.off.1 (hl _ e)
  lc := H.lc.keep hK fun x hx => by
    simp at hx
    rcases hx with rfl | rfl
    · exact fun e => H.off.2.1 (hl _ e)
    · exact fun e => H.off.2.2 (hl _ e)
  ne := H.ne
  off := H.off
theorem TabAt.more {h : Heap} {kr kc e : Nat} {rg : Nat × D} {l : List Nat} (H : TabAt h kr kc rg l) (he : h e = none) : TabAt h kr kc rg (l ++ [e]) where
  lr := H.lr
  lc := H.lc
  ne := H.ne
  off := by
    have h1 : ¬ kr = e := fun x => H.lr.some List.mem_cons_self (x ▸ he)
    have h2 : ¬ kc = e := fun x => H.lc.some List.mem_cons_self (x ▸ he)
    have h3 : ¬ rg.1 = e := fun x => H.lc.some (x := rg.1) (by simp) (x ▸ he)
    simp [H.off.1, H.off.2.1, H.off.2.2, h1, h2, h3]
end Go.Abs
namespace Go.Abs
set_option linter.unusedVariables false
set_option linter.unusedSimpArgs false
def setC (h : Heap) (kc n : Nat) : Heap := fun x => if x = kc then some [i64 (n : Int)] else h x
structure Cn (h : Heap) (fid kc kf n : Nat) : Prop where
  cnt : h kc = some [i64 (n : Int)]
  fn : h kf = some [.fn fid [] [.hp kc 0, .hp kf 0]]
  ne : ¬ kf = kc
theorem Cn.set {h : Heap} {fid kc kf n m : Nat} (C : Cn h fid kc kf n) : Cn (setC h kc m) fid kc kf m where
  cnt := if_pos rfl
  fn := (if_neg C.ne).trans C.fn
  ne := C.ne
inductive IsCell : F → Prop
  | num (b : Nat) : IsCell (fNum b)
  | bool (c : Bool) : IsCell (fBool c)
  | str (s : List UInt8) : IsCell (fStr s)
  | none : IsCell fEmpty
def cF (f : F) : Nat := if f.ty = 1 ∧ f.bool = false then 1 else 0
def cFs (l : List F) : Nat := (l.map cF).sum
end Go.Abs
namespace Go.Abs
set_option linter.unusedVariables false
set_option linter.unusedSimpArgs false
structure It where
  kind : Int
  num : Int
  text : List UInt8
def It.c (x : It) : List D := [i64 x.kind, i64 x.num, st x.text]
def itL (l : List It) : D := .im (l.flatMap It.c) l.length
theorem it_len (x : It) : (It.c x).length = 3 := rfl
theorem take_itl {l : List It} {i : Nat} (h : i < l.length) : takeAt true 3 (l.flatMap It.c) ((i : Int).toNat * 3) = some (.agg (It.c l[i])) := take_flat It.c 3 it_len h
theorem len_itl (l : List It) : (l.flatMap It.c).length = l.length * 3 := length_flat It.c 3 it_len l
/-- A number from 0 to n - 1. -/
def partI (k n : Int) : Int := if k.tmod n < 0 then k.tmod n + n else k.tmod n
theorem part_le {k n : Int} (h : 0 < n) : 0 ≤ partI k n ∧ partI k n < n := by
  have h1 := Int.tmod_lt_of_pos k h
  have h2 : -n < k.tmod n := by
    rcases Int.lt_or_le k 0 with hk | hk
    · have : (-k).tmod n < n := Int.tmod_lt_of_pos _ h
      rw [Int.neg_tmod] at this; omega
    · have := Int.tmod_nonneg n hk; omega
  unfold partI; split <;> omega
def errsT : List (List UInt8) := [[35, 68, 73, 86, 47, 48, 33], [35, 78, 47, 65], [35, 86, 65, 76, 85, 69, 33], [35, 82, 69, 70, 33], [35, 78, 65, 77, 69, 63], [35, 78, 85, 77, 33], [35, 78, 85, 76, 76, 33]]
def errT (n : Int) : Nat := (partI n 7).toNat
theorem errT_lt (n : Int) : errT n < 7 := by have := part_le (k := n) (n := 7) (by omega); unfold errT; omega
def itV (x : It) : V :=
  if partI x.kind 6 = 1 then intV x.num else if partI x.kind 6 = 2 then sixV (x.num.tmod 1099511627776 * 4) else if partI x.kind 6 = 3 then strV x.text else if partI x.kind 6 = 4 then boolV (decide (¬ x.num.tmod 2 = 0)) else if partI x.kind 6 = 5 then errV (errsT[errT x.num]'(errT_lt x.num)) else noV
theorem sort_it (x : It) : Sort1 (itV x) := by
  unfold itV
  (repeat' split)
  · exact sort_int _
  · exact sort_six _
  · exact .txt _
  · exact .other _ (by simp [boolV]) rfl
  · exact .other _ (by simp [errV]) rfl
  · exact .other _ (by simp [noV]) rfl
def itU (x : It) : U := (itV x).u
theorem itU_v (x : It) : (itU x).v = itV x := u_v (sort_it x).rows
def noU : U := ⟨0, 0, 0, []⟩
/-- A table of cells: whole rows of so many columns. -/
def cellU (l : List It) (n : Nat) : U := if h : n < l.length then itU l[n] else noU
def rowU (l : List It) (c i k : Nat) : List U := (List.range k).map fun j => cellU l (i * c + j)
def rowsU (l : List It) (c m : Nat) : List (List U) := (List.range m).map fun i => rowU l c i c
theorem rowU_succ (l : List It) (c i k : Nat) : rowU l c i (k + 1) = rowU l c i k ++ [cellU l (i * c + k)] := by simp [rowU, List.range_succ]
theorem rowsU_succ (l : List It) (c m : Nat) : rowsU l c (m + 1) = rowsU l c m ++ [rowU l c m c] := by simp [rowsU, List.range_succ]
def colsN (cols : Int) : Nat := (1 + partI cols 6).toNat
def rowsN (n c : Nat) : Nat := if n / c = 0 then 1 else n / c
def tabU (l : List It) (cols : Int) : List (List U) := rowsU (l.take 120) (colsN cols) (rowsN (l.take 120).length (colsN cols))
end Go.Abs
namespace Go.Abs
set_option linter.unusedVariables false
set_option linter.unusedSimpArgs false
def kOKv (v : V) : Bool := decide (v.kind = 1) || decide (v.kind = 0) || decide (v.kind = 2) || decide (v.kind = 3)
def c1 (l : List V) : Nat := (l.filter fun v => decide (v.kind = 1)).length
def okC (v : V) : Bool := decide (v.kind = 1) || decide (v.kind = 3) || (decide (v.kind = 5) && (v.rows.flatten.map U.v).all kOKv)
def cntV (v : V) : Nat := if v.kind = 1 ∨ v.kind = 3 then 1 else if v.kind = 5 then c1 (v.rows.flatten.map U.v) else 0
def cntL (l : List V) : Nat := (l.map cntV).sum
def countV (l : List V) : V := if l.all okC then intV (cntL l : Nat) else doubt
theorem cut_one {l : List V} {i : Nat} (h : i < l.length) : ((l.flatMap V.c).take ((i + 1) * 5)).drop (i * 5) = [l[i]].flatMap V.c := by
  have e1 : (l.flatMap V.c).take ((i + 1) * 5) = (l.take (i + 1)).flatMap V.c := by
    conv => lhs; rw [← List.take_append_drop (i + 1) l, List.flatMap_append]
    rw [List.take_left' (by rw [len_lst, List.length_take]; congr 1; omega)]
  rw [e1, List.take_succ_eq_append_getElem h, List.flatMap_append, List.drop_left' (by rw [len_lst, List.length_take]; congr 1; omega)]
end Go.Abs
namespace Go.Abs
set_option linter.unusedVariables false
set_option linter.unusedSimpArgs false
def innX (v : IV) : F := if v.kind = 0 then fEmpty else innF v
def iNone : IV := ⟨0, 0, [], []⟩
def ivX (v : V) : IV := if v.kind = 0 then iNone else inV v
def cvX (u : U) : IU := ⟨(ivX u.v).kind, (ivX u.v).num, (ivX u.v).text⟩
inductive Sort2 : V → Prop
  | none : Sort2 noV
  | num (n d : Int) (x : Int) (hq : floatBits .quo .f64 (FloatKind.f64.nearest n) (FloatKind.f64.nearest d) = some (qV (num n d))) (hx : Fx (qV (Go.Abs.num n d)) x) : Sort2 (Go.Abs.num n d)
  | txt (s : List UInt8) : Sort2 (strV s)
  | bool (c : Bool) : Sort2 (boolV c)
theorem Sort2.of1 {v : V} (h : Sort1 v) (hk : kOKv v = true) (h0 : v.kind = 0 → v = noV) (h3 : v.kind = 3 → ∃ c, v = boolV c) : Sort2 v := by
  cases h with
  | txt s => exact .txt s
  | num n d x hq hx => exact .num n d x hq hx
  | other _ h hr =>
    simp only [kOKv, Bool.or_eq_true, decide_eq_true_eq] at hk
    rcases hk with ((hk | hk) | hk) | hk
    · exact absurd hk h.1
    · rw [h0 hk]; exact .none
    · exact absurd hk h.2.1
    · obtain ⟨c, e⟩ := h3 hk; rw [e]; exact .bool c
theorem it_none (x : It) (h : (itV x).kind = 0) : itV x = noV := by
  unfold itV at h ⊢
  (repeat' split at h) <;> (try simp_all [strV, boolV, errV])
  · unfold intV at h; split at h <;> simp [doubt] at h
  · rcases sixV_cases (x.num.tmod 1099511627776 * 4) with e | ⟨m, d, e, _⟩ <;> rw [e] at h <;> simp [doubt, num] at h
theorem it_bool (x : It) (h : (itV x).kind = 3) : ∃ c, itV x = boolV c := by
  unfold itV at h ⊢
  (repeat' split at h) <;> (try simp_all [strV, errV, noV])
  · unfold intV at h; split at h <;> simp [doubt] at h
  · rcases sixV_cases (x.num.tmod 1099511627776 * 4) with e | ⟨m, d, e, _⟩ <;> rw [e] at h <;> simp [doubt, num] at h
  · cases (!decide (x.num.tmod 2 = 0)) with
    | true => exact .inr rfl
    | false => exact .inl rfl
theorem sort2_it (x : It) (hk : kOKv (itU x).v = true) : Sort2 (itU x).v := by
  rw [itU_v] at hk ⊢
  exact Sort2.of1 (sort_it x) hk (it_none x) (it_bool x)
theorem sort2_cell (l : List It) (n : Nat) (hk : kOKv (cellU l n).v = true) : Sort2 (cellU l n).v := by
  unfold cellU at hk ⊢
  split
  · rename_i h; rw [dif_pos h] at hk; exact sort2_it _ hk
  · exact .none
theorem Sort2.rows {v : V} (h : Sort2 v) : (ivX v).rows = [] := by cases h <;> rfl
theorem Sort2.cell {v : V} (h : Sort2 v) : IsCell (innX (ivX v)) := by
  cases h with
  | none => exact .none
  | num n d x hq hx => exact .num _
  | txt s => exact .str s
  | bool c => exact .bool _
theorem Sort2.one {v : V} (h : Sort2 v) (hk : v.kind = 1 ∨ v.kind = 3) : (∃ b, innX (ivX v) = fNum b) ∨ ∃ c, innX (ivX v) = fBool c := by
  cases h with
  | none => simp [noV] at hk
  | num n d x hq hx => exact .inl ⟨_, rfl⟩
  | txt s => simp [strV] at hk
  | bool c => exact .inr ⟨_, rfl⟩
theorem cvX_v {u : U} (h : Sort2 u.v) : IU.v (cvX u) = ivX u.v := by
  have := h.rows
  unfold IU.v cvX
  generalize ivX u.v = w at *
  cases w; simp only at this; subst this; rfl
end Go.Abs
namespace Go.Abs
set_option linter.unusedVariables false
set_option linter.unusedSimpArgs false
theorem flat_bound {α : Type} {R : List (List α)} {k : Nat} (h : ∀ r ∈ R, r.length ≤ k) : R.flatten.length ≤ k * R.length := by
  induction R with
  | nil => simp
  | cons r R ih =>
    have h1 := h r List.mem_cons_self
    have h2 := ih fun r hr => h r (List.mem_cons_of_mem _ hr)
    simp only [List.flatten_cons, List.length_append, List.length_cons, Nat.mul_add, Nat.mul_one]
    omega
theorem cell_five (l : List It) (n : Nat) : ¬ (cellU l n).kind = 5 := by
  unfold cellU
  split
  · exact (sort_it _).five
  · simp [noU]
theorem tab_len (l : List It) (cols : Int) : (tabU l cols).length ≤ 120 ∧ ¬ tabU l cols = [] := by
  have h1 : (l.take 120).length ≤ 120 := by rw [List.length_take]; omega
  have h2 : (l.take 120).length / colsN cols ≤ (l.take 120).length := Nat.div_le_self _ _
  have h3 : (tabU l cols).length = rowsN (l.take 120).length (colsN cols) := by simp [tabU, rowsU]
  generalize (l.take 120).length = a at *
  have h4 : 1 ≤ rowsN a (colsN cols) ∧ rowsN a (colsN cols) ≤ 120 := by
    unfold rowsN
    generalize a / colsN cols = b at *
    split <;> omega
  refine ⟨by omega, fun e => ?_⟩
  rw [e] at h3; simp only [List.length_nil] at h3; omega
theorem tab_row {l : List It} {cols : Int} {r : List U} (hr : r ∈ tabU l cols) : r.length ≤ 6 ∧ ∀ u ∈ r, ∃ n, u = cellU (l.take 120) n := by
  obtain ⟨p1, p2⟩ := part_le (k := cols) (n := 6) (by omega)
  have hc : colsN cols ≤ 6 := by unfold colsN; omega
  simp only [tabU, rowsU, List.mem_map] at hr
  obtain ⟨i, _, rfl⟩ := hr
  refine ⟨by simp [rowU]; exact hc, fun u hu => ?_⟩
  simp only [rowU, List.mem_map] at hu
  obtain ⟨j, _, rfl⟩ := hu
  exact ⟨_, rfl⟩
theorem tab_flat (l : List It) (cols : Int) : (tabU l cols).flatten.length ≤ 720 := by
  have := flat_bound (R := tabU l cols) (k := 6) fun r hr => (tab_row hr).1
  have h2 := (tab_len l cols).1
  omega
def gX (v : V) : IV := if v.kind = 5 then tabI (v.rows.map (·.map cvX)) else ivX v
end Go.Abs
