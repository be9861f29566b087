/- Walks of the functions, printed by program, and the logic behind them: each theorem says what one function or one step answers. -/
import Derived.Test.YtopgbalmdocboaaGreatDoorZIter
import Derived.Test.YtopgbalmdocboaaGreatDoorZFz
import Derived.Test.YtopgbalmdocboaaGreatDoorZText
import Derived.Test.YtopgbalmdocboaaGreatDoorZTx
import Derived.Lib.Fold
import Derived.Test.YtopgbalmdocboaaGreatDoorZHs
import Derived.Test.YtopgbalmdocboaaGreatDoorZDoor
import Derived.Test.YtopgbalmdocboaaGreatDoorZLib
import Derived.Lib.AtoiErrMem
import Derived.Lib.Atoi
namespace Go.Abs
set_option linter.unusedVariables false
set_option linter.unusedSimpArgs false
section
variable {P : Program} {G : Nat → D} {g g' : Gh} {l l' : Lo} {A A' : AH} {wr : Bool} {Prot : Nat → Prop} {w w' : World} {o : Oper} {ρ : Operand → D} {S : AH → Prop}
def IsOwn2 (A : AH) (e : Nat) (d : D) (n : Nat) (xs : List D) : Prop := (d = .lit xs n) ∨ ∃ t, d = .gs t e xs n ∧ A.live t = true
theorem own2_fz {A : AH} {e n : Nat} {d : D} {xs : List D} (h : IsOwn2 A e d n xs) : fz d = .im xs n := by
  rcases h with rfl | ⟨t, rfl, _⟩ <;> rfl
theorem ao_appendOwn2 {T e : TypeId} {by_ : Nat} {zs : List Value} {s x : Operand} [hT : UN P T (.slice e)] [hZ : ZV P e by_ zs] {n m : Nat} {d dx : D} {xs ys : List D} {Kv : D → AH → Prop} (ho : o.op = .call { callee := .builtin .append, args := #[s, x], argTypes := #[T, T] }) (hs : ρ s = d) (hown : IsOwn2 A e d n xs) (hx : ρ x = dx) (hd : slc dx = some (ys, m)) (hm : 0 < m)
    (h0 : 0 < zs.length) (hxs : xs.length = n * zs.length) (hys : ys.length = m * zs.length) (hfit : (n + m) * by_ ≤ 140737488355328) (hmax : n + m ≤ maxLen)
    (hK : ∀ A' : AH, A'.o = A.o → A'.h = A.h → A'.live A.ln = true → Kv (.gs A.ln e (xs ++ ys) (n + m)) A') : AOp P G wr o ρ A Kv := by
  rcases hown with rfl | ⟨t, rfl, hl⟩
  · intro g l Prot w a hr hops K Q hk
    have hs0 := hops s (by simp [ho, Op.operands, Call.operands])
    have hx0 := hops x (by simp [ho, Op.operands, Call.operands])
    rw [hs] at hs0; rw [hx] at hx0
    simp only [rep] at hs0
    obtain ⟨b, hse, hS0⟩ := hs0
    obtain ⟨it, z, hi, hz, hzc, hsz, hby⟩ := hZ.eq
    have hzs : z.cells.size = zs.length := by simp [hzc]
    have hco : P.cellsOf e = zs.length := by simp [Program.cellsOf, hi, hsz]
    have hzl : ∀ k, (Builtin.zeroCells z.cells k).toList.length = k * zs.length := fun k => by simp [size_zeroCells, hzs]
    obtain ⟨olds, ho1, ho2, ho3⟩ := repS_vals hS0
    have hol : olds.length = n * it.size := by rw [repL_length ho1, hxs, hsz]
    have hoc : ∀ j u, olds[j]? = some u → w.cell? ((⟨b, 0, none⟩ : Addr).add j) = some u := fun j u hj => by
      rw [addr_add]; exact hr.sld _ _ _ (ho2 j u hj)
    rcases rep_slc hd hx0 with ⟨rfl, _, _⟩ | ⟨b2, oo, cap2, hxe, hmc, hS⟩
    · omega
    obtain ⟨news, hn1, hn2, hn3⟩ := repS_vals hS
    have hnl : news.length = m * it.size := by rw [repL_length hn1, hys, hsz]
    have hload : ∀ j u, news[j]? = some u → w.cell? ((⟨b2, oo, none⟩ : Addr).add j) = some u := fun j u hj => by rw [addr_add]; exact hr.sld _ _ _ (hn2 j u hj)
    have hrun := run_append_grow (P := P) w T o.type e it z hT.eq hi hz ⟨b, 0, none⟩ n n olds hol hoc ⟨b2, oo, none⟩ m cap2 news hnl hload (by omega) (by simp only [maxLen] at hmax; omega) (growslice_fits (by omega) (by rw [hby]; exact hfit))
    have hge := grownCap_ge w (n + m) n e
    have hcm := grownCap_le_maxLen w (n + m) n e hmax
    have hexec : (execOp a.eval o).run P w = .ok (.value (.slice (some ⟨w.heap.size, 0, none⟩) (n + m) (grownCap w (n + m) n e))) (w.drew.alloc (.cells (olds.toArray ++ news.toArray ++ Builtin.zeroCells z.cells (grownCap w (n + m) n e - (n + m))) e)) := by
      simp only [execOp, ho, resolve, invoke, builtin, Sem.run_bind, Sem.run_pure, Result.andThen_ok, List.map_toArray, List.map_cons, List.map_nil, hse, hxe, hrun]
    obtain ⟨k1, k2, k3⟩ := hr.new_row (w' := w.drew.alloc (.cells (olds.toArray ++ news.toArray ++ Builtin.zeroCells z.cells (grownCap w (n + m) n e - (n + m))) e)) (vs := olds ++ news) (sp := (Builtin.zeroCells z.cells (grownCap w (n + m) n e - (n + m))).toList) (e := e) (n := n + m) (cap := grownCap w (n + m) n e)
      (by rw [heap_drew_alloc]; congr 3; simp <;> (apply Array.ext'; simp)) ⟨rfl, rfl⟩ (by rw [List.length_append, hol, hnl, hco, hsz, Nat.add_mul]) hge hcm (by
        rw [List.length_append, List.length_append, hol, hnl, hco, hsz, hzl, ← Nat.add_mul, ← Nat.add_mul, Nat.add_sub_cancel' hge])
    unfold Oper.wp
    rw [hexec]
    refine hk _ A.row _ _ _ _ (hK A.row rfl rfl (by simp [AH.row])) k2 k3 k1 ?_
    simp only [rep]
    exact .inr ⟨⟨w.heap.size, grownCap w (n + m) n e, n + m, e⟩, by simp [Lo.row], rfl, rfl, rfl, hge, repS_sealed (repL_append (repL_mono k2.le _ (Lo.le.refl _) ho1) (repL_mono k2.le _ (Lo.le.refl _) hn1)) (fun u hu => (List.mem_append.1 hu).elim (ho3 u) (hn3 u))⟩
  · exact (as_append ho hs hl hx hd h0 hxs hys hfit hmax).op (hK _ rfl rfl (by simp [AH.app, AH.row, AH.kill]))
end
end Go.Abs
namespace Go.Abs
set_option linter.unusedVariables false
set_option linter.unusedSimpArgs false
open Go.Lib
abbrev wTrue : List UInt8 := [84, 82, 85, 69]
abbrev wFalse : List UInt8 := [70, 65, 76, 83, 69]
/-- A number whose text is told. -/
structure NumOK (n d : Int) (x : Int) (a : Nat) : Prop where
  q : floatBits .quo .f64 (FloatKind.f64.nearest n) (FloatKind.f64.nearest d) = some (qV (num n d))
  fx : Fx (qV (num n d)) x
  six : x.natAbs * 16 = a * unit
  lt : a < 2 ^ 41
  w : qV (num n d) < 2 ^ 64
theorem num_whole_ok {n : Int} (h : ¬ (99999999999 < n ∨ n < -99999999999)) : NumOK n 1 (n * (unit : Nat)) (16 * n.natAbs) := by
  obtain ⟨h1, h2, h3⟩ := qV_whole h
  refine ⟨h1, h2, ?_, by omega, h3⟩
  rw [Int.natAbs_mul, Int.natAbs_natCast, Nat.mul_comm 16, Nat.mul_right_comm]
theorem num_six_ok {v n d : Int} (h : Six v n d) : ∃ x, NumOK n d x v.natAbs := by
  obtain ⟨h1, ⟨x, h2, h3⟩, h4⟩ := qV_six h
  refine ⟨x, h1, h2, ?_, ?_, h4⟩
  · have h5 := congrArg Int.natAbs h3
    rw [Int.natAbs_mul, Int.natAbs_mul, Int.natAbs_natCast, Int.natAbs_natCast] at h5
    exact h5
  · have h6 := h.eq
    have h7 := h.lo
    have h8 := h.hi
    rcases h.dd with e | e | e | e | e <;> subst e <;> omega
theorem same_bool (c : Bool) : sameI (iBool (if c then 4607182418800017408 else 0)) (iBool (FloatKind.f64.nearest (if c then 1 else 0))) = true := by
  cases c
  · rw [show FloatKind.f64.nearest (if false = true then 1 else 0) = 0 from by decide]
    show (decide (3 = 3) && (fcmp .eql .f64 0 0 && decide (([] : List UInt8) = []))) = true
    rw [fcmp_eq fx_zero fx_zero]; simp
  · rw [show FloatKind.f64.nearest (if true = true then 1 else 0) = 4607182418800017408 from by decide]
    show (decide (3 = 3) && (fcmp .eql .f64 4607182418800017408 4607182418800017408 && decide (([] : List UInt8) = []))) = true
    rw [fcmp_eq fx_one fx_one]; simp
end Go.Abs
namespace Go.Abs
set_option linter.unusedVariables false
set_option linter.unusedSimpArgs false
def F.c (f : F) : List D := [st [], fl f.num, st f.str, .im [] 0, .im [] 0, bl f.bool, st f.err, .sc (.int .u8 f.ty), .sc (.pointer none), .sc (.pointer none)]
theorem F.c_len (f : F) : (F.c f).length = 10 := rfl
/-- A table: a row of rows, each of them whole. -/
structure IsMat (h : Heap) (id n cap : Nat) (ids : List Nat) (k kc : Nat) (rows : List (List F)) : Prop where
  len : ids.length = n
  rlen : rows.length = n
  top : ∃ sp, h id = some (ids.map (fun r => D.hs r 0 k kc) ++ sp)
  row : ∀ i (h1 : i < ids.length) (h2 : i < rows.length), h ids[i] = some (rows[i].flatMap F.c) ∧ rows[i].length = k
theorem IsMat.at {h : Heap} {id n cap k kc : Nat} {ids : List Nat} {rows : List (List F)} (H : IsMat h id n cap ids k kc rows) {i : Nat} (h1 : i < ids.length) : Heap.get h id i = some (.hs ids[i] 0 k kc) := by
  obtain ⟨sp, hs⟩ := H.top
  simp only [Heap.get, hs, Option.bind_some]
  rw [List.getElem?_append_left (by simpa using h1)]
  simp [h1]
end Go.Abs
namespace Go.Abs
set_option linter.unusedVariables false
set_option linter.unusedSimpArgs false
def munCell (i j : Nat) : U := ⟨1, if i = j then 1 else 0, 1, []⟩
def munRow (k i : Nat) : List U := (List.range k).map (munCell i)
def munR (k i : Nat) : List (List U) := (List.range i).map (munRow k)
def munF (i j : Nat) : F := fNum (if i = j then 4607182418800017408 else 0)
def munRF (k i : Nat) : List F := (List.range k).map (munF i)
def munFs (k i : Nat) : List (List F) := (List.range i).map (munRF k)
def IU.v (x : IU) : IV := ⟨x.kind, x.num, x.text, []⟩
/-- A single value of the reference, as one of the thin package. -/
def numI (u : U) : IU := ⟨1, if u.num = 1 then 4607182418800017408 else 0, []⟩
def tabI (rows : List (List IU)) : IV := ⟨5, 0, [], rows⟩
/-- What stands in a row's cell, in the program: a table. -/
def matD (id n cap : Nat) : D := .agg [st [], fl 0, st [], .im [] 0, .hs id 0 n cap, bl false, st [], .sc (.int .u8 4), .sc (.pointer none), .sc (.pointer none)]
abbrev zF : List D := [.sc (.string ⟨⟨[]⟩⟩), .sc (.float .f64 0), .sc (.string ⟨⟨[]⟩⟩), .sc (.slice none 0 0), .sc (.slice none 0 0), .sc (.bool false), .sc (.string ⟨⟨[]⟩⟩), .sc (.int .u8 0), .sc (.pointer none), .sc (.pointer none)]
/-- The table as it grows. -/
structure Mun (hh : Heap) (id i cap : Nat) (ids : List Nat) (k : Nat) : Prop where
  row : IsRow hh 1 (.hs id 0 i cap) i (ids.map fun r => .hs r 0 k k)
  has : ∃ cs, hh id = some cs
  len : ids.length = i
  cells : ∀ j (h : j < ids.length), hh ids[j] = some ((munRF k j).flatMap F.c)
  ne : ∀ r ∈ ids, r ≠ id
def fI (f : F) : IU := ⟨1, f.num, []⟩
end Go.Abs
namespace Go.Abs
set_option linter.unusedVariables false
set_option linter.unusedSimpArgs false
/-- What was there stays, but for these. -/
def Keep (h h' : Heap) (l : List Nat) : Prop := ∀ x, x ∉ l → h x ≠ none → h' x = h x
theorem Keep.refl (h : Heap) (l : List Nat) : Keep h h l := fun _ _ _ => rfl
theorem Keep.trans {h h' h'' : Heap} {l l' : List Nat} (a : Keep h h' l) (b : Keep h' h'' l') (hl : ∀ x, x ∈ l' → h x ≠ none → x ∈ l) : Keep h h'' l := fun x hx hn => by
  have h1 := a x hx hn
  rw [b x (fun e => hx (hl x e hn)) (by rw [h1]; exact hn), h1]
theorem IsList.some {h : Heap} {k : Nat} {es : List (Nat × D)} (H : IsList h k es) {x : Nat} (hx : x ∈ k :: es.map (·.1)) : h x ≠ none := by
  rcases List.mem_cons.1 hx with rfl | hx
  · intro e; have := H.klen; simp [Heap.len, e] at this
  · obtain ⟨p, hp, rfl⟩ := List.mem_map.1 hx
    intro e; have := H.elen p hp; simp [Heap.len, e] at this
theorem IsList.of_same {h h' : Heap} {k : Nat} {es : List (Nat × D)} (H : IsList h k es) (hs : ∀ x ∈ k :: es.map (·.1), h' x = h x) : IsList h' k es := by
  have hk := hs k List.mem_cons_self
  have he : ∀ p ∈ es, h' p.1 = h p.1 := fun p hp => hs _ (List.mem_cons_of_mem _ (List.mem_map.2 ⟨p, hp, rfl⟩))
  have hr : ∀ i, i ≤ es.length → h' (ring k (es.map (·.1)) i) = h (ring k (es.map (·.1)) i) := fun i hi => hs _ (ring_mem (by simpa using hi))
  have hr1 : ∀ i, i ≤ es.length → h' (ring k (es.map (·.1)) (i + 1)) = h (ring k (es.map (·.1)) (i + 1)) := fun i hi => by
    rcases Nat.lt_or_ge i es.length with h1 | h1
    · exact hr (i + 1) h1
    · have : i = es.length := by omega
      subst this
      rw [ring_end k (es.map (·.1)) (n := es.length) (by simp)]
      exact hk
  exact ⟨by simp only [Heap.len, hk]; exact H.klen, fun p hp => by simp only [Heap.len, he p hp]; exact H.elen p hp, fun i hi => by simp only [Heap.get, hr i hi]; exact H.next i hi, fun i hi => by simp only [Heap.get, hr1 i hi]; exact H.prev i hi,
    fun p hp => by simp only [Heap.get, he p hp]; exact H.list p hp, fun p hp => by simp only [Heap.get, he p hp]; exact H.val p hp, by simp only [Heap.get, hk]; exact H.n, H.nodup⟩
theorem IsList.keep {h h' : Heap} {k : Nat} {es : List (Nat × D)} {l : List Nat} (H : IsList h k es) (hK : Keep h h' l) (hd : ∀ x ∈ k :: es.map (·.1), x ∉ l) : IsList h' k es := H.of_same fun x hx => hK x (hd x hx) (H.some hx)
def lstF (r : List F) : D := .im (r.flatMap F.c) r.length
/-- An argument that is a table of cells, as a range of a sheet. -/
def matF (rows : List (List F)) (kr kc : Nat) : D := .agg [st [], fl 0, st [], .im [] 0, .im (rows.map lstF) rows.length, bl false, st [], .sc (.int .u8 4), .hp kr 0, .hp kc 0]
end Go.Abs
namespace Go.Abs
set_option linter.unusedVariables false
set_option linter.unusedSimpArgs false
section
variable {P : Program} {G : Nat → D}
theorem PF.at {f : FuncId} {ds : List D} {v : D} (hc : PF P G f ds v) (h : Heap) : ACall P G f true ds h (fun v' h' => v' = v ∧ h' = h) := fun g Prot w cargs hr hd => (hc g _ w cargs (call_in0 hr) hd).mono (by
  rintro e w' ⟨cv, v', h', g', rfl, rfl, hf, hr', hv⟩
  obtain ⟨k1, k2⟩ := call_back0 hr hf hr'
  exact ⟨cv, v', h, g', rfl, ⟨rfl, rfl⟩, k2, k1, hv⟩)
end
def WL (TF : Nat) (R : List (List F)) (kr kc : Nat) (fs : List F) : List D := .ifc TF (matF R kr kc) :: fs.map fun f => .ifc TF f.d
structure TabAt (h : Heap) (kr kc : Nat) (rg : Nat × D) (l : List Nat) : Prop where
  lr : IsList h kr []
  lc : IsList h kc [rg]
  ne : ¬ kr = kc
  off : kr ∉ l ∧ kc ∉ l ∧ rg.1 ∉ l
theorem TabAt.keep {h h' : Heap} {kr kc : Nat} {rg : Nat × D} {l l' : List Nat} (H : TabAt h kr kc rg l) (hK : Keep h h' l') (hl : ∀ x ∈ l', x ∈ l) : TabAt h' kr kc rg l where
  lr := H.lr.keep hK fun x hx => by simp at hx; subst hx; exact fun e => H.off.1 (hl _ e)
  lc := H.lc.keep hK fun x hx => by
    simp at hx
    rcases hx with rfl | rfl
    · exact fun e => H.off.2.1 (hl _ e)
    · exact fun e => H.off.2.2 (hl _ e)
  ne := H.ne
  off := H.off
theorem TabAt.more {h : Heap} {kr kc e : Nat} {rg : Nat × D} {l : List Nat} (H : TabAt h kr kc rg l) (he : h e = none) : TabAt h kr kc rg (l ++ [e]) where
  lr := H.lr
  lc := H.lc
  ne := H.ne
  off := by
    have h1 : ¬ kr = e := fun x => H.lr.some List.mem_cons_self (x ▸ he)
    have h2 : ¬ kc = e := fun x => H.lc.some List.mem_cons_self (x ▸ he)
    have h3 : ¬ rg.1 = e := fun x => H.lc.some (x := rg.1) (by simp) (x ▸ he)
    simp [H.off.1, H.off.2.1, H.off.2.2, h1, h2, h3]
end Go.Abs
namespace Go.Abs
set_option linter.unusedVariables false
set_option linter.unusedSimpArgs false
def setC (h : Heap) (kc n : Nat) : Heap := fun x => if x = kc then some [i64 (n : Int)] else h x
structure Cn (h : Heap) (fid kc kf n : Nat) : Prop where
  cnt : h kc = some [i64 (n : Int)]
  fn : h kf = some [.fn fid [] [.hp kc 0, .hp kf 0]]
  ne : ¬ kf = kc
theorem Cn.set {h : Heap} {fid kc kf n m : Nat} (C : Cn h fid kc kf n) : Cn (setC h kc m) fid kc kf m where
  cnt := if_pos rfl
  fn := (if_neg C.ne).trans C.fn
  ne := C.ne
inductive IsCell : F → Prop
  | num (b : Nat) : IsCell (fNum b)
  | bool (c : Bool) : IsCell (fBool c)
  | str (s : List UInt8) : IsCell (fStr s)
  | none : IsCell fEmpty
def cF (f : F) : Nat := if f.ty = 1 ∧ f.bool = false then 1 else 0
def cFs (l : List F) : Nat := (l.map cF).sum
end Go.Abs
namespace Go.Abs
set_option linter.unusedVariables false
set_option linter.unusedSimpArgs false
structure It where
  kind : Int
  num : Int
  text : List UInt8
def It.c (x : It) : List D := [i64 x.kind, i64 x.num, st x.text]
def itL (l : List It) : D := .im (l.flatMap It.c) l.length
theorem it_len (x : It) : (It.c x).length = 3 := rfl
theorem take_itl {l : List It} {i : Nat} (h : i < l.length) : takeAt true 3 (l.flatMap It.c) ((i : Int).toNat * 3) = some (.agg (It.c l[i])) := take_flat It.c 3 it_len h
/-- A number from 0 to n - 1. -/
def partI (k n : Int) : Int := if k.tmod n < 0 then k.tmod n + n else k.tmod n
theorem part_le {k n : Int} (h : 0 < n) : 0 ≤ partI k n ∧ partI k n < n := by
  have h1 := Int.tmod_lt_of_pos k h
  have h2 : -n < k.tmod n := by
    rcases Int.lt_or_le k 0 with hk | hk
    · have : (-k).tmod n < n := Int.tmod_lt_of_pos _ h
      rw [Int.neg_tmod] at this; omega
    · have := Int.tmod_nonneg n hk; omega
  unfold partI; split <;> omega
def errsT : List (List UInt8) := [[35, 68, 73, 86, 47, 48, 33], [35, 78, 47, 65], [35, 86, 65, 76, 85, 69, 33], [35, 82, 69, 70, 33], [35, 78, 65, 77, 69, 63], [35, 78, 85, 77, 33], [35, 78, 85, 76, 76, 33]]
def errT (n : Int) : Nat := (partI n 7).toNat
theorem errT_lt (n : Int) : errT n < 7 := by have := part_le (k := n) (n := 7) (by omega); unfold errT; omega
def itV (x : It) : V :=
  if partI x.kind 6 = 1 then intV x.num else if partI x.kind 6 = 2 then sixV (x.num.tmod 1099511627776 * 4) else if partI x.kind 6 = 3 then strV x.text else if partI x.kind 6 = 4 then boolV (decide (¬ x.num.tmod 2 = 0)) else if partI x.kind 6 = 5 then errV (errsT[errT x.num]'(errT_lt x.num)) else noV
theorem sort_it (x : It) : Sort1 (itV x) := by
  unfold itV
  (repeat' split)
  · exact sort_int _
  · exact sort_six _
  · exact .txt _
  · exact .other _ (by simp [boolV]) rfl
  · exact .other _ (by simp [errV]) rfl
  · exact .other _ (by simp [noV]) rfl
def itU (x : It) : U := (itV x).u
theorem itU_v (x : It) : (itU x).v = itV x := u_v (sort_it x).rows
def noU : U := ⟨0, 0, 0, []⟩
/-- A table of cells: whole rows of so many columns. -/
def cellU (l : List It) (n : Nat) : U := if h : n < l.length then itU l[n] else noU
def rowU (l : List It) (c i k : Nat) : List U := (List.range k).map fun j => cellU l (i * c + j)
def rowsU (l : List It) (c m : Nat) : List (List U) := (List.range m).map fun i => rowU l c i c
def colsN (cols : Int) : Nat := (1 + partI cols 6).toNat
def rowsN (n c : Nat) : Nat := if n / c = 0 then 1 else n / c
def tabU (l : List It) (cols : Int) : List (List U) := rowsU (l.take 120) (colsN cols) (rowsN (l.take 120).length (colsN cols))
end Go.Abs
namespace Go.Abs
set_option linter.unusedVariables false
set_option linter.unusedSimpArgs false
def kOKv (v : V) : Bool := decide (v.kind = 1) || decide (v.kind = 0) || decide (v.kind = 2) || decide (v.kind = 3)
def c1 (l : List V) : Nat := (l.filter fun v => decide (v.kind = 1)).length
def okC (v : V) : Bool := decide (v.kind = 1) || decide (v.kind = 3) || (decide (v.kind = 5) && (v.rows.flatten.map U.v).all kOKv)
def cntV (v : V) : Nat := if v.kind = 1 ∨ v.kind = 3 then 1 else if v.kind = 5 then c1 (v.rows.flatten.map U.v) else 0
def cntL (l : List V) : Nat := (l.map cntV).sum
def countV (l : List V) : V := if l.all okC then intV (cntL l : Nat) else doubt
end Go.Abs
namespace Go.Abs
set_option linter.unusedVariables false
set_option linter.unusedSimpArgs false
def innX (v : IV) : F := if v.kind = 0 then fEmpty else innF v
def iNone : IV := ⟨0, 0, [], []⟩
def ivX (v : V) : IV := if v.kind = 0 then iNone else inV v
def cvX (u : U) : IU := ⟨(ivX u.v).kind, (ivX u.v).num, (ivX u.v).text⟩
inductive Sort2 : V → Prop
  | none : Sort2 noV
  | num (n d : Int) (x : Int) (hq : floatBits .quo .f64 (FloatKind.f64.nearest n) (FloatKind.f64.nearest d) = some (qV (num n d))) (hx : Fx (qV (Go.Abs.num n d)) x) : Sort2 (Go.Abs.num n d)
  | txt (s : List UInt8) : Sort2 (strV s)
  | bool (c : Bool) : Sort2 (boolV c)
theorem Sort2.rows {v : V} (h : Sort2 v) : (ivX v).rows = [] := by cases h <;> rfl
theorem Sort2.cell {v : V} (h : Sort2 v) : IsCell (innX (ivX v)) := by
  cases h with
  | none => exact .none
  | num n d x hq hx => exact .num _
  | txt s => exact .str s
  | bool c => exact .bool _
theorem Sort2.one {v : V} (h : Sort2 v) (hk : v.kind = 1 ∨ v.kind = 3) : (∃ b, innX (ivX v) = fNum b) ∨ ∃ c, innX (ivX v) = fBool c := by
  cases h with
  | none => simp [noV] at hk
  | num n d x hq hx => exact .inl ⟨_, rfl⟩
  | txt s => simp [strV] at hk
  | bool c => exact .inr ⟨_, rfl⟩
end Go.Abs
namespace Go.Abs
set_option linter.unusedVariables false
set_option linter.unusedSimpArgs false
open Go.Lib
theorem decFrom_append : ∀ (l r : List UInt8) (acc n : Nat), decFrom acc l = some n → decFrom acc (l ++ r) = decFrom n r
  | [], r, acc, n, h => by simp [decFrom] at h; subst h; rfl
  | b :: l, r, acc, n, h => by
    simp only [decFrom, List.cons_append] at h ⊢
    cases hd : digitVal b with
    | none => rw [hd] at h; simp at h
    | some d =>
      rw [hd] at h
      simp only [Option.bind_some] at h ⊢
      exact decFrom_append l r _ n h
theorem digitVal_of {k : Nat} (h : k < 10) : digitVal (UInt8.ofNat (48 + k)) = some k := by
  have : k = 0 ∨ k = 1 ∨ k = 2 ∨ k = 3 ∨ k = 4 ∨ k = 5 ∨ k = 6 ∨ k = 7 ∨ k = 8 ∨ k = 9 := by omega
  rcases this with rfl | rfl | rfl | rfl | rfl | rfl | rfl | rfl | rfl | rfl <;> decide
theorem decFrom_dec : ∀ (k u : Nat), u ≤ k → decFrom 0 (decDigits u) = some u
  | 0, u, h => by
    obtain rfl : u = 0 := by omega
    rw [decDigits_one (by omega)]; decide
  | k + 1, u, h => by
    by_cases hb : u < 10
    · rw [decDigits_one hb]
      unfold decFrom
      rw [digitVal_of hb]
      show some (0 * 10 + u) = _
      rw [Nat.zero_mul, Nat.zero_add]
    · rw [dec_big hb, decFrom_append _ _ 0 (u / 10) (decFrom_dec k (u / 10) (by omega))]
      unfold decFrom
      rw [digitVal_of (show u % 10 < 10 by omega)]
      show some (u / 10 * 10 + u % 10) = _
      congr 1; omega
theorem atoi_dec (u : Nat) : atoi (decDigits u) = some (u : Int) := by
  have hd := dec_dig (u := u)
  have hp := nDigits_pos u
  rw [← decDigits_length] at hp
  have h0 := decFrom_dec u u (Nat.le_refl _)
  cases hds : decDigits u with
  | nil => rw [hds] at hp; simp at hp
  | cons b r =>
    have hb := hd b (by rw [hds]; exact List.mem_cons_self)
    rw [hds] at h0
    have e1 : (b == 45) = false := by
      rw [beq_eq_false_iff_ne]; intro e; subst e; exact absurd hb (by decide)
    have e2 : (b == 43) = false := by
      rw [beq_eq_false_iff_ne]; intro e; subst e; exact absurd hb (by decide)
    simp only [atoi, e1, e2, Bool.false_eq_true, if_false]
    unfold decNat
    rw [h0]; rfl
theorem nDigits_le {u : Nat} : ∀ k, 1 ≤ k → u < 10 ^ k → nDigits u ≤ k
  | 0, h, _ => by omega
  | 1, _, h => by rw [nDigits_small (by simpa using h)]; omega
  | k + 2, _, h => by
    rcases Nat.lt_or_ge u (10 ^ (k + 1)) with h1 | h1
    · have := nDigits_le (k + 1) (by omega) h1; omega
    · rw [nDigits_unique (k + 1) u h1 h]; omega
theorem it_cases (x : It) : itV x = noV ∨ itV x = doubt ∨ (∃ m d y k, itV x = num m d ∧ NumOK m d y k) ∨ itV x = strV x.text ∨ (∃ c, itV x = boolV c) ∨ ∃ k, ∃ h : k < 7, itV x = errV (errsT[k]'h) := by
  unfold itV
  (repeat' split)
  all_goals first
    | exact .inl rfl
    | exact .inr (.inr (.inr (.inl rfl)))
    | exact .inr (.inr (.inr (.inr (.inl ⟨_, rfl⟩))))
    | exact .inr (.inr (.inr (.inr (.inr ⟨_, errT_lt x.num, rfl⟩))))
    | (by_cases h : 99999999999 < x.num ∨ x.num < -99999999999
       · rw [intV_doubt h]; exact .inr (.inl rfl)
       · rw [intV_num h]; exact .inr (.inr (.inl ⟨x.num, 1, _, _, rfl, num_whole_ok h⟩)))
    | (rcases sixV_cases (x.num.tmod 1099511627776 * 4) with h | ⟨m, d, h, hs⟩
       · rw [h]; exact .inr (.inl rfl)
       · rw [h]
         obtain ⟨y, hy⟩ := num_six_ok hs
         exact .inr (.inr (.inl ⟨m, d, y, _, rfl, hy⟩)))
theorem errT_len : ∀ k (h : k < 7), (errsT[k]'h).length < 1000 := by decide
theorem it_text {x : It} (h : x.text.length ≤ 2147483647) : (itU x).text.length ≤ 2147483647 := by
  show (itU x).v.text.length ≤ _
  rw [itU_v]
  rcases it_cases x with e | e | ⟨m, d, y, k, e, _⟩ | e | ⟨c, e⟩ | ⟨k, hk, e⟩ <;> rw [e]
  · simp [noV]
  · simp [doubt]
  · simp [num]
  · exact h
  · simp [boolV]
  · have := errT_len k hk; show (errsT[k]'hk).length ≤ _; omega
theorem it_five (x : It) : ¬ (itU x).kind = 5 := by
  show ¬ (itU x).v.kind = 5
  rw [itU_v]
  rcases it_cases x with e | e | ⟨m, d, y, k, e, _⟩ | e | ⟨c, e⟩ | ⟨k, hk, e⟩ <;> rw [e] <;> simp [noV, doubt, num, strV, boolV, errV]
theorem ivX_rows (v : V) : (ivX v).rows = [] := by unfold ivX inV; (repeat' split) <;> rfl
end Go.Abs
