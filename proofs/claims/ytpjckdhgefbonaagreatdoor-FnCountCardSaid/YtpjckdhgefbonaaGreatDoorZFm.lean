/- Walks of the functions, printed by program, and the logic behind them: each theorem says what one function or one step answers. -/
import Derived.Test.YtpjckdhgefbonaaGreatDoorZMa
namespace Go.Abs
set_option linter.unusedVariables false
set_option linter.unusedSimpArgs false
/-- What was there stays, but for these. -/
def Keep (h h' : Heap) (l : List Nat) : Prop := ∀ x, x ∉ l → h x ≠ none → h' x = h x
theorem Keep.refl (h : Heap) (l : List Nat) : Keep h h l := fun _ _ _ => rfl
theorem Keep.trans {h h' h'' : Heap} {l l' : List Nat} (a : Keep h h' l) (b : Keep h' h'' l') (hl : ∀ x, x ∈ l' → h x ≠ none → x ∈ l) : Keep h h'' l := fun x hx hn => by
  have h1 := a x hx hn
  rw [b x (fun e => hx (hl x e hn)) (by rw [h1]; exact hn), h1]
theorem put_off {h : Heap} {k off x : Nat} {d : D} (hx : x ≠ k) : Heap.put h k off d x = h x := if_neg hx
theorem insBack_off {h : Heap} {k a e n x : Nat} (h1 : x ≠ k) (h2 : x ≠ a) (h3 : x ≠ e) : insBack h k a e n x = h x := by
  unfold insBack
  rw [put_off h1, put_off h3, put_off h1, put_off h2, put_off h3, put_off h3]
theorem IsList.some {h : Heap} {k : Nat} {es : List (Nat × D)} (H : IsList h k es) {x : Nat} (hx : x ∈ k :: es.map (·.1)) : h x ≠ none := by
  rcases List.mem_cons.1 hx with rfl | hx
  · intro e; have := H.klen; simp [Heap.len, e] at this
  · obtain ⟨p, hp, rfl⟩ := List.mem_map.1 hx
    intro e; have := H.elen p hp; simp [Heap.len, e] at this
theorem IsList.of_same {h h' : Heap} {k : Nat} {es : List (Nat × D)} (H : IsList h k es) (hs : ∀ x ∈ k :: es.map (·.1), h' x = h x) : IsList h' k es := by
  have hk := hs k List.mem_cons_self
  have he : ∀ p ∈ es, h' p.1 = h p.1 := fun p hp => hs _ (List.mem_cons_of_mem _ (List.mem_map.2 ⟨p, hp, rfl⟩))
  have hr : ∀ i, i ≤ es.length → h' (ring k (es.map (·.1)) i) = h (ring k (es.map (·.1)) i) := fun i hi => hs _ (ring_mem (by simpa using hi))
  have hr1 : ∀ i, i ≤ es.length → h' (ring k (es.map (·.1)) (i + 1)) = h (ring k (es.map (·.1)) (i + 1)) := fun i hi => by
    rcases Nat.lt_or_ge i es.length with h1 | h1
    · exact hr (i + 1) h1
    · have : i = es.length := by omega
      subst this
      rw [ring_end k (es.map (·.1)) (n := es.length) (by simp)]
      exact hk
  exact ⟨by simp only [Heap.len, hk]; exact H.klen, fun p hp => by simp only [Heap.len, he p hp]; exact H.elen p hp, fun i hi => by simp only [Heap.get, hr i hi]; exact H.next i hi, fun i hi => by simp only [Heap.get, hr1 i hi]; exact H.prev i hi,
    fun p hp => by simp only [Heap.get, he p hp]; exact H.list p hp, fun p hp => by simp only [Heap.get, he p hp]; exact H.val p hp, by simp only [Heap.get, hk]; exact H.n, H.nodup⟩
theorem IsList.keep {h h' : Heap} {k : Nat} {es : List (Nat × D)} {l : List Nat} (H : IsList h k es) (hK : Keep h h' l) (hd : ∀ x ∈ k :: es.map (·.1), x ∉ l) : IsList h' k es := H.of_same fun x hx => hK x (hd x hx) (H.some hx)
def lstF (r : List F) : D := .im (r.flatMap F.c) r.length
theorem len_lstF (r : List F) : (r.flatMap F.c).length = r.length * 10 := length_flat F.c 10 F.c_len r
theorem take_lstF {r : List F} {j : Nat} (h : j < r.length) : takeAt true 10 (r.flatMap F.c) ((j : Int).toNat * 10) = some r[j].d := take_flat F.c 10 F.c_len h
/-- An argument that is a table of cells, as a range of a sheet. -/
def matF (rows : List (List F)) (kr kc : Nat) : D := .agg [st [], fl 0, st [], .im [] 0, .im (rows.map lstF) rows.length, bl false, st [], .sc (.int .u8 4), .hp kr 0, .hp kc 0]
end Go.Abs
namespace Go.Abs
set_option linter.unusedVariables false
set_option linter.unusedSimpArgs false
section
variable {P : Program} {G : Nat → D}
theorem PF.at {f : FuncId} {ds : List D} {v : D} (hc : PF P G f ds v) (h : Heap) : ACall P G f true ds h (fun v' h' => v' = v ∧ h' = h) := fun g Prot w cargs hr hd => (hc g _ w cargs (call_in0 hr) hd).mono (by
  rintro e w' ⟨cv, v', h', g', rfl, rfl, hf, hr', hv⟩
  obtain ⟨k1, k2⟩ := call_back0 hr hf hr'
  exact ⟨cv, v', h, g', rfl, ⟨rfl, rfl⟩, k2, k1, hv⟩)
end
def WL (TF : Nat) (R : List (List F)) (kr kc : Nat) (fs : List F) : List D := .ifc TF (matF R kr kc) :: fs.map fun f => .ifc TF f.d
structure TabAt (h : Heap) (kr kc : Nat) (rg : Nat × D) (l : List Nat) : Prop where
  lr : IsList h kr []
  lc : IsList h kc [rg]
  ne : ¬ kr = kc
  off : kr ∉ l ∧ kc ∉ l ∧ rg.1 ∉ l
theorem TabAt.keep {h h' : Heap} {kr kc : Nat} {rg : Nat × D} {l l' : List Nat} (H : TabAt h kr kc rg l) (hK : Keep h h' l') (hl : ∀ x ∈ l', x ∈ l) : TabAt h' kr kc rg l where
  lr := H.lr.keep hK fun x hx => by simp at hx; subst hx; exact fun e => H.off.1 (hl _ e)
  lc := H.lc.keep hK fun x hx => by
    simp at hx
    rcases hx with rfl | rfl
    · exact fun e => H.off.2.1 (hl _ e)
    · exact fun e => H.off.2.2 (hl _ e)
  ne := H.ne
  off := H.off
theorem TabAt.more {h : Heap} {kr kc e : Nat} {rg : Nat × D} {l : List Nat} (H : TabAt h kr kc rg l) (he : h e = none) : TabAt h kr kc rg (l ++ [e]) where
  lr := H.lr
  lc := H.lc
  ne := H.ne
  off := by
    have h1 : ¬ kr = e := fun x => H.lr.some List.mem_cons_self (x ▸ he)
    have h2 : ¬ kc = e := fun x => H.lc.some List.mem_cons_self (x ▸ he)
    have h3 : ¬ rg.1 = e := fun x => H.lc.some (x := rg.1) (by simp) (x ▸ he)
    simp [H.off.1, H.off.2.1, H.off.2.2, h1, h2, h3]
theorem ext_F (f : F) : ext f.d = true := rfl
theorem ext_mat (R : List (List F)) (kr kc : Nat) : ext (matF R kr kc) = true := rfl
end Go.Abs
namespace Go.Abs
set_option linter.unusedVariables false
set_option linter.unusedSimpArgs false
def setC (h : Heap) (kc n : Nat) : Heap := fun x => if x = kc then some [i64 (n : Int)] else h x
structure Cn (h : Heap) (fid kc kf n : Nat) : Prop where
  cnt : h kc = some [i64 (n : Int)]
  fn : h kf = some [.fn fid [] [.hp kc 0, .hp kf 0]]
  ne : ¬ kf = kc
theorem put_set {h : Heap} {kc m : Nat} {x : D} (hx : h kc = some [x]) : Heap.put h kc 0 (i64 (m : Int)) = setC h kc m := by
  funext y
  unfold Heap.put setC
  by_cases hy : y = kc
  · rw [if_pos hy, if_pos hy, hx]; rfl
  · rw [if_neg hy, if_neg hy]
theorem setC_self {h : Heap} {fid kc kf n : Nat} (C : Cn h fid kc kf n) : setC h kc n = h := by
  funext y
  unfold setC
  by_cases hy : y = kc
  · rw [if_pos hy, hy, C.cnt]
  · rw [if_neg hy]
theorem setC_set (h : Heap) (kc n m : Nat) : setC (setC h kc n) kc m = setC h kc m := by
  funext y
  unfold setC
  by_cases hy : y = kc
  · rw [if_pos hy, if_pos hy]
  · rw [if_neg hy, if_neg hy, if_neg hy]
theorem Cn.set {h : Heap} {fid kc kf n m : Nat} (C : Cn h fid kc kf n) : Cn (setC h kc m) fid kc kf m where
  cnt := if_pos rfl
  fn := (if_neg C.ne).trans C.fn
  ne := C.ne
theorem keep_set (h : Heap) (kc n : Nat) : Keep h (setC h kc n) [kc] := fun x hx _ => if_neg (by simpa using hx)
inductive IsCell : F → Prop
  | num (b : Nat) : IsCell (fNum b)
  | bool (c : Bool) : IsCell (fBool c)
  | str (s : List UInt8) : IsCell (fStr s)
  | none : IsCell fEmpty
def cF (f : F) : Nat := if f.ty = 1 ∧ f.bool = false then 1 else 0
def cFs (l : List F) : Nat := (l.map cF).sum
theorem cFs_succ {l : List F} {i : Nat} (h : i < l.length) : cFs (l.take (i + 1)) = cFs (l.take i) + cF l[i] := by
  unfold cFs
  rw [List.take_succ_eq_append_getElem h, List.map_append, List.sum_append]; simp
theorem cFs_le (l : List F) : cFs l ≤ l.length := by
  induction l with
  | nil => simp [cFs]
  | cons f l ih =>
    have : cF f ≤ 1 := by unfold cF; split <;> omega
    simp only [cFs, List.map_cons, List.sum_cons, List.length_cons] at ih ⊢
    omega
theorem flatF_le (rows : List (List F)) {i : Nat} (h : i < rows.length) : ((rows.take i).flatten).length + rows[i].length ≤ rows.flatten.length := by
  have e : rows = rows.take i ++ rows[i] :: rows.drop (i + 1) := by simp
  have e2 : rows.flatten.length = ((rows.take i).flatten).length + (rows[i].length + ((rows.drop (i + 1)).flatten).length) := by
    conv => lhs; rw [e]
    rw [List.flatten_append, List.flatten_cons, List.length_append, List.length_append]
  omega
theorem flatF_succ {rows : List (List F)} {i : Nat} (h : i < rows.length) : (rows.take (i + 1)).flatten = (rows.take i).flatten ++ rows[i] := by
  rw [List.take_succ_eq_append_getElem h, List.flatten_append]; simp
end Go.Abs
