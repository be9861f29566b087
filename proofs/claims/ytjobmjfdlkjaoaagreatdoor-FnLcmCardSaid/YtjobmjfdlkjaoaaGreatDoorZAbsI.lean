/-
  The abstract logic, part I: append, make, parts of slices.
-/
import Derived.Test.YtjobmjfdlkjaoaaGreatDoorZAbsH
namespace Go.Abs
set_option linter.unusedVariables false
set_option linter.unusedSimpArgs false
section
variable {P : Program} {G : Nat → D} {g g' : Gh} {l l' : Lo} {A A' : AH} {wr : Bool} {Prot : Nat → Prop} {w w' : World} {N : Nat} {o : Oper} {ρ : Operand → D} {S : AH → Prop}

theorem heap_drew_alloc (w : World) (o : Obj) : (w.drew.alloc o).heap = (w.alloc o).heap := rfl

theorem cell_row {cur : Array Value} {b : Nat} {t : TypeId} {fr : Nat × Nat} (h : w.heap[b]? = some (.cells cur t fr)) (j : Nat) : w.cell? ⟨b, j, none⟩ = cur[j]? := by
  simp [World.cell?, h]

theorem sealing_none {b : Nat} {f : Nat → Option Value} {o' : Nat} {b' : Nat} (h : b' ≠ b) : (g.sealing b f).σ b' o' = g.σ b' o' := by simp [Gh.sealing, h]
theorem sealing_at {b : Nat} {f : Nat → Option Value} {o' : Nat} : (g.sealing b f).σ b o' = f o' := by simp [Gh.sealing]

/-- What append does with values in hand. -/
theorem append_core {T ty e : TypeId} {by_ : Nat} {zs : List Value} [hT : UN P T (.slice e)] [hZ : ZV P e by_ zs] {t n m : Nat} {cs ds : List D} (hr : Rel P G g l A wr Prot w) (hlive : A.live t = true) (_h0 : 0 < zs.length)
    (hcs : cs.length = n * zs.length) (hds : ds.length = m * zs.length) (hfit : (n + m) * by_ ≤ 140737488355328) (hmax : n + m ≤ maxLen) {v x : Value} (hv : rep g l (.gs t e cs n) v)
    (hx : (m = 0 ∧ ds = [] ∧ x = .slice none 0 0) ∨ ∃ b oo cap, x = .slice (some ⟨b, oo, none⟩) m cap ∧ m ≤ cap ∧ repS g ds b oo) :
    ∃ cv w' g' l', (Builtin.append_ #[T, T] ty #[v, x]).run P w = .ok cv w' ∧ Fr Prot g g' w w' ∧ l.le l' ∧ Rel P G g' l' (A.app t) wr Prot w' ∧ rep g' l' (.gs A.ln e (cs ++ ds) (n + m)) cv := by
  obtain ⟨it, z, hi, hz, hzc, hsz, hby⟩ := hZ.eq
  have hsmall : n + m ≤ 9223372036854775807 := by simp only [maxLen] at hmax; omega
  have hco : P.cellsOf e = zs.length := by simp [Program.cellsOf, hi, hsz]
  have hzs : z.cells.size = zs.length := by simp [hzc]
  have hzl : ∀ k, (Builtin.zeroCells z.cells k).toList.length = k * zs.length := fun k => by simp [size_zeroCells, hzs]
  simp only [rep] at hv
  rcases hv with ⟨rfl, rfl, rfl⟩ | ⟨r, hτ, rfl, rfl, rfl, hnc, hS⟩
  · -- nil
    rcases hx with ⟨rfl, rfl, rfl⟩ | ⟨b, oo, cap, rfl, hmc, hS⟩
    · refine ⟨.slice none 0 0, w, g, l, ?_, Fr.refl _ _ _, Lo.le.refl _, (hr.kill t).add_none, by simp [rep]⟩
      simp [Builtin.append_, run_underlying hT.eq, sizeOf, typeInfo, hi, Builtin.lenOf, Builtin.firstCells]
    · obtain ⟨news, hn1, hn2, hn3⟩ := repS_vals hS
      have hnl : news.length = m * it.size := by rw [repL_length hn1, hds, hsz]
      by_cases hm : m = 0
      · subst hm
        have : ds = [] := List.eq_nil_of_length_eq_zero (by simpa using hds)
        subst this
        have : news = [] := List.eq_nil_of_length_eq_zero (by simpa using hnl)
        subst this
        refine ⟨.slice none 0 0, w, g, l, ?_, Fr.refl _ _ _, Lo.le.refl _, (hr.kill t).add_none, by simp [rep]⟩
        simp [Builtin.append_, run_underlying hT.eq, sizeOf, typeInfo, hi, Builtin.lenOf, Builtin.firstCells, loadCells, loadCellsFrom]
      · have hrun := run_append_nil (P := P) w T ty e it z hT.eq hi hz ⟨b, oo, none⟩ m cap news hnl (fun j u hj => by rw [addr_add]; exact hr.sld _ _ _ (hn2 j u hj)) (by omega) (by omega) (by rw [hby]; simp only [Nat.zero_add] at hfit; omega)
        have hge := grownCap_ge w m 0 e
        have hcm := grownCap_le_maxLen w m 0 e (by omega)
        obtain ⟨k1, k2, k3⟩ := (hr.kill t).new_row (w' := w.drew.alloc (.cells (news.toArray ++ Builtin.zeroCells z.cells (grownCap w m 0 e - m)) e)) (vs := news) (sp := (Builtin.zeroCells z.cells (grownCap w m 0 e - m)).toList) (e := e) (n := m) (cap := grownCap w m 0 e)
          (by rw [heap_drew_alloc]; congr 3; simp <;> (apply Array.ext'; simp)) ⟨rfl, rfl⟩ (by rw [hnl, hco, hsz]) hge hcm (by
            rw [List.length_append, hnl, hco, hsz, hzl, ← Nat.add_mul, Nat.add_sub_cancel' hge])
        refine ⟨_, _, _, _, hrun, k2, k3, k1, ?_⟩
        simp only [rep]
        refine .inr ⟨⟨w.heap.size, grownCap w m 0 e, m, e⟩, by simp [Lo.row, AH.kill], by simp, rfl, by simp, by simp only; omega, ?_⟩
        simp only [List.nil_append]
        exact repS_sealed (repL_mono k2.le _ (Lo.le.refl _) hn1) hn3
  · -- a row
    obtain ⟨cur, h2, h3, h4, h5, h6, h7, h8, h9⟩ := hr.tag t r hlive hτ
    have hcell := fun j => cell_row h3 j
    obtain ⟨olds, ho1, ho2, ho3⟩ := repS_vals hS
    have hol : olds.length = r.len * it.size := by rw [repL_length ho1, hcs, hsz]
    obtain ⟨news, hn1, hn2, hn3, hload⟩ : ∃ news : List Value, repL g Lo.none ds news ∧ (∀ u ∈ news, u.oneCell' = true) ∧ news.length = m * it.size ∧
        ((∃ b oo cap, x = .slice (some ⟨b, oo, none⟩) m cap ∧ ∀ j u, news[j]? = some u → w.cell? ((⟨b, oo, none⟩ : Addr).add j) = some u) ∨ (m = 0 ∧ x = .slice none 0 0)) := by
      rcases hx with ⟨rfl, rfl, rfl⟩ | ⟨b, oo, cap, rfl, hmc, hS'⟩
      · exact ⟨[], by simp [repL], fun u h => (by cases h), by simp, .inr ⟨rfl, rfl⟩⟩
      · obtain ⟨news, k1, k2, k3⟩ := repS_vals hS'
        exact ⟨news, k1, k3, by rw [repL_length k1, hds, hsz], .inl ⟨b, oo, cap, rfl, fun j u hj => by rw [addr_add]; exact hr.sld _ _ _ (k2 j u hj)⟩⟩
    have hco' : P.cellsOf r.e = it.size := by rw [hco, hsz]
    have hnone : ∀ j, r.len * it.size ≤ j → g.σ r.b j = none := fun j hj => h7 j (by rw [hco']; exact hj)
    by_cases hroom : r.len + m ≤ r.cap
    · -- room
      have hfitc : r.len * it.size + news.length ≤ cur.size := by rw [hn3, h6, hco', ← Nat.add_mul]; exact Nat.mul_le_mul_right _ hroom
      let new : Array Value := (cur.toList.take (r.len * it.size) ++ news ++ cur.toList.drop (r.len * it.size + news.length)).toArray
      have hrun : (Builtin.append_ #[T, T] ty #[.slice (some ⟨r.b, 0, none⟩) r.len r.cap, x]).run P w = .ok (.slice (some ⟨r.b, 0, none⟩) (r.len + m) r.cap) (w.setRow r.b new) := by
        rcases hload with ⟨b, oo, cap, rfl, hl⟩ | ⟨rfl, rfl⟩
        · exact run_append_room (P := P) w T ty r.e it hT.eq hi r.b r.len r.cap cur h3 ⟨b, oo, none⟩ m cap news hn3 hl hn2 hroom hfitc
        · have : news = [] := List.eq_nil_of_length_eq_zero (by simpa using hn3)
          subst this
          have hself : w.setRow r.b new = w := by
            have : new = cur := by apply Array.ext'; simp [new]
            rw [this]
            exact setRow_self w r.b cur r.e (0, 0) h3
          rw [hself]
          simp [Builtin.append_, run_underlying hT.eq, sizeOf, typeInfo, hi, Builtin.lenOf, Builtin.firstCells, hnc, storeCells]
      have hnew : ∀ j, new[j]? = if j < r.len * it.size then cur[j]? else if j < r.len * it.size + news.length then news[j - r.len * it.size]? else cur[j]? := fun j => by
        have hmin : min (r.len * it.size) cur.size = r.len * it.size := by omega
        simp only [new, List.getElem?_toArray, List.append_assoc, List.getElem?_append, List.length_take, Array.length_toList, hmin, List.getElem?_take, List.getElem?_drop, Array.getElem?_toList]
        by_cases c1 : j < r.len * it.size
        · simp [c1]
        · simp only [c1, if_false]
          by_cases c2 : j < r.len * it.size + news.length
          · rw [if_pos (by omega), if_pos c2]
          · rw [if_neg (by omega), if_neg c2]
            congr 1; omega
      have hheap := setRow_heap w r.b cur new r.e (0, 0) h3
      have hsize : new.size = cur.size := by simp [new]; omega
      have k1 : Rel P G g l (A.kill t) wr Prot (w.setRow r.b new) := hr.kill_set hlive hτ (setRow_size _ _ _) (fun b' hb' => setRow_other w r.b b' _ hb') (fun o v hv => by
        rw [cell_row hheap, hnew]
        have hlt : o < r.len * it.size := Nat.lt_of_not_ge fun h => by rw [hnone o h] at hv; cases hv
        rw [if_pos hlt, ← hcell]
        exact hr.sld _ _ _ hv)
      let f : Nat → Option Value := fun j => if j < r.len * it.size then g.σ r.b j else if j < r.len * it.size + news.length then news[j - r.len * it.size]? else none
      have hf : ∀ o v, g.σ r.b o = some v → f o = some v := fun o v hv => by
        have hlt : o < r.len * it.size := Nat.lt_of_not_ge fun h => by rw [hnone o h] at hv; cases hv
        simp only [f, if_pos hlt]; exact hv
      have hkill : ∀ i r', (A.kill t).live i = true → l.τ i = some r' → r'.b ≠ r.b := fun i r' hi hr' e => by
        simp only [AH.kill, Bool.and_eq_true, Bool.not_eq_true'] at hi
        have := hr.tagInj i t r' r hi.1 hlive hr' hτ e
        rw [this] at hi
        simp at hi
      have k2 := k1.sealing (b := r.b) (f := f) hf (fun o v hv => by
        rw [cell_row hheap, hnew]
        simp only [f] at hv
        split at hv
        · rename_i c; rw [if_pos c, ← hcell]; exact hr.sld _ _ _ hv
        · split at hv
          · rename_i c c'; rw [if_neg c, if_pos c']; exact hv
          · cases hv) h8 h9 (fun i r' hi hr' e => absurd e (hkill i r' hi hr'))
      have hle : g.le (g.sealing r.b f) := Gh.le_sealing hf
      have k3 := k2.add_row (r := ⟨r.b, r.cap, r.len + m, r.e⟩) (cur := new) h2 hheap hroom h5 (by rw [hsize]; exact h6) (fun o ho => by
          rw [sealing_at]
          simp only at ho
          have ho' : r.len * it.size + m * it.size ≤ o := by rw [hco', Nat.add_mul] at ho; exact ho
          simp only [f]
          rw [if_neg (by omega), if_neg (by omega)]) h8 h9 hkill
      refine ⟨_, _, _, _, hrun, ⟨hle, by rw [setRow_size]; exact Nat.le_refl _, fun b hb => setRow_other w r.b b _ (fun e => h2 (e ▸ hb)), fun b o hb => sealing_none (fun e => h2 (e ▸ hb)), fun _ _ _ h => h, rfl, rfl⟩, k3.2, k3.1, ?_⟩
      simp only [rep]
      refine .inr ⟨⟨r.b, r.cap, r.len + m, r.e⟩, by simp [Lo.row, AH.kill], rfl, rfl, rfl, hroom, repS_append (repS_mono hle _ hS) ?_⟩
      refine repS_of (repL_mono hle _ (Lo.le.refl _) hn1) (fun j u hj => ?_) hn2
      have hj' := (List.getElem?_eq_some_iff.1 hj).1
      rw [sealing_at]
      simp only [f]
      have e1 : 0 + cs.length + j = r.len * it.size + j := by rw [hcs, hsz]; omega
      rw [e1, if_neg (by omega), if_pos (by omega)]
      rw [← hj]; congr 1; omega
    · -- no room
      have hoc : ∀ j u, olds[j]? = some u → w.cell? ((⟨r.b, 0, none⟩ : Addr).add j) = some u := fun j u hj => by
        rw [addr_add]; exact hr.sld _ _ _ (ho2 j u hj)
      have hm0 : m ≠ 0 := fun e => by subst e; omega
      rcases hload with ⟨b, oo, cap, rfl, hl⟩ | ⟨rfl, _⟩
      · have hrun := run_append_grow (P := P) w T ty r.e it z hT.eq hi hz ⟨r.b, 0, none⟩ r.len r.cap olds hol hoc ⟨b, oo, none⟩ m cap news hn3 hl (by omega) (by omega) (growslice_fits (by omega) (by rw [hby]; exact hfit))
        have hge := grownCap_ge w (r.len + m) r.cap r.e
        have hcm := grownCap_le_maxLen w (r.len + m) r.cap r.e hmax
        obtain ⟨k1, k2, k3⟩ := (hr.kill t).new_row (w' := w.drew.alloc (.cells (olds.toArray ++ news.toArray ++ Builtin.zeroCells z.cells (grownCap w (r.len + m) r.cap r.e - (r.len + m))) r.e)) (vs := olds ++ news) (sp := (Builtin.zeroCells z.cells (grownCap w (r.len + m) r.cap r.e - (r.len + m))).toList) (e := r.e) (n := r.len + m) (cap := grownCap w (r.len + m) r.cap r.e)
          (by rw [heap_drew_alloc]; congr 3; simp <;> (apply Array.ext'; simp)) ⟨rfl, rfl⟩ (by rw [List.length_append, hol, hn3, hco', Nat.add_mul]) hge hcm (by
            rw [List.length_append, List.length_append, hol, hn3, hco', hzl, ← hsz, ← Nat.add_mul, ← Nat.add_mul, Nat.add_sub_cancel' hge])
        refine ⟨_, _, _, _, hrun, k2, k3, k1, ?_⟩
        simp only [rep]
        refine .inr ⟨⟨w.heap.size, grownCap w (r.len + m) r.cap r.e, r.len + m, r.e⟩, by simp [Lo.row, AH.kill], rfl, rfl, rfl, hge, ?_⟩
        exact repS_sealed (repL_append (repL_mono k2.le _ (Lo.le.refl _) ho1) (repL_mono k2.le _ (Lo.le.refl _) hn1)) (fun u hu => (List.mem_append.1 hu).elim (ho3 u) (hn2 u))
      · exact absurd rfl hm0

theorem as_append {T e : TypeId} {by_ : Nat} {zs : List Value} {s x : Operand} [hT : UN P T (.slice e)] [hZ : ZV P e by_ zs] {t n m : Nat} {cs ds : List D} {d : D} (ho : o.op = .call { callee := .builtin .append, args := #[s, x], argTypes := #[T, T] }) (hs : ρ s = .gs t e cs n) (hlive : A.live t = true) (hx : ρ x = d) (hd : slc d = some (ds, m)) (h0 : 0 < zs.length) (hcs : cs.length = n * zs.length) (hds : ds.length = m * zs.length) (hfit : (n + m) * by_ ≤ 140737488355328) (hmax : n + m ≤ maxLen) : AS P G wr o ρ A (.gs A.ln e (cs ++ ds) (n + m)) (A.app t) := by
  intro g l Prot w a hr hops K Q hk
  have hs0 := hops s (by simp [ho, Op.operands, Call.operands])
  have hx0 := hops x (by simp [ho, Op.operands, Call.operands])
  rw [hs] at hs0; rw [hx] at hx0
  obtain ⟨cv, w', g', l', h1, h2, h3, h4, h5⟩ := append_core (ty := o.type) (T := T) hr hlive h0 hcs hds hfit hmax hs0 (rep_slc hd hx0)
  unfold Oper.wp
  have hrun : (execOp a.eval o).run P w = .ok (.value cv) w' := by
    simp only [execOp, ho, resolve, invoke, builtin, Sem.run_bind, Sem.run_pure, Result.andThen_ok, List.map_toArray, List.map_cons, List.map_nil, h1]
  rw [hrun]
  exact hk g' l' w' cv h2 h3 h4 h5

end
end Go.Abs
