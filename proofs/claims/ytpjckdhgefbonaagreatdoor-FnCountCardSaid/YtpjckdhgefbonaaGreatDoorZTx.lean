/- Walks of the functions, printed by program, and the logic behind them: each theorem says what one function or one step answers. -/
import Derived.Test.YtpjckdhgefbonaaGreatDoorZLi
import Derived.Test.YtpjckdhgefbonaaGreatDoorZExt
import Derived.Test.YtpjckdhgefbonaaGreatDoorZText2
import Derived.Test.YtpjckdhgefbonaaGreatDoorZText
import Derived.Laws.IdiomStrings
import Derived.Laws.Cover4
import Derived.Test.YtpjckdhgefbonaaGreatDoorZBytes
import Derived.WideLaws
import Derived.Lib.Case
namespace Go.Abs
set_option linter.unusedVariables false
set_option linter.unusedSimpArgs false
def ptrAt (es : List (Nat × D)) (i : Nat) : D := if h : i < es.length then .hp es[i].1 0 else .sc (.pointer none)
theorem ptrAt_lt {es : List (Nat × D)} {i : Nat} (h : i < es.length) : ptrAt es i = .hp es[i].1 0 := dif_pos h
theorem ptrAt_ge {es : List (Nat × D)} {i : Nat} (h : ¬ i < es.length) : ptrAt es i = .sc (.pointer none) := dif_neg h
theorem ring_ne {h : Heap} {k : Nat} {es : List (Nat × D)} (H : IsList h k es) {i : Nat} (hi : i + 1 < es.length) : ring k (es.map (·.1)) (i + 2) = es[i + 1].1 ∧ ¬ es[i + 1].1 = k := by
  have h1 : i + 1 < (es.map (·.1)).length := by simpa using hi
  refine ⟨by rw [ring_at h1, List.getElem_map], fun e => ?_⟩
  have hn := H.nodup
  rw [List.nodup_cons] at hn
  exact hn.1 (List.mem_map.2 ⟨es[i + 1], List.getElem_mem hi, e⟩)
theorem isSome_of_len {h : Heap} {k n : Nat} (hk : Heap.len h k = some n) : (h k).isSome = true := by
  unfold Heap.len at hk
  cases hh : h k with
  | none => rw [hh] at hk; simp at hk
  | some _ => rfl
section
variable {P : Program} {G : Nat → D} {wr : Bool} {A : AH} {o : Oper} {ρ : Operand → D} {S : AH → Prop}
/-- Where a walk stands, held against nil. -/
theorem q_ptrAt {T U te : TypeId} {x y : Operand} [hT : UN P T (.pointer te)] {es : List (Nat × D)} {i : Nat} (ho : o.op = .binOp .neq T x y U) (hx : ρ x = ptrAt es i) (hy : ρ y = .sc (.pointer none)) : AQ P G wr o ρ S (bl (decide (i < es.length))) := by
  by_cases h : i < es.length
  · rw [decide_eq_true h]; rw [ptrAt_lt h] at hx; exact q_ptrNilN ho hx rfl hy
  · rw [decide_eq_false h]; rw [ptrAt_ge h] at hx; exact q_nilNil (.inr rfl) ho hx hy
end
/-- How many elements a row has. -/
def lenG : D → Nat
  | .gs _ _ _ n => n
  | _ => 0

end Go.Abs
namespace Go.Abs
set_option linter.unusedVariables false
set_option linter.unusedSimpArgs false
def iBool (b : Nat) : IV := ⟨3, b, [], []⟩
/-- A value of the reference as an argument of the program. -/
def inV (v : V) : IV := if v.kind = 2 then iStr v.text else if v.kind = 4 then iErr v.text else if v.kind = 3 then iBool (FloatKind.f64.nearest v.num) else iNum (qV v)
/-- An argument inside the program. -/
def innF (v : IV) : F := if v.kind = 2 then fStr v.text else if v.kind = 4 then fErr v.text v.text else if v.kind = 3 then fBool (fcmp .neq .f64 v.num 0) else fNum (clean v.num)
theorem inV_str (s : List UInt8) : inV (strV s) = iStr s := rfl
theorem inV_num (n d : Int) : inV (num n d) = iNum (qV (num n d)) := rfl
theorem innF_str (s : List UInt8) : innF (iStr s) = fStr s := rfl
theorem innF_num (b : Nat) : innF (iNum b) = fNum (clean b) := rfl
theorem innF_bool (b : Nat) : innF (iBool b) = fBool (fcmp .neq .f64 b 0) := rfl
theorem sameS (s : List UInt8) : sameI ⟨2, 0, s, []⟩ ⟨2, 0, s, []⟩ = true := by
  have : fcmp .eql .f64 0 0 = true := by rw [fcmp_eq fx_zero fx_zero]; rfl
  simp [sameI, this]
theorem sameN {a b : Nat} {x : Int} (ha : Fx a x) (hb : Fx b x) : sameI ⟨1, a, [], []⟩ ⟨1, b, [], []⟩ = true := by
  have : fcmp .eql .f64 a b = true := by rw [fcmp_eq ha hb]; simp
  simp [sameI, this]
/-! Lists with a few elements. -/
theorem el1 {es : List (Nat × D)} {a : D} (h : es.map (·.2) = [a]) : ∃ e, es = [(e, a)] := by
  match es, h with
  | [(e, x)], h => simp at h; subst h; exact ⟨e, rfl⟩
theorem el2 {es : List (Nat × D)} {a b : D} (h : es.map (·.2) = [a, b]) : ∃ e f, es = [(e, a), (f, b)] := by
  match es, h with
  | [(e, x), (f, y)], h => simp at h; obtain ⟨rfl, rfl⟩ := h; exact ⟨e, f, rfl⟩
theorem el3 {es : List (Nat × D)} {a b c : D} (h : es.map (·.2) = [a, b, c]) : ∃ e f g, es = [(e, a), (f, b), (g, c)] := by
  match es, h with
  | [(e, x), (f, y), (g, z)], h => simp at h; obtain ⟨rfl, rfl, rfl⟩ := h; exact ⟨e, f, g, rfl⟩
theorem el4 {es : List (Nat × D)} {a b c d : D} (h : es.map (·.2) = [a, b, c, d]) : ∃ e f g i, es = [(e, a), (f, b), (g, c), (i, d)] := by
  match es, h with
  | [(e, x), (f, y), (g, z), (i, u)], h => simp at h; obtain ⟨rfl, rfl, rfl, rfl⟩ := h; exact ⟨e, f, g, i, rfl⟩
/-! The smaller one of two numbers. -/
section
variable {P : Program} {G : Nat → D} {wr : Bool} {o : Oper} {ρ : Operand → D} {S : AH → Prop}
theorem q_ext2 {x y z : Operand} {Ts : Array TypeId} {f : FuncId} {e : Array Value → Sem Value} [hf : XF P f e] {a b v : Value} (ho : o.op = .call { callee := .value x, args := #[y, z], argTypes := Ts }) (hx : ρ x = .fn f [] []) (hy : ρ y = .sc a) (hz : ρ z = .sc b) (he : ∀ w, (e #[a, b]).run P w = .ok v w) : AQ P G wr o ρ S (.sc v) :=
  AQ.run fun g l _ w ac _ _ _ h => by
    have hx0 := h x (by simp [ho, Op.operands, Call.operands])
    have hy0 := h y (by simp [ho, Op.operands, Call.operands])
    have hz0 := h z (by simp [ho, Op.operands, Call.operands])
    rw [hx] at hx0; rw [hy] at hy0; rw [hz] at hz0
    simp only [rep] at hx0 hy0 hz0
    obtain ⟨u, v', h1, h2, h3⟩ := hx0
    simp only [repL] at h2 h3
    subst h2; subst h3
    have hr := hf.run #[ac.eval y, ac.eval z] w
    rw [hy0, hz0, he w, Result.andThen_ok] at hr
    refine ⟨v, ?_, by simp [rep]⟩
    simp only [execOp, ho, resolve, h1, Deferred.ofValue, Sem.run_bind, Sem.run_pure, Result.andThen_ok, invoke]
    simp [hy0, hz0, hr]
end
open Ieee
def minF (x y : Nat) : Nat :=
  if (FloatKind.f64.decode x == .infinity true || FloatKind.f64.decode y == .infinity true) = true then FloatKind.f64.encode (.infinity true)
  else if ((FloatKind.f64.decode x).isNaN || (FloatKind.f64.decode y).isNaN) = true then 0x7FF8000000000001
  else if ((FloatKind.f64.decode x).isZero && (FloatKind.f64.decode y).isZero) = true then (if ((FloatKind.f64.decode x).neg == true) = true then x else y)
  else if ((FloatKind.f64.decode x).order (FloatKind.f64.decode y) == some .lt) = true then x else y
theorem x_min {P : Program} (a b : Nat) (w : World) : (Extern.MathDim.pick "math.archMin" true .lt #[.float .f64 a, .float .f64 b]).run P w = .ok (.float .f64 (minF a b)) w := rfl
theorem signed_zero {s : Bool} {up : Nat} : signed s 0 up = 0 := by unfold signed; simp
theorem fx_minF {a b : Nat} {x y : Int} (ha : Fx a x) (hb : Fx b y) : Fx (minF a b) (if x < y then x else y) := by
  have ho := fv_order ha hb
  obtain ⟨s, m, e, h1, h2, h3⟩ := id ha
  obtain ⟨t, n, f, k1, k2, k3⟩ := id hb
  have h0 : FloatKind.f64.decode a = .number s m e := h1
  have k0 : FloatKind.f64.decode b = .number t n f := k1
  have ho' : (Datum.number s m e).order (.number t n f) = some (compare x y) := by rw [← h1, ← k1]; exact ho
  unfold minF
  rw [h0, k0, ho']
  rw [if_neg (show ¬ (Datum.number s m e == Datum.infinity true || Datum.number t n f == Datum.infinity true) = true from fun h => Bool.noConfusion (show false = true from h)), if_neg (by simp [Datum.isNaN])]
  by_cases hz : ((Datum.number s m e).isZero && (Datum.number t n f).isZero) = true
  · rw [if_pos hz]
    rw [Bool.and_eq_true] at hz
    obtain rfl : m = 0 := by
      have := hz.1
      cases m with
      | zero => rfl
      | succ k => simp [Datum.isZero] at this
    obtain rfl : n = 0 := by
      have := hz.2
      cases n with
      | zero => rfl
      | succ k => simp [Datum.isZero] at this
    rw [signed_zero] at h3 k3
    subst h3; subst k3
    split <;> simpa
  · rw [if_neg hz]
    rcases Int.lt_trichotomy x y with h | h | h
    · rw [show compare x y = .lt by simp [compare, compareOfLessAndEq, h], if_pos h]; simpa using ha
    · subst h
      rw [show compare x x = .eq by simp [compare, compareOfLessAndEq]]; simpa using hb
    · rw [show compare x y = .gt by simp only [compare, compareOfLessAndEq]; rw [if_neg (by omega), if_neg (by omega)], if_neg (show ¬ x < y by omega)]; simpa using hb
end Go.Abs
namespace Go.Abs
set_option linter.unusedVariables false
set_option linter.unusedSimpArgs false
/-- The runes of a text of plain bytes: as cells, and as values. -/
def rc (s : List UInt8) : List D := s.map fun b => .sc (.int .i32 (b.toNat : Int))
def rv (s : List UInt8) : List Value := s.map fun b => .int .i32 (b.toNat : Int)
theorem rc_len (s : List UInt8) : (rc s).length = s.length := by simp [rc]
theorem rc_drop (s : List UInt8) (k : Nat) : (rc s).drop k = rc (s.drop k) := by simp [rc, List.map_drop]
theorem rc_take (s : List UInt8) (k : Nat) : (rc s).take k = rc (s.take k) := by simp [rc, List.map_take]

theorem decode_plain {s : List UInt8} {i : Nat} (h : i < s.length) (ha : s[i].toNat < 128) : Utf8.decode ⟨⟨s⟩⟩ i = (s[i].toNat, 1) := by
  have e : ((⟨⟨s⟩⟩ : ByteArray).get! (i + 0)).toNat = s[i].toNat := by
    rw [Nat.add_zero]
    show ((⟨s⟩ : Array UInt8)[i]!).toNat = _
    rw [getElem!_pos (⟨s⟩ : Array UInt8) i h]
    rfl
  unfold Utf8.decode
  simp only [e]
  rw [if_pos ha]

theorem runes_plain (s : List UInt8) (h : ∀ b ∈ s, b.toNat < 128) : ∀ (n i : Nat) (acc : Array Value), i + n = s.length → Conv.runesFrom ⟨⟨s⟩⟩ n i acc = acc ++ (rv (s.drop i)).toArray
  | 0, i, acc, e => by
    rw [List.drop_eq_nil_of_le (show s.length ≤ i by omega)]
    simp [Conv.runesFrom, rv]
  | n + 1, i, acc, e => by
    have hi : i < s.length := by omega
    unfold Conv.runesFrom
    rw [if_pos (show i < (⟨⟨s⟩⟩ : ByteArray).size from hi)]
    simp only [decode_plain hi (h _ (List.getElem_mem hi))]
    rw [runes_plain s h n (i + 1) _ (by omega), show rv (s.drop i) = .int .i32 (s[i].toNat : Int) :: rv (s.drop (i + 1)) from by rw [List.drop_eq_getElem_cons hi]; rfl]
    apply Array.ext'
    simp

section
variable {P : Program} {G : Nat → D} {g g' : Gh} {l l' : Lo} {A A' : AH} {wr : Bool} {Prot : Nat → Prop} {w w' : World} {o : Oper} {ρ : Operand → D} {S : AH → Prop}

theorem repL_rc : ∀ s : List UInt8, repL g l (rc s) (rv s)
  | [] => by simp [rc, rv, repL]
  | b :: s => by
    have := repL_rc s
    simp only [rc, rv, List.map_cons, repL] at this ⊢
    exact ⟨_, _, rfl, by simp [rep], this⟩
theorem rc_rv : ∀ {s : List UInt8} {vs : List Value}, repL g l (rc s) vs → vs = rv s
  | [], vs, h => by simpa [rc, rv, repL] using h
  | b :: s, vs, h => by
    simp only [rc, rv, List.map_cons, repL] at h ⊢
    obtain ⟨v, r, h1, h2, h3⟩ := h
    subst h1
    simp only [rep] at h2
    rw [h2, rc_rv (s := s) h3]; rfl

/-- '[]rune(s)' of plain bytes. -/
theorem q_runes {T U e : TypeId} [hT : UN P T .string] [hU : UN P U (.slice e)] [hE : UN P e (.int .i32)] {x : Operand} {s : List UInt8} (ho : o.op = .convert T U x) (hx : ρ x = st s) (ha : ∀ b ∈ s, b.toNat < 128) (hl : s.length ≤ 1000000000) : AQ P G wr o ρ S (.im (rc s) s.length) := by
  intro g l Prot w a A hS hr hops K Q hK
  have hx0 := hops x (by simp [ho, Op.operands])
  rw [hx] at hx0
  simp only [rep] at hx0
  have e1 : Conv.runesFrom ⟨⟨s⟩⟩ (⟨⟨s⟩⟩ : ByteArray).size 0 #[] = (rv s).toArray := by
    have := runes_plain s ha s.length 0 #[] (by omega)
    rw [show (⟨⟨s⟩⟩ : ByteArray).size = s.length from rfl, this]; simp
  have hsz : (rv s).toArray.size = s.length := by simp [rv]
  have hrun := run_runes_of_string (P := P) w T U e ⟨⟨s⟩⟩ hT.eq hU.eq hE.eq (by rw [e1, hsz]; omega)
  rw [e1, hsz] at hrun
  have hge := grownCap_ge w s.length 0 e
  generalize grownCap w s.length 0 e = cap at *
  generalize hsp : Array.replicate (cap - s.length) (Value.int .i32 0) = sp at *
  have hrd : Rel P G g l A wr Prot w.drew := hr.of_heap rfl
  obtain ⟨k1, k2⟩ := hrd.alloc_sealed (rv s) sp.toList e (0, 0)
  have ew : (rv s ++ sp.toList).toArray = (rv s).toArray ++ sp := by apply Array.ext'; simp
  rw [ew] at k1 k2
  have hexec : (execOp a.eval o).run P w = .ok (.value (.slice (some ⟨w.heap.size, 0, none⟩) s.length cap)) (w.drew.alloc (.cells ((rv s).toArray ++ sp) e (0, 0))) := by
    simp only [execOp, ho, hx0, Sem.run_bind, hrun, Result.andThen_ok, Sem.run_pure]
  have k0 : Fr Prot g g w w.drew := Fr.of_heap rfl ⟨rfl, rfl⟩
  unfold Oper.wp
  rw [hexec]
  refine hK _ _ _ (k0.trans k2) k1 ?_
  simp only [rep]
  refine .inr ⟨w.heap.size, 0, cap, rfl, hge, repS_sealed (repL_rc s) fun v hv => ?_⟩
  obtain ⟨b, _, rfl⟩ := List.mem_map.1 hv
  rfl

theorem runes_back : ∀ (s p : List UInt8), (∀ b ∈ s, b.toNat < 128) → (s.map fun b => (b.toNat : Int)).foldl (fun r n => r ++ Utf8.encode n) (⟨⟨p⟩⟩ : ByteArray) = ⟨⟨p ++ s⟩⟩
  | [], p, _ => by simp
  | b :: s, p, h => by
    have hb := h b List.mem_cons_self
    rw [List.map_cons, List.foldl_cons, enc_ascii (by omega) (by omega)]
    have e : (⟨⟨p⟩⟩ : ByteArray) ++ ⟨⟨[UInt8.ofNat (b.toNat : Int).toNat]⟩⟩ = ⟨⟨p ++ [b]⟩⟩ := by
      have e2 : UInt8.ofNat (b.toNat : Int).toNat = b := by simp
      rw [e2]
      apply ByteArray.ext
      simp
    rw [e, runes_back s (p ++ [b]) fun c hc => h c (List.mem_cons_of_mem _ hc)]
    simp

/-- 'string(rs)' of runes of plain bytes. -/
theorem q_csr {T U e : TypeId} [hT : UN P T (.slice e)] [hE : UN P e (.int .i32)] [hU : UN P U .string] {x : Operand} {d : D} {s : List UInt8} {n : Nat} (ho : o.op = .convert T U x) (hx : ρ x = d) (hd : slc d = some (rc s, n)) (hn : n = s.length) (ha : ∀ b ∈ s, b.toNat < 128) : AQ P G wr o ρ S (st s) :=
  AQ.run fun g l _ w a A hS hr hops => by
    have h0 := hops x (by simp [ho, Op.operands])
    rw [hx] at h0
    refine ⟨str s, ?_, by simp [rep]⟩
    rcases rep_slc hd h0 with ⟨h1, h2, h3⟩ | ⟨b, oo, cap, h1, h2, h3⟩
    · obtain rfl : s = [] := List.eq_nil_of_length_eq_zero (by omega)
      have := run_convert_runes_string (P := P) w T U e none 0 0 hT.eq hE.eq hU.eq
      simp only [execOp, ho, h3, Sem.run_bind, this, Conv.runesToString, Sem.run_pure, Result.andThen_ok]
      rfl
    · obtain ⟨vs, h4, h5, _⟩ := repS_vals h3
      obtain rfl := rc_rv h4
      have e1 : rv s = (s.map fun b => (b.toNat : Int)).map (Value.int .i32) := by simp [rv]
      have hl := run_loadCells_list (P := P) w ⟨b, oo, none⟩ (rv s) fun j v hj => by rw [addr_add]; exact hr.sld _ _ _ (h5 j v hj)
      rw [show (rv s).length = n by simp [rv, hn], e1] at hl
      have h6 := run_runesToString (P := P) w ⟨b, oo, none⟩ n cap _ hl
      have h7 := run_convert_runes_string (P := P) w T U e (some ⟨b, oo, none⟩) n cap hT.eq hE.eq hU.eq
      have h8 : runesBytes (s.map fun b => (b.toNat : Int)) = ⟨⟨s⟩⟩ := by
        have := runes_back s [] ha
        rw [List.nil_append] at this
        exact this
      rw [h8] at h6
      simp only [execOp, ho, h1, Sem.run_bind, h7, h6, Result.andThen_ok, Sem.run_pure]
end
theorem plain_of {s : List UInt8} (h : asciiB s = true) : ∀ b ∈ s, b.toNat < 128 := fun b hb => by
  have := List.all_eq_true.1 h b hb
  simp only [Bool.and_eq_true, decide_eq_true_eq] at this
  omega
end Go.Abs
namespace Go.Abs
set_option linter.unusedVariables false
set_option linter.unusedSimpArgs false
/-- An interface type. -/
class IFT (P : Program) (T : TypeId) : Prop where
  eq : P.underlying T = some (.interface (P.methodsAt T))
section
variable {P : Program} {G : Nat → D} {g g' : Gh} {l l' : Lo} {A A' : AH} {wr : Bool} {Prot : Nat → Prop} {w w' : World} {o : Oper} {ρ : Operand → D} {S : AH → Prop}
theorem q_ifNeN {T U : TypeId} {x : Operand} {c : Value} [hT : IFT P T] (ho : o.op = .binOp .neq T x (.const c) U) (hx : ρ x = .sc .nilIface) (hy : ρ (.const c) = .sc .nilIface) : AQ P G wr o ρ S (.sc (.bool false)) :=
  q_bin ho hx hy (fun w => by rw [eqGuard_nil_constR]; rfl) fun w => run_neq_nil_nil w T hT.eq
/-- '[]byte(s)' that nothing writes. -/
theorem q_bytesIm {T U e : TypeId} [hT : UN P T .string] [hU : UN P U (.slice e)] [hE : UN P e (.int .u8)] {x : Operand} {s : List UInt8} (ho : o.op = .convert T U x) (hx : ρ x = st s) : AQ P G wr o ρ S (.im (bc s) s.length) := by
  intro g l Prot w a A hS hr hops K Q hK
  have hx0 := hops x (by simp [ho, Op.operands])
  rw [hx] at hx0
  simp only [rep] at hx0
  have hrun := run_bytes_of_string (P := P) w T U e ⟨⟨s⟩⟩ hT.eq hU.eq hE.eq
  have hsz : (⟨⟨s⟩⟩ : ByteArray).size = s.length := rfl
  rw [hsz] at hrun
  have hge := grownCap_ge w s.length 0 e
  generalize grownCap w s.length 0 e = cap at *
  obtain ⟨n, hn⟩ : ∃ n, (bytesRow ⟨⟨s⟩⟩ cap).size = n := ⟨_, rfl⟩
  rw [hn, bytesRow_eq] at hrun
  generalize hsp : List.replicate (cap - s.length) (Value.int .u8 0) = sp at *
  have hrd : Rel P G g l A wr Prot w.drew := hr.of_heap rfl
  obtain ⟨k1, k2⟩ := hrd.alloc_sealed (s.map fun (b : UInt8) => Value.int IntKind.u8 (b.toNat : Int)) sp e (n, n + 1)
  have hex : (execOp a.eval o).run P w = .ok (.value (.slice (some ⟨w.heap.size, 0, none⟩) s.length cap)) (w.drew.alloc (.cells ((s.map fun (b : UInt8) => Value.int IntKind.u8 (b.toNat : Int)) ++ sp).toArray e (n, n + 1))) := by
    simp only [execOp, ho, hx0, Sem.run_bind, hrun, Result.andThen_ok, Sem.run_pure]
  have k0 : Fr Prot g g w w.drew := Fr.of_heap rfl ⟨rfl, rfl⟩
  unfold Oper.wp
  rw [hex]
  refine hK _ _ _ (k0.trans k2) k1 ?_
  simp only [rep]
  refine .inr ⟨w.heap.size, 0, cap, rfl, hge, repS_sealed (repL_bytes s) fun v hv => ?_⟩
  obtain ⟨b, _, rfl⟩ := List.mem_map.1 hv
  rfl
end
theorem u8_wrap {x : Int} (h1 : 0 ≤ x) (h2 : x < 256) : IntKind.u8.wrap x = x := by simp [IntKind.wrap, IntKind.signed, IntKind.bits]; omega
theorem u64_id {x : Int} (h1 : 0 ≤ x) (h2 : x ≤ 18446744073709551615) : IntKind.u64.wrap x = x := by simp [IntKind.wrap, IntKind.signed, IntKind.bits]; omega
theorem low_lib (s : List UInt8) : Lib.toLowerA s = lowS s := by
  unfold Lib.toLowerA lowS
  refine List.map_congr_left fun b _ => ?_
  unfold Lib.lowerB lowB Lib.isUpperB
  by_cases h : 65 ≤ b.toNat ∧ b.toNat ≤ 90
  · have h1 : (65 ≤ b && b ≤ 90) = true := by simp [UInt8.le_iff_toNat_le, h.1, h.2]
    rw [h1, if_pos h, if_pos rfl]
    apply UInt8.toNat_inj.1
    simp
  · have h1 : (65 ≤ b && b ≤ 90) = false := by
      rw [Bool.and_eq_false_iff]
      simp only [decide_eq_false_iff_not, UInt8.le_iff_toNat_le]
      simp
      omega
    rw [h1, if_neg h]; simp
end Go.Abs
namespace Go.Abs
set_option linter.unusedVariables false
set_option linter.unusedSimpArgs false
theorem dec_some_step {b : Int} {s : List UInt8} {i : Nat} {n N : Int} (h : i < s.length) (hD : decL b (s.drop i) i n = some N) :
    ¬ decBad b i s[i] ∧ ¬ 99999999999 < n * b + (digV s[i] : Int) ∧ decL b (s.drop (i + 1)) (i + 1) (n * b + (digV s[i] : Int)) = some N := by
  by_cases hb : decBad b i s[i]
  · rw [dec_bad h hb] at hD; cases hD
  · by_cases hg : 99999999999 < n * b + (digV s[i] : Int)
    · rw [dec_great h hb hg] at hD; cases hD
    · exact ⟨hb, hg, by rw [← dec_step h hb hg]; exact hD⟩
theorem dec_le {b : Int} {s : List UInt8} {N : Int} (hb : 2 ≤ b ∧ b ≤ 36) : ∀ (k i : Nat) (n : Int), s.length - i = k → 0 ≤ n → n ≤ 99999999999 → decL b (s.drop i) i n = some N → 0 ≤ N ∧ N ≤ 99999999999
  | 0, i, n, hk, h0, h1, hD => by
    rw [dec_end (by omega)] at hD
    cases hD; exact ⟨h0, h1⟩
  | k + 1, i, n, hk, h0, h1, hD => by
    have hi : i < s.length := by omega
    obtain ⟨_, h3, h4⟩ := dec_some_step hi hD
    have := (dec_mul h0 h1 hb).1
    exact dec_le hb k (i + 1) _ (by omega) (by omega) (by omega) h4
/-- A byte with its small letter's bit. -/
def lowO (c : UInt8) : Nat := c.toNat ||| 32
set_option maxRecDepth 10000 in
theorem lowO_tab : ∀ n : Fin 256, IntKind.u8.wrap ((BitVec.ofInt 8 (n.val : Int) ||| BitVec.ofInt 8 32).toNat : Int) = ((n.val ||| 32 : Nat) : Int) := by decide
theorem lowO_word (c : UInt8) : IntKind.u8.wrap ((BitVec.ofInt IntKind.u8.bits (c.toNat : Int) ||| BitVec.ofInt IntKind.u8.bits 32).toNat : Int) = (lowO c : Int) := lowO_tab ⟨c.toNat, c.toNat_lt⟩
set_option maxRecDepth 10000 in
theorem dig_tab : ∀ n : Fin 256, ¬ digV (UInt8.ofNat n.val) = 36 → (48 ≤ n.val ∧ n.val ≤ 57 ∧ digV (UInt8.ofNat n.val) = n.val - 48) ∨ (¬ (48 ≤ n.val ∧ n.val ≤ 57) ∧ 97 ≤ n.val ||| 32 ∧ n.val ||| 32 ≤ 122 ∧ digV (UInt8.ofNat n.val) = (n.val ||| 32) - 87) := by decide
theorem dig_form (c : UInt8) (h : ¬ digV c = 36) : (48 ≤ c.toNat ∧ c.toNat ≤ 57 ∧ digV c = c.toNat - 48) ∨ (¬ (48 ≤ c.toNat ∧ c.toNat ≤ 57) ∧ 97 ≤ lowO c ∧ lowO c ≤ 122 ∧ digV c = lowO c - 87) := by
  have := dig_tab ⟨c.toNat, c.toNat_lt⟩
  simp only [UInt8.ofNat_toNat] at this
  exact this h
theorem dig_sign {c : UInt8} (h : ¬ digV c = 36) : ¬ c.toNat = 43 ∧ ¬ c.toNat = 45 ∧ ¬ c.toNat = 95 := by
  rcases dig_form c h with h | ⟨h1, h2, h3, _⟩
  · omega
  · refine ⟨fun e => ?_, fun e => ?_, fun e => ?_⟩ <;> (unfold lowO at h2 h3; rw [e] at h2 h3; revert h2 h3; decide)
/-- No prefix of a base. -/
theorem dec_prefix {b : Int} {s : List UInt8} {N : Int} (hD : decL b s 0 0 = some N) (x : UInt8) (hx : x = 120 ∨ x = 88) : ¬ s.take 2 = [48, x] := fun e => by
  have h2 : 1 < s.length := by
    have := congrArg List.length e
    simp only [List.length_take, List.length_cons, List.length_nil] at this
    omega
  have h0 : decL b (s.drop 0) 0 0 = some N := by simpa using hD
  obtain ⟨_, _, h3⟩ := dec_some_step (by omega) h0
  obtain ⟨h4, _⟩ := dec_some_step h2 h3
  have e1 : s[1] = x := by
    have : (s.take 2)[1]? = some x := by rw [e]; rfl
    rw [List.getElem?_take_of_lt (by omega), List.getElem?_eq_getElem h2] at this
    exact Option.some.inj this
  apply h4
  unfold decBad
  rw [e1]
  right; left
  refine ⟨rfl, .inl ?_⟩
  rcases hx with rfl | rfl <;> decide
/-- The bound from which a further digit would not fit. -/
theorem cutoff_ok {b : Int} (hb : 2 ≤ b ∧ b ≤ 36) : 99999999999 < (18446744073709551615 : Int).tdiv b ∧ (18446744073709551615 : Int).tdiv b ≤ 9223372036854775807 := by
  rw [Int.tdiv_eq_ediv_of_nonneg (by omega)]
  constructor
  · exact Int.lt_of_lt_of_le (by omega : (99999999999 : Int) < 100000000000) ((Int.le_ediv_iff_mul_le (by omega)).2 (by omega))
  · exact Int.le_of_lt_add_one ((Int.ediv_lt_iff_lt_mul (by omega)).2 (by omega))
end Go.Abs
namespace Go.Abs
set_option linter.unusedVariables false
set_option linter.unusedSimpArgs false
def errsL : List (List UInt8) := [[35, 78, 85, 76, 76, 33], [35, 68, 73, 86, 47, 48, 33], [35, 86, 65, 76, 85, 69, 33], [35, 82, 69, 70, 33], [35, 78, 65, 77, 69, 63], [35, 78, 85, 77, 33], [35, 78, 47, 65]]
def errI (n : Int) : Nat := ((IntKind.u64.wrap n).tmod 7).toNat
theorem errI_lt (n : Int) : errI n < 7 := by
  unfold errI
  have h : 0 ≤ IntKind.u64.wrap n := by simp [IntKind.wrap, IntKind.signed]; omega
  rw [Int.tmod_eq_emod_of_nonneg h]
  omega
def madeV (a n : Int) (s : List UInt8) : V :=
  if a.tmod 6 = 0 then noV else if a.tmod 6 = 1 then intV n else if a.tmod 6 = 2 then strV s else if a.tmod 6 = 3 then boolV (decide (¬ n.tmod 2 = 0)) else if a.tmod 6 = 4 then errV (errsL[errI n]'(errI_lt n)) else sixV (clampI n)
def V.u (v : V) : U := ⟨v.kind, v.num, v.den, v.text⟩
theorem u_v {v : V} (h : v.rows = []) : v.u.v = v := by cases v; simp only at h; subst h; rfl
/-- A single value that the laws make: a text; a number that a float holds; or something else. -/
inductive Sort1 : V → Prop
  | txt (s : List UInt8) : Sort1 (strV s)
  | num (n d : Int) (x : Int) (hq : floatBits .quo .f64 (FloatKind.f64.nearest n) (FloatKind.f64.nearest d) = some (qV (num n d))) (hx : Fx (qV (Go.Abs.num n d)) x) : Sort1 (Go.Abs.num n d)
  | other (v : V) (h : ¬ v.kind = 1 ∧ ¬ v.kind = 2 ∧ ¬ v.kind = 5) (hr : v.rows = []) : Sort1 v
theorem sort_int (n : Int) : Sort1 (intV n) := by
  by_cases h : 99999999999 < n ∨ n < -99999999999
  · rw [intV_doubt h]; exact .other _ (by simp [doubt]) rfl
  · rw [intV_num h]; exact .num n 1 _ (qV_whole h).1 (qV_whole h).2.1
theorem sort_six (n : Int) : Sort1 (sixV n) := by
  rcases sixV_cases n with h | ⟨m, d, h, hs⟩
  · rw [h]; exact .other _ (by simp [doubt]) rfl
  · rw [h]
    obtain ⟨h1, ⟨x, h2, _⟩, _⟩ := qV_six hs
    exact .num m d x h1 h2
theorem sort_made (a n : Int) (s : List UInt8) : Sort1 (madeV a n s) := by
  unfold madeV
  (repeat' split)
  · exact .other _ (by simp [noV]) rfl
  · exact sort_int n
  · exact .txt s
  · exact .other _ (by simp [boolV]) rfl
  · exact .other _ (by simp [errV]) rfl
  · exact sort_six _
theorem Sort1.rows {v : V} (h : Sort1 v) : v.rows = [] := by cases h <;> first | rfl | assumption
theorem Sort1.five {v : V} (h : Sort1 v) : ¬ v.kind = 5 := by
  cases h with
  | txt => simp [strV]
  | num => simp [Go.Abs.num]
  | other _ h => exact h.2.2
theorem made_text (a n : Int) (s : List UInt8) (hs : s.length ≤ 1000) : (madeV a n s).text.length ≤ 1000 := by
  unfold madeV
  (repeat' split)
  · simp [noV]
  · unfold intV; split <;> simp [doubt]
  · exact hs
  · simp [boolV]
  · have : ∀ k (h : k < 7), (errsL[k]'h).length ≤ 1000 := by decide
    exact this _ _
  · rcases sixV_cases (clampI n) with h | ⟨m, d, h, _⟩ <;> rw [h] <;> simp [doubt, num]
end Go.Abs
