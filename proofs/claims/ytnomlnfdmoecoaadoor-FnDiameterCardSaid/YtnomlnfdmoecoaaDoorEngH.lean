/- The engine, part H: what is only read; rows of elements; slices that come in. -/
import Derived.Test.YtnomlnfdmoecoaaDoorEngF
import Derived.Deep.Slices
import Derived.ChangeArms
import Derived.ChangeShapes
import Derived.Below
set_option linter.unusedVariables false
set_option linter.unusedSimpArgs false
namespace Go.Proofs.Eng
open Go.RowKit
/-- What came in and is only read: n values, from block below B. -/
def Rd (w : World) (B : Nat) (A : Option Addr) (xs : List Value) : Prop := xs = [] ∨ ∃ g o, A = some ⟨g, o, none⟩ ∧ g < B ∧ ∀ (j : Nat) v, xs[j]? = some v → w.cell? ⟨g, o + j, none⟩ = some v
theorem Rd.goes {w w' : World} {L L' : Hp} {B : Nat} {A : Option Addr} {xs : List Value} (h : Rd w B A xs) (g : Goes w L w' L') (hL : ∀ k ∈ ids L, B ≤ k) : Rd w' B A xs := by
  rcases h with h | ⟨b, o, hA, hb, hc⟩
  · exact .inl h
  · refine .inr ⟨b, o, hA, hb, fun j v hv => ?_⟩
    have h1 := hc j v hv
    have hlt := World.block_lt_of_cell? w _ h1
    rw [← h1]
    exact World.cell?_of_block (w := w) (g.keep b hlt (fun hm => by have := hL b hm; omega))
theorem Rd.cell {C : Ctx} {Ls : List Hp} {B g o : Nat} {xs : List Value} (h : ∀ (j : Nat) v, xs[j]? = some v → C.w0.cell? ⟨g, o + j, none⟩ = some v) (hg : g < B) (hL : ∀ k ∈ ids C.L0, B ≤ k) {j : Nat} {v : Value} (hv : xs[j]? = some v) : Cell C Ls ⟨g, o + j, none⟩ v :=
  cell_of_old (h j v hv) (fun hm => by have := hL g hm; omega)
theorem Rd.now {w0 w : World} {L : Hp} {A : Option Addr} {xs : List Value} (h : Rd w0 w0.heap.size A xs) (g : Goes w0 [] w L) : Rd w w.heap.size A xs := by
  rcases h.goes g (fun k hk => by simp [ids] at hk) with h | ⟨b, o, h1, h2, h3⟩
  · exact .inl h
  · exact .inr ⟨b, o, h1, Nat.lt_of_lt_of_le h2 g.size, h3⟩
theorem Own.rd {w : World} {e size n n' c : Nat} {A : Option Addr} {xs : List Value} {l : Hp} (h : Own e size (.slice A n' c) n xs l) (hw : At w l) : Rd w w.heap.size A xs := by
  rcases h.2 with ⟨h1, h2, h3⟩ | ⟨g, cap, cur, h1, rfl, h2, h3, h4, h5⟩
  · have := h.1
    subst h2
    simp at this
    exact .inl this
  · simp only [Value.slice.injEq] at h1
    refine .inr ⟨g, 0, h1.1, hw.lt (by simp [ids]), fun j v hv => ?_⟩
    have hb := hw.here ⟨g, .cells cur e (0, 0)⟩ (by simp)
    rw [cell_of_heap hb, Nat.zero_add]
    rw [← h5, List.getElem?_take] at hv
    split at hv
    · rw [← Array.getElem?_toList]; exact hv
    · cases hv
theorem At.item {w : World} {Ls R : List Hp} {l : Hp} (h : At w Ls.flatten) (p : Pick Ls l R) : At w l := by
  have hp := p.perm
  refine ⟨?_, fun x hx => h.here x (hp.mem_iff.2 (List.mem_append.2 (.inl hx)))⟩
  have := (hp.map Blk.id).nodup_iff.1 h.nd
  rw [List.map_append, List.nodup_append] at this
  exact this.1
theorem flat_get {α : Type} (f : α → List Value) (k : Nat) (hk : ∀ x, (f x).length = k) (l : List α) (i : Nat) (h : i < l.length) (j : Nat) (v : Value) (hv : (f l[i])[j]? = some v) : (l.flatMap f)[i * k + j]? = some v := by
  have hj : j < k := by
    have := (List.getElem?_eq_some_iff.1 hv).1
    rw [hk] at this
    exact this
  induction l generalizing i with
  | nil => simp at h
  | cons x r ih =>
    rw [List.flatMap_cons]
    have hx := hk x
    cases i with
    | zero =>
      rw [Nat.zero_mul, Nat.zero_add, List.getElem?_append_left (by omega)]
      exact hv
    | succ i =>
      have e : (i + 1) * k = i * k + k := by rw [Nat.add_mul, Nat.one_mul]
      rw [List.getElem?_append_right (by omega)]
      have := ih i (by simpa using h) (by simpa using hv)
      rw [← this]
      congr 1
      omega
theorem flat_len {α : Type} (f : α → List Value) (k : Nat) (hk : ∀ x, (f x).length = k) (l : List α) : (l.flatMap f).length = l.length * k := by
  induction l with
  | nil => simp
  | cons x r ih => rw [List.flatMap_cons, List.length_append, ih, hk, List.length_cons, Nat.add_mul, Nat.one_mul, Nat.add_comm]
theorem op_neqb0 {C : Ctx} {ks : List Kont} {E : Env} {Ls : List Hp} {ops : Array Oper} {rest : List Oper} {ty : Nat} {pos : String} {af : Array Edge} {d bt bt' : Nat} {x y : Operand} [c : TBool C.P bt] {b : Bool} (hn : Nat.blt d C.fn.ntmps = true) (hx : ev E x = some (.bool b)) (hy : ev E y = some (.bool b)) (k : Ops C ops rest ks ((d, .bool false) :: E) Ls) : Ops C ops (⟨some d, .binOp .neq bt x y bt', ty, pos, af, none⟩ :: rest) ks E Ls :=
  op_neqb hn hx hy (by rw [show (!(b == b)) = false by simp]; exact k)
theorem op_mulN {C : Ctx} {ks : List Kont} {E : Env} {Ls : List Hp} {ops : Array Oper} {rest : List Oper} {ty : Nat} {pos : String} {af : Array Edge} {d bt bt' : Nat} {x y : Operand} {m n : Nat} {ik : IntKind} (hn : Nat.blt d C.fn.ntmps = true) (hx : ev E x = some (.int ik (m : Nat))) (hy : ev E y = some (.int ik (n : Nat))) (h : ((m * n : Nat) : Int) ≤ kHi ik) (k : Ops C ops rest ks ((d, .int ik (m * n : Nat)) :: E) Ls) : Ops C ops (⟨some d, .binOp .mul bt x y bt', ty, pos, af, none⟩ :: rest) ks E Ls :=
  op_mul hn hx hy ⟨by rw [← Int.natCast_mul]; have : kLo ik ≤ 0 := by cases ik <;> decide
                      omega, by rw [← Int.natCast_mul]; exact h⟩ (by rw [← Int.natCast_mul]; exact k)
/-- A block that is only read. -/
def RdB (w : World) (B q : Nat) (cs : List Value) : Prop := q < B ∧ ∀ (j : Nat) v, cs[j]? = some v → w.cell? ⟨q, j, none⟩ = some v
theorem RdB.cell {C : Ctx} {Ls : List Hp} {B q j : Nat} {cs : List Value} {v : Value} (h : RdB C.w0 B q cs) (hL : ∀ k ∈ ids C.L0, B ≤ k) (hv : cs[j]? = some v) : Cell C Ls ⟨q, j, none⟩ v :=
  cell_of_old (h.2 j v hv) (fun hc => by have := hL _ hc; have := h.1; omega)
theorem RdB.of {w : World} {l : Hp} {q t : Nat} {cs : List Value} {fr : Nat × Nat} (hw : At w l) (hm : (⟨q, .cells cs.toArray t fr⟩ : Blk) ∈ l) : RdB w w.heap.size q cs := by
  refine ⟨hw.lt (List.mem_map.2 ⟨_, hm, rfl⟩), fun j v hv => ?_⟩
  rw [cell_of_heap (hw.here _ hm)]
  simpa using hv
theorem RdB.now {w0 w : World} {L : Hp} {q : Nat} {cs : List Value} (h : RdB w0 w0.heap.size q cs) (g : Goes w0 [] w L) : RdB w w.heap.size q cs := by
  refine ⟨Nat.lt_of_lt_of_le h.1 g.size, fun j v hv => ?_⟩
  have := h.2 j v hv
  have e : w.cell? ⟨q, j, none⟩ = w0.cell? ⟨q, j, none⟩ := by
    simp only [World.cell?, g.keep q h.1 (by simp [ids])]
  rw [e]; exact this
theorem Own.isSlice {e size n : Nat} {v : Value} {xs : List Value} {l : Hp} (h : Own e size v n xs l) : ∃ A c, v = .slice A n c := by
  rcases h.2 with ⟨h1, h2, h3⟩ | ⟨g, cap, cur, h1, h2, _⟩
  · exact ⟨none, 0, by rw [h1, h2]⟩
  · exact ⟨_, _, h1⟩
theorem zeros_flat (n k : Nat) (hk : 0 < k) (zs : List Value) (hz : zs.length = k) : (Array.range (n * k)).map (fun i => zs.toArray[i % k]!) = ((List.replicate n zs).flatten).toArray := by
  apply Array.ext'
  have e : (List.replicate n zs).flatten = (List.replicate n ()).flatMap (fun _ => zs) := by
    induction n with
    | zero => rfl
    | succ n ih => simp only [List.replicate_succ, List.flatten_cons, List.flatMap_cons, ih]
  have hlen := flat_len (fun _ : Unit => zs) k (fun _ => hz) (List.replicate n ())
  rw [e]
  simp only [Array.toList_map, Array.toList_range]
  apply List.ext_getElem?
  intro i
  by_cases hi : i < n * k
  · have hd : i / k < n := (Nat.div_lt_iff_lt_mul hk).2 hi
    have hm : i % k < zs.length := by rw [hz]; exact Nat.mod_lt _ hk
    have := flat_get (fun _ : Unit => zs) k (fun _ => hz) (List.replicate n ()) (i / k) (by simpa using hd) (i % k) zs[i % k] (by simp [hm])
    rw [show i / k * k + i % k = i by rw [Nat.mul_comm]; exact Nat.div_add_mod i k] at this
    rw [this]
    simp [hi, hm]
  · rw [List.getElem?_eq_none (by simp; omega), List.getElem?_eq_none (by rw [hlen]; simp; omega)]
theorem val_neqb0 {C : Ctx} {E : Env} {ty : Nat} {pos : String} {af : Array Edge} {d : Option Nat} {gg : Option (Nat × Bool)} {bt bt' : Nat} {x y : Operand} [c : TBool C.P bt] {b : Bool} (hx : ev E x = some (.bool b)) (hy : ev E y = some (.bool b)) : Val C E ⟨d, .binOp .neq bt x y bt', ty, pos, af, gg⟩ (.bool false) := by
  have := val_neqb (C := C) (E := E) (x := x) (y := y) (d := d) (ty := ty) (pos := pos) (af := af) (gg := gg) (bt' := bt') (bt := bt) hx hy
  rwa [show (!(b == b)) = false by simp] at this
theorem RdB.has {w : World} {Ls : List Hp} {q t : Nat} {cs : List Value} {fr : Nat × Nat} (hw : At w Ls.flatten) (h : Has Ls q (.cells cs.toArray t fr)) : RdB w w.heap.size q cs := RdB.of hw h.mem
theorem op_storeE {C : Ctx} {ks : List Kont} {E : Env} {Ls Ls' : List Hp} {ops : Array Oper} {rest : List Oper} {ty : Nat} {pos : String} {af : Array Edge}
    {x y : Operand} {g o t n : Nat} {cs cs' vs : Array Value} {lt : Nat} [c : TAgg C.P lt n] (e : (cs.toList.take o ++ vs.toList ++ cs.toList.drop (o + vs.size)).toArray = cs') (hx : ev E x = some (.pointer (some ⟨g, o, none⟩))) (hy : ev E y = some (.agg vs)) (hl : vs.size = n) (h1 : ∀ v ∈ vs.toList, v.oneCell' = true)
    (hs : Swap Ls [⟨g, .cells cs t (0, 0)⟩] [⟨g, .cells cs' t (0, 0)⟩] Ls') (ho : o + vs.size ≤ cs.size) (k : Ops C ops rest ks E Ls') : Ops C ops (⟨none, .store lt x y, ty, pos, af, none⟩ :: rest) ks E Ls :=
  op_storeN hx hy hl h1 (by rw [e]; exact hs) ho k
theorem mid_get (pre mid post : List Value) (o j : Nat) (v : Value) (hp : pre.length = o) (hv : mid[j]? = some v) : aget (pre ++ mid ++ post).toArray (o + j) = some v := by
  have hj := (List.getElem?_eq_some_iff.1 hv).1
  rw [aget_eq]
  simp only [List.getElem?_toArray]
  rw [List.getElem?_append_left (by simp; omega), List.getElem?_append_right (by omega), show o + j - pre.length = j by omega]
  exact hv
theorem mid_set (pre mid mid' post : List Value) (o : Nat) (hp : pre.length = o) (hl : mid.length = mid'.length) :
    ((pre ++ mid ++ post).toArray.toList.take o ++ mid'.toArray.toList ++ (pre ++ mid ++ post).toArray.toList.drop (o + mid'.toArray.size)).toArray = (pre ++ mid' ++ post).toArray := by
  subst hp
  simp [← hl]
theorem At.le {w : World} {l l' : Hp} (h : At w l) (hl : Le l' l) : At w l' := ((Goes.refl h).le hl).now
theorem aget_lt {cs : Array Value} {i : Nat} {v : Value} (h : aget cs i = some v) : i < cs.size := by
  rw [aget_eq] at h
  exact (Array.getElem?_eq_some_iff.1 h).1
theorem op_sliceLHz {C : Ctx} {ks : List Kont} {E : Env} {Ls : List Hp} {ops : Array Oper} {rest : List Oper} {ty : Nat} {pos : String} {af : Array Edge} {d : Nat}
    {x y y' : Operand} {t e size bytes : Nat} {z : Value} [c : TSlice C.P t e size bytes z] {g o len cap : Nat} {ik ik' : IntKind} {l h : Int} (l' h' : Nat)
    (hn : Nat.blt d C.fn.ntmps = true) (hx : ev E x = some (.slice (some ⟨g, o, none⟩) len cap)) (hy : ev E y = some (.int ik l)) (hy' : ev E y' = some (.int ik' h)) (hl : l = l') (hh : h = h') (hb : l' < cap ∧ l' ≤ h' ∧ h' ≤ cap)
    (k : Ops C ops rest ks ((d, .slice (some ⟨g, o + l' * size, none⟩) (h' - l') (cap - l')) :: E) Ls) : Ops C ops (⟨some d, .slice t x (some y) (some y') none, ty, pos, af, none⟩ :: rest) ks E Ls := by
  subst hl; subst hh
  exact op_sliceLH hn hx hy hy' hb k
theorem Own.cut {e n m cap : Nat} {A : Option Addr} {xs : List Value} {l : Hp} (h : Own e 1 (.slice A n cap) n xs l) (hm : m ≤ n) : Own e 1 (.slice A m cap) m (xs.take m) l := by
  have hx := h.1
  refine ⟨by rw [List.length_take]; omega, ?_⟩
  rcases h.2 with ⟨h1, h2, h3⟩ | ⟨g, cap', cur, h1, h2, h3, h4, h5, h6⟩
  · simp only [Value.slice.injEq] at h1
    obtain ⟨rfl, h7, rfl⟩ := h1
    have : m = 0 := by omega
    subst this
    exact .inl ⟨rfl, rfl, h3⟩
  · simp only [Value.slice.injEq] at h1
    obtain ⟨rfl, _, rfl⟩ := h1
    refine .inr ⟨g, cap, cur, rfl, h2, by omega, h4, h5, ?_⟩
    rw [← h6, List.take_take]
    congr 1
    omega
theorem Own.cutN {e size n m cap : Nat} {A : Option Addr} {xs : List Value} {l : Hp} (h : Own e size (.slice A n cap) n xs l) (hm : m ≤ n) : Own e size (.slice A m cap) m (xs.take (m * size)) l := by
  have hx := h.1
  have hle : m * size ≤ n * size := Nat.mul_le_mul_right _ hm
  refine ⟨by rw [List.length_take]; omega, ?_⟩
  rcases h.2 with ⟨h1, h2, h3⟩ | ⟨g, cap', cur, h1, h2, h3, h4, h5, h6⟩
  · simp only [Value.slice.injEq] at h1
    obtain ⟨rfl, h7, rfl⟩ := h1
    have : m = 0 := by omega
    subst this
    exact .inl ⟨rfl, rfl, h3⟩
  · simp only [Value.slice.injEq] at h1
    obtain ⟨rfl, _, rfl⟩ := h1
    refine .inr ⟨g, cap, cur, rfl, h2, by omega, h4, h5, ?_⟩
    rw [← h6, List.take_take]
    congr 1
    omega
/-- A row of the call's own that has elements, with its block. -/
theorem Own.openN {e size n : Nat} {v : Value} {xs : List Value} {l : Hp} (h : Own e size v n xs l) (hn : 0 < n) : ∃ g cap cur, v = .slice (some ⟨g, 0, none⟩) n cap ∧ l = [⟨g, .cells cur e (0, 0)⟩] ∧ n ≤ cap ∧ cap ≤ maxLen ∧ cur.size = cap * size ∧ (∀ (j : Nat) u, xs[j]? = some u → aget cur j = some u) ∧ xs.length = n * size := by
  rcases h.2 with ⟨_, h0, _⟩ | ⟨g, cap, cur, rfl, rfl, h1, h2, h3, h4⟩
  · omega
  · refine ⟨g, cap, cur, rfl, rfl, h1, h2, h3, fun j u hj => ?_, h.1⟩
    rw [aget_eq]
    rw [← h4, List.getElem?_take] at hj
    split at hj
    · simpa using hj
    · cases hj
open Go.Deep Go.ChangeShapes
section
variable {H : Type} {enc : TypeId × Value → H} {P : Program} {w : World} {held : Bool}
theorem spotQ {a : Addr} {v : Value} (h : w.cell? (a.add 0) = some v) : ∃ b o, a = ⟨b, o, none⟩ ∧ b < w.heap.size := by
  obtain ⟨b, o, spot⟩ := a
  have hs : spot = none := by simpa [Addr.add] using World.cell?_spot h
  subst hs
  exact ⟨b, o, rfl, World.block_lt_of_cell? w _ h⟩
theorem flat_at {α : Type} (f : α → List Value) (k : Nat) (hk : ∀ x, (f x).length = k) (h0 : 0 < k) (l : List α) (j : Nat) (h : j < l.length * k) : (l.flatMap f)[j]? = (f (l[j / k]'((Nat.div_lt_iff_lt_mul h0).2 h)))[j % k]? := by
  have hm : j % k < (f (l[j / k]'((Nat.div_lt_iff_lt_mul h0).2 h))).length := by rw [hk]; exact Nat.mod_lt _ h0
  have := flat_get f k hk l (j / k) ((Nat.div_lt_iff_lt_mul h0).2 h) (j % k) _ (List.getElem?_eq_getElem hm)
  rw [show j / k * k + j % k = j by rw [Nat.mul_comm]; exact Nat.div_add_mod j k] at this
  rw [this, List.getElem?_eq_getElem hm]
theorem takeQ {cs : List Value} {i : Nat} {v : Value} (h : (cs.drop i).take 1 = [v]) : cs[i]? = some v := by
  have h0 : ((cs.drop i).take 1)[0]? = some v := by rw [h]; rfl
  rw [List.getElem?_take, if_pos (by omega), List.getElem?_drop, Nat.add_zero] at h0
  exact h0
/-- A slice that comes in, of elements of k cells each. -/
theorem open_list {α : Type} [Inhabited α] {t e : TypeId} {k : Nat} (f : α → List Value) (hk : ∀ x, (f x).length = k) (Good : α → Prop) (h0 : 0 < k) (ht : P.underlying t = some (.slice e)) (hc : P.cellsOf e = k)
    (hel : ∀ fuel cs x, DataW.trod enc P w 0 (fun _ => true) held fuel e cs = some x → ∃ r, Good r ∧ cs = f r) {fuel : Nat} {cs : List Value} {x : DataW H × List MemPlace}
    (h : DataW.trod enc P w 0 (fun _ => true) held fuel t cs = some x) : ∃ (A : Option Addr) (len cap : Nat) (raw : List α), cs = [.slice A len cap] ∧ raw.length = len ∧ len ≤ maxLen ∧ Rd w w.heap.size A (raw.flatMap f) ∧ ∀ r ∈ raw, Good r := by
  rcases open_slice ht h with ⟨rfl, _⟩ | ⟨a, l, c, m, n, D, Pl, rfl, _, hl, hm, hmm, _, hx⟩
  · exact ⟨none, 0, 0, [], rfl, rfl, Nat.zero_le _, .inl rfl, fun z hz => by cases hz⟩
  · simp only [if_true] at hmm
    subst hmm
    have hall : ∀ i, i < l → ∃ r : α, Good r ∧ ∀ j, j < k → w.cell? (a.add (i * k + j)) = (f r)[j]? := by
      intro i hi
      obtain ⟨cs', h1, h2⟩ := hx i (by omega)
      obtain ⟨r, hr, rfl⟩ := hel _ _ _ h2
      rw [hc] at h1
      obtain ⟨_, _, h3⟩ := World.cells?_some h1
      exact ⟨r, hr, fun j hj => by rw [← h3 j hj, add_add]⟩
    obtain ⟨g, hgx⟩ := choose_lt hall
    refine ⟨some a, l, _, (List.range l).map g, rfl, by simp, by omega, ?_, ?_⟩
    · by_cases hl0 : l = 0
      · subst hl0; exact .inl rfl
      · have hc0 := (hgx 0 (by omega)).2 0 h0
        have hlt : 0 < (f (g 0)).length := by rw [hk]; exact h0
        rw [List.getElem?_eq_getElem hlt, Nat.zero_mul, Nat.zero_add] at hc0
        obtain ⟨b, o, rfl, hb⟩ := spotQ hc0
        refine .inr ⟨b, o, rfl, hb, fun j v hv => ?_⟩
        have hj : j < l * k := by
          have := (List.getElem?_eq_some_iff.1 hv).1
          rw [flat_len f k hk] at this
          simpa using this
        rw [flat_at f k hk h0 _ j (by simpa using hj)] at hv
        have h1 := (hgx (j / k) ((Nat.div_lt_iff_lt_mul h0).2 hj)).2 (j % k) (Nat.mod_lt _ h0)
        rw [show j / k * k + j % k = j by rw [Nat.mul_comm]; exact Nat.div_add_mod j k, add_addr] at h1
        rw [h1, ← hv]
        simp
    · intro r hr
      obtain ⟨i, hi, rfl⟩ := List.mem_map.1 hr
      exact (hgx i (by simpa using hi)).1
end
end Go.Proofs.Eng
