/- The engine, part L: elements of arrays in memory; tests by an equation. -/
import Derived.Test.YtnomlnfdmoecoaaDoorEngK
set_option linter.unusedVariables false
set_option linter.unusedSimpArgs false
namespace Go.Proofs.Eng
open Go.RowKit
section
variable {C : Ctx} {ks : List Kont} {E : Env} {Ls Ls' : List Hp} {ops : Array Oper} {rest : List Oper}
variable {ty : Nat} {pos : String} {af : Array Edge} {d : Nat}
/-- The address of an element of an array in memory. -/
theorem val_indexP {x y : Operand} {t len e size : Nat} [c : TArr C.P t len e size] {g o : Nat} {ik : IntKind} {i : Int} {dd : Option Nat} {gg : Option (Nat × Bool)}
    (hx : ev E x = some (.pointer (some ⟨g, o, none⟩))) (hy : ev E y = some (.int ik i)) (hb : 0 ≤ i ∧ i < len) : Val C E ⟨dd, .indexAddr t x y, ty, pos, af, gg⟩ (.pointer (some ⟨g, o + i.toNat * size, none⟩)) := ⟨fun a f w => by
    have h2 := c.h2
    cases hi : C.P.info? e with
    | none => simp [hi] at h2
    | some ii =>
      simp [hi] at h2
      simp [execOp, f.ev hx, f.ev hy, Instr.indexAt, Instr.sureAddr, asIntOf, underlying, c.h1, sizeOf, typeInfo, hi, h2, hb.1, hb.2, add_addr]⟩
theorem op_indexP {x y : Operand} {t len e size : Nat} [c : TArr C.P t len e size] {g o : Nat} {ik : IntKind} {i : Int}
    (hn : Nat.blt d C.fn.ntmps = true) (hx : ev E x = some (.pointer (some ⟨g, o, none⟩))) (hy : ev E y = some (.int ik i)) (hb : 0 ≤ i ∧ i < len)
    (k : Ops C ops rest ks ((d, .pointer (some ⟨g, o + i.toNat * size, none⟩)) :: E) Ls) : Ops C ops (⟨some d, .indexAddr t x y, ty, pos, af, none⟩ :: rest) ks E Ls :=
  ops_pure hn (fun a w f gs => (val_indexP (C := C) (E := E) (ty := ty) (pos := pos) (af := af) (dd := some d) (gg := none) hx hy hb).out a f w) k
/-- An operation whose value is known without the memory. -/
theorem op_val {op : Op} {v : Value} (hn : Nat.blt d C.fn.ntmps = true) (hv : Val C E ⟨some d, op, ty, pos, af, none⟩ v) (k : Ops C ops rest ks ((d, v) :: E) Ls) : Ops C ops (⟨some d, op, ty, pos, af, none⟩ :: rest) ks E Ls :=
  ops_pure hn (fun a w f gs => hv.out a f w) k
theorem op_valAt {op : Op} {v : Value} (hn : Nat.blt d C.fn.ntmps = true) (hv : ValAt C E Ls ⟨some d, op, ty, pos, af, none⟩ v) (k : Ops C ops rest ks ((d, v) :: E) Ls) : Ops C ops (⟨some d, op, ty, pos, af, none⟩ :: rest) ks E Ls :=
  ops_pure hn (fun a w f gs => hv.out a w f gs) k
variable {bt bt' : Nat} {x y : Operand} {ik : IntKind} {m n : Int} {gg : Option (Nat × Bool)} {dd : Option Nat}
theorem val_cmpB {op : BinOp} {b : Bool} (hb : cmp op m n = b) (ho : isCmp op = true) (hx : ev E x = some (.int ik m)) (hy : ev E y = some (.int ik n)) : Val C E ⟨dd, .binOp op bt x y bt', ty, pos, af, gg⟩ (.bool b) := by
  rw [← hb]; exact val_cmp ho hx hy
theorem val_convE {s e : Nat} {ik' : IntKind} {r : Int} [c : TInt C.P e ik'] [c' : TInt C.P s ik] (hx : ev E x = some (.int ik m)) (hr : ik'.wrap m = r) : Val C E ⟨dd, .convert s e x, ty, pos, af, gg⟩ (.int ik' r) := by
  rw [← hr]; exact val_convw hx
theorem val_bitsE {op : BinOp} {r : Int} (ho : isBits op = true) (hx : ev E x = some (.int ik m)) (hy : ev E y = some (.int ik n)) (hr : bitop op ik m n = r) : Val C E ⟨dd, .binOp op bt x y bt', ty, pos, af, gg⟩ (.int ik r) := by
  rw [← hr]; exact val_bits ho hx hy
theorem val_complE {r : Int} (hx : ev E x = some (.int ik m)) (hr : bitop .xor ik (if ik.signed = true then -1 else ik.max) m = r) : Val C E ⟨dd, .unOp .xor bt x, ty, pos, af, gg⟩ (.int ik r) := ⟨fun a f w => by subst hr; simp [execOp, f.ev hx, Op.unary, Op.intBits, bitop]⟩
theorem val_shlE {yk : IntKind} {r : Int} (hx : ev E x = some (.int ik m)) (hy : ev E y = some (.int yk n)) (h : 0 ≤ n) (hr : ik.wrap (m * 2 ^ (min n.toNat ik.bits)) = r) : Val C E ⟨dd, .binOp .shl bt x y bt', ty, pos, af, gg⟩ (.int ik r) := by
  rw [← hr]; exact val_shl hx hy h
theorem val_shrE {yk : IntKind} {r : Int} (hx : ev E x = some (.int ik m)) (hy : ev E y = some (.int yk n)) (h : 0 ≤ n) (hr : m.fdiv (2 ^ (min n.toNat ik.bits)) = r) : Val C E ⟨dd, .binOp .shr bt x y bt', ty, pos, af, gg⟩ (.int ik r) := by
  rw [← hr]; exact val_shr hx hy h
theorem val_sliceH {t e size bytes : Nat} {z : Value} [c : TSlice C.P t e size bytes z] {A : Option Addr} {len cap : Nat} {i : Int}
    (hx : ev E x = some (.slice A len cap)) (hy : ev E y = some (.int ik i)) (hb : 0 ≤ i ∧ i ≤ cap) : Val C E ⟨dd, .slice t x none (some y) none, ty, pos, af, gg⟩ (.slice A i.toNat cap) := ⟨fun a f w => by
    obtain ⟨ii, hi, hz0, hz1, hz2⟩ := infoParts c.h2
    have e : Option.map (fun x : Addr => x.add 0) A = A := by cases A <;> simp [add_zero_addr]
    simp [execOp, f.ev hx, f.ev hy, Instr.sliceAt, Instr.slice, Instr.sliceBounds, Instr.sliceBound, asIntOf, underlying, c.h1, sizeOf, typeInfo, hi, hz1, hb.1, hb.2, e]⟩
theorem val_sliceLH {t e size bytes : Nat} {z : Value} {y' : Operand} [c : TSlice C.P t e size bytes z] {g o len cap : Nat} {ik' : IntKind} {l h : Int} (l' h' : Nat)
    (hx : ev E x = some (.slice (some ⟨g, o, none⟩) len cap)) (hy : ev E y = some (.int ik l)) (hy' : ev E y' = some (.int ik' h)) (hl : l = l') (hh : h = h') (hb : l' < cap ∧ l' ≤ h' ∧ h' ≤ cap) :
    Val C E ⟨dd, .slice t x (some y) (some y') none, ty, pos, af, gg⟩ (.slice (some ⟨g, o + l' * size, none⟩) (h' - l') (cap - l')) := ⟨fun a f w => by
    subst hl; subst hh
    obtain ⟨ii, hi, hz0, hz1, hz2⟩ := infoParts c.h2
    have h1 : (l' : Int) ≤ h' := by omega
    have h2 : (h' : Int) ≤ cap := by omega
    have h3 : ¬ cap = l' := by omega
    simp [execOp, f.ev hx, f.ev hy, f.ev hy', Instr.sliceAt, Instr.slice, Instr.sliceBounds, Instr.sliceBound, asIntOf, underlying, c.h1, sizeOf, typeInfo, hi, hz1, h1, h2, h3, hb.2.1, hb.2.2, add_addr]⟩
end
/-- Values of one cell each. -/
def one1 : Value → Bool | .agg _ => false | _ => true
theorem one1_cells {v : Value} (h : one1 v = true) : v.cells = #[v] := by cases v <;> simp_all [one1, Value.cells]
theorem ones {vs : List Value} (h : vs.all one1 = true) : ∀ v ∈ vs, v.cells = #[v] := fun v hv => one1_cells (List.all_eq_true.1 h v hv)
def oneC : Value → Bool | v => v.oneCell'
theorem onesC {vs : List Value} (h : vs.all Value.oneCell' = true) : ∀ v ∈ vs, v.oneCell' = true := fun v hv => List.all_eq_true.1 h v hv
theorem fold_set : ∀ (l : List Value) (k : Nat) (pre mid post : List Value), mid.length = l.length → ∀ off, pre.length = off + k → (l.zipIdx k).foldl (fun (cs : Array Value) (p : Value × Nat) => cs.setIfInBounds (off + p.2) p.1) (pre ++ mid ++ post).toArray = (pre ++ l ++ post).toArray := by
  intro l
  induction l with
  | nil => intro k pre mid post hm off _; simp at hm; simp [hm]
  | cons x r ih =>
    intro k pre mid post hm off hp
    cases mid with
    | nil => simp at hm
    | cons c mid' =>
      simp only [List.zipIdx_cons, List.foldl_cons]
      have e : (pre ++ c :: mid' ++ post).toArray.setIfInBounds (off + k) x = (pre ++ [x] ++ mid' ++ post).toArray := by
        rw [← hp]; simp
      rw [e, ih (k + 1) (pre ++ [x]) mid' post (by simpa using hm) off (by simp; omega)]
      simp
theorem fill_full (size : Nat) : ∀ (vs : List Value) (k : Nat) (pre post : List Value), pre.length = k * size → post.length = vs.length * size → (∀ v ∈ vs, v.cells.size = size) →
    Instr.fill (fun i => some (i * size, size)) (pre ++ post).toArray ((List.range' k vs.length).zip vs) = some (pre ++ vs.flatMap (fun v => v.cells.toList)).toArray := by
  intro vs
  induction vs with
  | nil => intro k pre post h1 h2 _; simp at h2; simp [Instr.fill, h2]
  | cons v r ih =>
    intro k pre post h1 h2 h3
    have hv := h3 v (by simp)
    have hl : post.length = size + r.length * size := by rw [h2, List.length_cons, Nat.add_mul, Nat.one_mul, Nat.add_comm]
    rw [List.length_cons, List.range'_succ, List.zip_cons_cons]
    simp only [Instr.fill]
    have hc : (decide (v.cells.size ≠ size) || decide (k * size + v.cells.size > (pre ++ post).toArray.size)) = false := by
      simp [hv, h1]; omega
    rw [hc]
    simp only [Bool.false_eq_true, if_false]
    have e := fold_set v.cells.toList 0 pre (post.take size) (post.drop size) (by simp [hv]; omega) (k * size) (by omega)
    rw [List.append_assoc, List.take_append_drop] at e
    have e2 : Array.foldl (fun (cs : Array Value) (p : Value × Nat) => cs.setIfInBounds (k * size + p.2) p.1) (pre ++ post).toArray v.cells.zipIdx = (pre ++ v.cells.toList ++ post.drop size).toArray := by
      rw [← e, ← Array.foldl_toList]; simp
    show Instr.fill _ (Array.foldl (fun (cs : Array Value) (p : Value × Nat) => cs.setIfInBounds (k * size + p.2) p.1) (pre ++ post).toArray v.cells.zipIdx) _ = _
    rw [e2, ih (k + 1) (pre ++ v.cells.toList) (post.drop size) (by simp [hv, h1, Nat.add_mul]) (by simp; omega) (fun u hu => h3 u (by simp [hu]))]
    simp [List.flatMap_cons]
section
variable {C : Ctx} {ks : List Kont} {E : Env} {Ls Ls' : List Hp} {ops : Array Oper} {rest : List Oper}
variable {ty : Nat} {pos : String} {af : Array Edge} {d : Nat}
/-- A slice literal, all of whose elements are told in order. -/
theorem op_sliceC {t n e size bytes : Nat} {z : Value} [c : TSlice C.P t e size bytes z] {ps : Array (Nat × Operand)} {vs cs : List Value}
    (hn : Nat.blt d C.fn.ntmps = true) (hi : ps.toList.map (·.1) = List.range' 0 n) (hx : evs E (ps.toList.map (·.2)) = some vs) (hl : vs.length = n) (hz : (vs.all fun v => v.cells.size == size) = true) (hs : n * size ≤ 1000000) (hn0 : Nat.blt 0 n = true)
    (hc : vs.flatMap (fun v => v.cells.toList) = cs)
    (k : ∀ g, C.w0.heap.size ≤ g → Ops C ops rest ks ((d, .slice (some ⟨g, 0, none⟩) n n) :: E) ([⟨g, .cells cs.toArray e (0, 0)⟩] :: Ls)) : Ops C ops (⟨some d, .buildSlice t n ps, ty, pos, af, none⟩ :: rest) ks E Ls := by
  have h0 := c.h4
  have hn1 : 0 < n := Nat.lt_of_succ_le (Nat.le_of_ble_eq_true hn0)
  have hpos : 0 < n * size := Nat.mul_pos hn1 h0
  have hvs : ∀ v ∈ vs, v.cells.size = size := fun v hv => by simpa using List.all_eq_true.1 hz v hv
  refine op_sliceF hn hi hx (by omega) hs (zs := z.cells.toList) (by simp) (by rw [Array.length_toList]; exact c.h3) ?_ k
  subst hl
  have e : ((List.replicate vs.length z.cells.toList).flatten).length = vs.length * size := by simp [c.h3]
  have := fill_full size vs 0 [] (List.replicate vs.length z.cells.toList).flatten (by simp) e hvs
  simpa [hc] using this
end
section
variable {C : Ctx} {ks : List Kont} {E : Env} {Ls Ls' : List Hp} {ops : Array Oper} {rest : List Oper}
variable {ty : Nat} {pos : String} {af : Array Edge} {d : Nat}
/-- make([]T, n), T of one cell. -/
theorem op_make1 {x y : Operand} {t e bytes : Nat} {z : Value} [c : TSlice C.P t e 1 bytes z] {ik ik' : IntKind} {n : Nat}
    (hn : Nat.blt d C.fn.ntmps = true) (hx : ev E x = some (.int ik n)) (hy : ev E y = some (.int ik' n)) (hz : z.cells = #[z]) (hb : n * bytes ≤ 281474976710656) (hb2 : n ≤ 9223372036854775807)
    (k : ∀ g, C.w0.heap.size ≤ g → Ops C ops rest ks ((d, .slice (some ⟨g, 0, none⟩) n n) :: E) ([⟨g, .cells (List.replicate n z).toArray e (0, 0)⟩] :: Ls)) :
    Ops C ops (⟨some d, .makeSlice t x y, ty, pos, af, none⟩ :: rest) ks E Ls := by
  refine op_make hn hx hy hb hb2 (fun g hg => ?_)
  have e1 : (Array.range (n * 1)).map (fun i => z.cells[i % 1]!) = (List.replicate n z).toArray := by
    apply Array.ext'
    simp [hz]
    apply List.ext_getElem <;> simp
    intro i h1
    have e : i % 1 = 0 := by omega
    rw [e]; rfl
  rw [e1]
  exact k g hg
theorem op_makeC {x y : Operand} {t e bytes : Nat} {z : Value} [c : TSlice C.P t e 1 bytes z] {ik ik' : IntKind} {i : Int}
    (hn : Nat.blt d C.fn.ntmps = true) (hx : ev E x = some (.int ik i)) (hy : ev E y = some (.int ik' i)) (h0 : 0 ≤ i) (hz : z.cells = #[z]) (hb : i.toNat * bytes ≤ 281474976710656) (hb2 : i.toNat ≤ 9223372036854775807)
    (k : ∀ g, C.w0.heap.size ≤ g → Ops C ops rest ks ((d, .slice (some ⟨g, 0, none⟩) i.toNat i.toNat) :: E) ([⟨g, .cells (List.replicate i.toNat z).toArray e (0, 0)⟩] :: Ls)) :
    Ops C ops (⟨some d, .makeSlice t x y, ty, pos, af, none⟩ :: rest) ks E Ls := by
  have e1 : i = (i.toNat : Int) := by omega
  rw [e1] at hx hy
  exact op_make1 hn hx hy hz hb hb2 k
end
/-- Many ways come together behind the innermost frame. -/
theorem run_join1 {C : Ctx} {ks : List Kont} {E : Env} {Ls : List Hp} {α : Type} (E' : α → Env) (H' : α → List Hp) (φ : α → Prop) {k1 : Kont} {code : Code} (K : ∀ x, φ x → Fin C .normal ks (E' x) (H' x))
    (h : (∀ x, φ x → ∀ E Ls, Sub (E' x) E → Le (H' x).flatten Ls.flatten → Fin C .normal ks E Ls) → Run C code (k1 :: ks) E Ls) : Run C code (k1 :: ks) E Ls :=
  h fun x hx E Ls hE hL => (K x hx).weaken hE hL
theorem flat2 (a A B : Hp) (r : List Hp) : (a :: (A ++ B) :: r).flatten = (a :: A :: B :: r).flatten := by simp
theorem flat4 (a b c A B : Hp) : ([a, b, c, A ++ B] : List Hp).flatten = ([a, b, c, A, B] : List Hp).flatten := by simp
theorem val_eqIface {C : Ctx} {E : Env} {ty : Nat} {pos : String} {af : Array Edge} {dd : Option Nat} {gg : Option (Nat × Bool)} {bt bt' : Nat} {x : Operand} [c : TIface C.P bt] (hx : ev E x = some .nilIface) : Val C E ⟨dd, .binOp .eql bt x (.const .nilIface) bt', ty, pos, af, gg⟩ (.bool true) := ⟨fun a f w => by
    have e1 : a.eval (.const .nilIface) = .nilIface := rfl
    have e2 : (eqGuard .eql bt x (.const .nilIface) .nilIface .nilIface).run C.P w = .ok () w := by simp [eqGuard]
    simp only [execOp, f.ev hx, e1, Sem.run_bind, e2, Result.andThen_ok, binOp, equal_nilIface, Sem.run_pure]⟩
section
variable {C : Ctx} {ks : List Kont} {E : Env} {Ls : List Hp} {ops : Array Oper} {rest : List Oper} {ty : Nat} {pos : String} {af : Array Edge} {d : Nat}
theorem val_quoN {dd : Option Nat} {gg : Option (Nat × Bool)} {bt bt' : Nat} {x y : Operand} {ik : IntKind} {m n : Nat} (hx : ev E x = some (.int ik (m : Int))) (hy : ev E y = some (.int ik (n : Int))) (h : n ≠ 0) (hm : (m : Int) ≤ kHi ik) :
    Val C E ⟨dd, .binOp .quo bt x y bt', ty, pos, af, gg⟩ (.int ik ((m / n : Nat) : Int)) := by
  have := val_quo (C := C) (ty := ty) (pos := pos) (af := af) (d := dd) (gg := gg) (bt := bt) (bt' := bt') hx hy (show (n : Int) ≠ 0 by omega)
  have e : ((m : Int).tdiv n) = ((m / n : Nat) : Int) := by rw [Int.tdiv_eq_ediv_of_nonneg (by omega)]; rfl
  have hle : m / n ≤ m := Nat.div_le_self m n
  have hlo : kLo ik ≤ 0 := by cases ik <;> decide
  rw [e] at this
  generalize m / n = q at *
  rw [wrap_in (by omega) (by omega)] at this
  exact this
theorem op_quoN {bt bt' : Nat} {x y : Operand} {ik : IntKind} {m n : Nat} (hn : Nat.blt d C.fn.ntmps = true) (hx : ev E x = some (.int ik (m : Int))) (hy : ev E y = some (.int ik (n : Int))) (h : n ≠ 0) (hm : (m : Int) ≤ kHi ik)
    (k : Ops C ops rest ks ((d, .int ik ((m / n : Nat) : Int)) :: E) Ls) : Ops C ops (⟨some d, .binOp .quo bt x y bt', ty, pos, af, none⟩ :: rest) ks E Ls :=
  op_val hn (val_quoN hx hy h hm) k
theorem ops_off1 {op : Op} {d j : Nat} {b : Bool} (ho : offG ops E j b = true) (hn : Nat.blt d C.fn.ntmps = true)
    (k : Ops C ops rest ks ((d, undef) :: E) Ls) : Ops C ops (⟨some d, op, ty, pos, af, some (j, b)⟩ :: rest) ks E Ls := by
  refine ⟨fun a w f g => ?_⟩
  unfold wpList
  rw [offOk_spec (o := ⟨some d, op, ty, pos, af, some (j, b)⟩) f ho]
  simp only [Bool.false_eq_true, if_false]
  exact k.out _ w (f.put undef (Nat.lt_of_succ_le (Nat.le_of_ble_eq_true hn))) g
theorem ops_off0 {op : Op} {j : Nat} {b : Bool} (ho : offG ops E j b = true)
    (k : Ops C ops rest ks E Ls) : Ops C ops (⟨none, op, ty, pos, af, some (j, b)⟩ :: rest) ks E Ls := by
  refine ⟨fun a w f g => ?_⟩
  unfold wpList
  rw [offOk_spec (o := ⟨none, op, ty, pos, af, some (j, b)⟩) f ho]
  simp only [Bool.false_eq_true, if_false]
  exact k.out _ w f g
end
theorem Rd.cellE {C : Ctx} {Ls : List Hp} {B g o off : Nat} {xs : List Value} (h : ∀ (j : Nat) v, xs[j]? = some v → C.w0.cell? ⟨g, o + j, none⟩ = some v) (hg : g < B) (hL : ∀ k ∈ ids C.L0, B ≤ k) {j : Nat} (he : off = o + j) {v : Value} (hv : xs[j]? = some v) : Cell C Ls ⟨g, off, none⟩ v := by
  subst he; exact Rd.cell h hg hL hv
theorem RdB.cellE {C : Ctx} {Ls : List Hp} {B q off j : Nat} {cs : List Value} {v : Value} (h : RdB C.w0 B q cs) (hL : ∀ k ∈ ids C.L0, B ≤ k) (he : off = j) (hv : cs[j]? = some v) : Cell C Ls ⟨q, off, none⟩ v := by
  subst he; exact RdB.cell h hL hv
/-- What came in and is only read, some values of it. -/
theorem Rd.some {w : World} {B : Nat} {A : Option Addr} {xs : List Value} (h : Rd w B A xs) (hn : 0 < xs.length) : ∃ g o, A = some ⟨g, o, none⟩ ∧ g < B ∧ ∀ (j : Nat) v, xs[j]? = some v → w.cell? ⟨g, o + j, none⟩ = some v := by
  rcases h with h | h
  · subst h; simp at hn
  · exact h
theorem ops_join {C : Ctx} {ks : List Kont} {E : Env} {Ls : List Hp} {ops : Array Oper} {rest : List Oper} {α : Type} (E' : α → Env) (H' : α → List Hp) (φ : α → Prop) (K : ∀ x, φ x → Fin C .normal ks (E' x) (H' x))
    (h : (∀ x, φ x → ∀ E Ls, Sub (E' x) E → Le (H' x).flatten Ls.flatten → Fin C .normal ks E Ls) → Ops C ops rest ks E Ls) : Ops C ops rest ks E Ls :=
  h fun x hx E Ls hE hL => (K x hx).weaken hE hL
theorem le_flatMap {α : Type} {f : α → Hp} {l : List α} {x : α} (h : x ∈ l) : Le (f x) (l.flatMap f) := by
  obtain ⟨s, t, rfl⟩ := List.append_of_mem h
  refine ⟨s.flatMap f ++ t.flatMap f, ?_⟩
  simp only [List.flatMap_append, List.flatMap_cons]
  rw [← List.append_assoc, ← List.append_assoc]
  exact List.perm_append_comm.append_right _
/-- A cell of a block within one item of the known blocks. -/
theorem Pick.cell {C : Ctx} {Ls R : List Hp} {l : Hp} {g o t : Nat} {cs : Array Value} {fr : Nat × Nat} {v : Value} (p : Pick Ls l R) (hm : (⟨g, .cells cs t fr⟩ : Blk) ∈ l) (hv : aget cs o = some v) : Cell C Ls ⟨g, o, none⟩ v := fun w gs => by
  have hmem : (⟨g, .cells cs t fr⟩ : Blk) ∈ Ls.flatten := p.perm.mem_iff.2 (List.mem_append.2 (.inl hm))
  rw [cell_of_heap (gs.now.here _ hmem), ← aget_eq, hv]
end Go.Proofs.Eng
