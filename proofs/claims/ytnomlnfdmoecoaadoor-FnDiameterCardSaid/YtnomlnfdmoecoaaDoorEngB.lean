/- The engine, part B: what is asked of types, and the operations that only compute or read. -/
import Derived.Test.YtnomlnfdmoecoaaDoorEngA
import Derived.Laws.Cells
import Derived.Laws.Rows
import Derived.Laws.CopyRow
import Derived.Laws.Tables
import Derived.Maps.AppendAt
import Derived.Laws.OwnMore
set_option linter.unusedVariables false
namespace Go.Proofs.Eng
open Go.RowKit

/-! ### What is asked of types: facts of the loaded program, found by instances -/
class TOne (P : Program) (t : Nat) : Prop where
  h : (match P.underlying t, P.info? t with | some (.struct _), _ => false | some (.array _ _), _ => false | some _, some i => Nat.beq i.size 1 | _, _ => false) = true
class TAgg (P : Program) (t : Nat) (n : outParam Nat) : Prop where
  h : (match P.underlying t, P.info? t with | some (.struct _), some i => Nat.beq i.size n | some (.array _ _), some i => Nat.beq i.size n | _, _ => false) = true
class TField (P : Program) (s f : Nat) (off : outParam Nat) : Prop where
  h : (match P.underlying s with
    | some (.struct fs) => match fs[f]? with
      | some x => Nat.beq x.offset off && (match P.info? x.type with | some i => Nat.ble 1 i.size | none => false)
      | none => false
    | _ => false) = true
/-- A part of a struct: where it lies, how many cells it has, and whether it is itself a struct or an array. -/
class TPart (P : Program) (s f : Nat) (off size : outParam Nat) (agg : outParam Bool) : Prop where
  h : (match P.underlying s with
    | some (.struct fs) => match fs[f]? with
      | some x => Nat.beq x.offset off && (match P.info? x.type, P.underlying x.type with
        | some i, some (.struct _) => Nat.beq i.size size && agg
        | some i, some (.array _ _) => Nat.beq i.size size && agg
        | some i, some _ => Nat.beq i.size size && Nat.beq size 1 && !agg
        | _, _ => false)
      | none => false
    | _ => false) = true
class TSlice (P : Program) (t : Nat) (e size bytes : outParam Nat) (z : outParam Value) : Prop where
  h1 : P.underlying t = some (.slice e)
  h2 : (P.info? e).map (fun i => (i.zero, i.size, i.bytes)) = some (some z, size, bytes)
  h3 : z.cells.size = size
  h4 : 0 < size
class TArr (P : Program) (t : Nat) (len e size : outParam Nat) : Prop where
  h1 : P.underlying t = some (.array len e)
  h2 : (P.info? e).map (fun i => i.size) = some size
class TZero (P : Program) (t : Nat) (z : outParam Value) : Prop where
  h : (P.info? t).map (fun i => i.zero) = some (some z)
class TFn (P : Program) (f : Nat) : Prop where
  h : (match P.funcs[f]? with | some fn => !(fn.name == "runtime.NumGoroutine") && fn.body.isSome | none => false) = true

section
variable {P : Program} {w : World}
theorem isAgg_one {t : Nat} [c : TOne P t] : (isAgg t).run P w = .ok false w := by
  have := c.h
  unfold isAgg underlying
  cases h : P.underlying t with
  | none => simp [h] at this
  | some d => cases d <;> simp [h] at this ⊢ <;> rfl
theorem sizeOf_one {t : Nat} [c : TOne P t] : (sizeOf t).run P w = .ok 1 w := by
  have := c.h
  unfold sizeOf typeInfo
  cases h : P.underlying t with
  | none => simp [h] at this
  | some d =>
    cases hi : P.info? t with
    | none => cases d <;> simp [h, hi] at this
    | some i =>
      have e : i.size = 1 := by cases d <;> simp [h, hi] at this <;> exact this
      simp [hi, e]
theorem isAgg_agg {t n : Nat} [c : TAgg P t n] : (isAgg t).run P w = .ok true w := by
  have := c.h
  unfold isAgg underlying
  cases h : P.underlying t with
  | none => simp [h] at this
  | some d => cases d <;> simp [h] at this ⊢ <;> rfl
theorem sizeOf_agg {t n : Nat} [c : TAgg P t n] : (sizeOf t).run P w = .ok n w := by
  have := c.h
  unfold sizeOf typeInfo
  cases h : P.underlying t with
  | none => simp [h] at this
  | some d =>
    cases hi : P.info? t with
    | none => cases d <;> simp [h, hi] at this
    | some i =>
      have e : i.size = n := by cases d <;> simp [h, hi] at this <;> exact this
      simp [hi, e]
theorem add_addr (g o n : Nat) : (⟨g, o, none⟩ : Addr).add n = ⟨g, o + n, none⟩ := by
  unfold Addr.add
  split
  · rename_i h; subst h; rfl
  · rfl
theorem run_fieldAt {s f off g o : Nat} [c : TField P s f off] : (Instr.fieldAt s (.pointer (some ⟨g, o, none⟩)) f).run P w = .ok (.pointer (some ⟨g, o + off, none⟩)) w := by
  have := c.h
  unfold Instr.fieldAt underlying
  cases h : P.underlying s with
  | none => simp [h] at this
  | some d =>
    cases d <;> simp [h] at this ⊢
    rename_i fs
    cases hf : fs[f]? with
    | none => simp [hf] at this
    | some x =>
      simp [hf] at this ⊢
      obtain ⟨h1, h2⟩ := this
      cases hi : P.info? x.type with
      | none => simp [hi] at h2
      | some i =>
        simp [hi] at h2
        simp [Instr.sureAddr, fieldPlace, sizeOf, typeInfo, hi]
        rw [if_neg (by omega)]
        simp [add_addr, h1]
theorem cell_of_heap {g o : Nat} {cs : Array Value} {t : Nat} {fr : Nat × Nat} (h : w.heap[g]? = some (.cells cs t fr)) : w.cell? ⟨g, o, none⟩ = cs[o]? := cell_of_row w g o cs t fr h
end

def lget : List Value → Nat → Option Value
  | [], _ => none
  | v :: _, 0 => some v
  | _ :: r, n + 1 => lget r n
theorem lget_eq : ∀ (l : List Value) (n : Nat), lget l n = l[n]?
  | [], _ => by simp [lget]
  | _ :: _, 0 => by simp [lget]
  | _ :: r, n + 1 => by simp [lget, lget_eq r n]
/-- A cell of a block: computed in a way that leaves the very value. -/
def aget (cs : Array Value) (o : Nat) : Option Value := lget cs.toList o
theorem aget_eq (cs : Array Value) (o : Nat) : aget cs o = cs[o]? := by simp [aget, lget_eq]

/-! ### Looking into the known blocks -/
inductive Has : List Hp → Nat → Obj → Prop
  | here {g ob r} : Has ([⟨g, ob⟩] :: r) g ob
  | there {x r g ob} : Has r g ob → Has (x :: r) g ob
theorem Has.mem {Ls : List Hp} {g : Nat} {ob : Obj} (h : Has Ls g ob) : (⟨g, ob⟩ : Blk) ∈ Ls.flatten := by
  induction h with
  | here => simp
  | there _ ih => simp only [List.flatten_cons, List.mem_append]; exact .inr ih
inductive Swap : List Hp → Hp → Hp → List Hp → Prop
  | here {l l' r} : Swap (l :: r) l l' (l' :: r)
  | there {x r l l' r'} : Swap r l l' r' → Swap (x :: r) l l' (x :: r')
theorem Swap.perm {Ls l l' Ls'} (h : Swap Ls l l' Ls') : ∃ R, Ls.flatten.Perm (l ++ R) ∧ Ls'.flatten.Perm (l' ++ R) := by
  induction h with
  | @here l l' r => exact ⟨r.flatten, by simp, by simp⟩
  | @there x r l l' r' _ ih =>
    obtain ⟨R, h1, h2⟩ := ih
    refine ⟨x ++ R, ?_, ?_⟩
    · simp only [List.flatten_cons]
      exact (h1.append_left x).trans (by rw [← List.append_assoc, ← List.append_assoc]; exact List.perm_append_comm.append_right R)
    · simp only [List.flatten_cons]
      exact (h2.append_left x).trans (by rw [← List.append_assoc, ← List.append_assoc]; exact List.perm_append_comm.append_right R)
inductive Pick : List Hp → Hp → List Hp → Prop
  | here {l r} : Pick (l :: r) l r
  | there {x r l r'} : Pick r l r' → Pick (x :: r) l (x :: r')
theorem Pick.perm {Ls l R} (h : Pick Ls l R) : Ls.flatten.Perm (l ++ R.flatten) := by
  induction h with
  | here => simp
  | @there x r l r' _ ih =>
    simp only [List.flatten_cons]
    exact (ih.append_left x).trans (by rw [← List.append_assoc, ← List.append_assoc]; exact List.perm_append_comm.append_right _)
inductive Picks : List Hp → List Hp → List Hp → Prop
  | nil {Ls} : Picks Ls [] Ls
  | cons {Ls l R ls R'} : Pick Ls l R → Picks R ls R' → Picks Ls (l :: ls) R'
  | empty {Ls ls R} : Picks Ls ls R → Picks Ls ([] :: ls) R
theorem Picks.perm {Ls ls R} (h : Picks Ls ls R) : Ls.flatten.Perm (ls.flatten ++ R.flatten) := by
  induction h with
  | nil => simp
  | @cons Ls l R ls R' h _ ih =>
    refine h.perm.trans ?_
    simp only [List.flatten_cons, List.append_assoc]
    exact ih.append_left l
  | empty _ ih => simpa using ih
/-- Ls' is a part of Ls, item by item. -/
theorem le_of_picks {Ls ls R : List Hp} (h : Picks Ls ls R) : Le ls.flatten Ls.flatten := ⟨R.flatten, h.perm⟩

section
variable {C : Ctx} {ks : List Kont} {E : Env} {Ls : List Hp} {ops : Array Oper} {rest : List Oper}
variable {ty : Nat} {pos : String} {af : Array Edge}

theorem Ops.perm {L' : List Hp} (h : Ops C ops rest ks E L') (hp : Le L'.flatten Ls.flatten) : Ops C ops rest ks E Ls := h.weaken (Sub.refl _) hp

theorem ops_nil (h : Fin C .normal ks E Ls) : Ops C ops [] ks E Ls := ⟨fun a w f g => wpList_nil (h.out a w f g)⟩

/-- An operation that only yields a value. -/
theorem ops_pure {op : Op} {d : Nat} {v : Value} (hn : Nat.blt d C.fn.ntmps = true)
    (h : ∀ a w, Fits E C.fn.ntmps a → Goes C.w0 C.L0 w Ls.flatten → (execOp a.eval { dst := some d, op := op, type := ty, pos := pos, after := af, guard := none }).run C.P w = .ok (.value v) w)
    (k : Ops C ops rest ks ((d, v) :: E) Ls) : Ops C ops ({ dst := some d, op := op, type := ty, pos := pos, after := af, guard := none } :: rest) ks E Ls := by
  refine ⟨fun a w f g => ?_⟩
  refine wpList_plain rfl fun K hK => ?_
  unfold Oper.wp
  rw [h a w f g]
  exact hK _ _ (k.out _ _ (f.put v (Nat.lt_of_succ_le (by simpa [Nat.blt] using hn))) g)
/-- An operation that yields a value and changes the known blocks. -/
theorem ops_step {op : Op} {d : Nat} {v : Value} {Ls' : List Hp} (hn : Nat.blt d C.fn.ntmps = true)
    (h : ∀ a w, Fits E C.fn.ntmps a → Goes C.w0 C.L0 w Ls.flatten → ∃ w', (execOp a.eval { dst := some d, op := op, type := ty, pos := pos, after := af, guard := none }).run C.P w = .ok (.value v) w' ∧ Goes C.w0 C.L0 w' Ls'.flatten)
    (k : Ops C ops rest ks ((d, v) :: E) Ls') : Ops C ops ({ dst := some d, op := op, type := ty, pos := pos, after := af, guard := none } :: rest) ks E Ls := by
  refine ⟨fun a w f g => ?_⟩
  refine wpList_plain rfl fun K hK => ?_
  obtain ⟨w', h1, h2⟩ := h a w f g
  unfold Oper.wp
  rw [h1]
  exact hK _ _ (k.out _ _ (f.put v (Nat.lt_of_succ_le (by simpa [Nat.blt] using hn))) h2)
theorem ops_skip {op : Op} {Ls' : List Hp}
    (h : ∀ a w, Fits E C.fn.ntmps a → Goes C.w0 C.L0 w Ls.flatten → ∃ w', (execOp a.eval { dst := none, op := op, type := ty, pos := pos, after := af, guard := none }).run C.P w = .ok .skip w' ∧ Goes C.w0 C.L0 w' Ls'.flatten)
    (k : Ops C ops rest ks E Ls') : Ops C ops ({ dst := none, op := op, type := ty, pos := pos, after := af, guard := none } :: rest) ks E Ls := by
  refine ⟨fun a w f g => ?_⟩
  refine wpList_plain rfl fun K hK => ?_
  obtain ⟨w', h1, h2⟩ := h a w f g
  unfold Oper.wp
  rw [h1]
  exact hK _ _ (k.out _ _ f h2)

/-! ### Guards -/
theorem ops_guard_yes {o : Oper} {j : Nat} {b : Bool} {t : Nat} (ho : o.guard = some (j, b)) (ht : (ops[j]?).bind (·.dst) = some t) (hv : E.find t = some (.bool b))
    (k : Ops C ops ({ dst := o.dst, op := o.op, type := o.type, pos := o.pos, after := o.after, guard := none } :: rest) ks E Ls) : Ops C ops (o :: rest) ks E Ls := by
  refine ⟨fun a w f g => ?_⟩
  have := k.out a w f g
  unfold wpList at this ⊢
  have hw : Region.wanted o (yielded ops a.tmps) = true := by simp [Region.wanted, ho, yielded, ht, f.val t _ hv]
  rw [if_pos hw]
  rw [if_pos (by simp [Region.wanted])] at this
  exact this
theorem ops_guard_no {op : Op} {d : Option Nat} {j : Nat} {b : Bool} {t : Nat} (ht : (ops[j]?).bind (·.dst) = some t) (hv : E.find t = some (.bool (!b))) (hn : (match d with | some d => Nat.blt d C.fn.ntmps | none => true) = true)
    (k : Ops C ops rest ks (match d with | some d => (d, undef) :: E | none => E) Ls) : Ops C ops ({ dst := d, op := op, type := ty, pos := pos, after := af, guard := some (j, b) } :: rest) ks E Ls := by
  refine ⟨fun a w f g => ?_⟩
  unfold wpList
  have hw : Region.wanted { dst := d, op := op, type := ty, pos := pos, after := af, guard := some (j, b) } (yielded ops a.tmps) = false := by
    cases b <;> simp [Region.wanted, yielded, ht, f.val t _ hv]
  rw [hw]
  simp only [Bool.false_eq_true, if_false]
  cases d with
  | none => exact k.out a w f g
  | some d => exact k.out _ w (f.put undef (Nat.lt_of_succ_le (by simpa [Nat.blt] using hn))) g
/-- A Bool in a slot is decided. -/
theorem ops_split {t : Nat} {b : Bool} (hv : E.find t = some (.bool b)) (h1 : b = true → Ops C ops rest ks ((t, .bool true) :: E) Ls) (h2 : b = false → Ops C ops rest ks ((t, .bool false) :: E) Ls) : Ops C ops rest ks E Ls := by
  refine ⟨fun a w f g => ?_⟩
  cases b with
  | true => exact (h1 rfl).out a w (f.sub (Sub.cons hv (Sub.refl _))) g
  | false => exact (h2 rfl).out a w (f.sub (Sub.cons hv (Sub.refl _))) g

/-! ### Values alone -/
variable {d : Nat} (hn : Nat.blt d C.fn.ntmps = true)
include hn
theorem op_move {x : Operand} {v : Value} (hx : ev E x = some v) (k : Ops C ops rest ks ((d, v) :: E) Ls) : Ops C ops (⟨some d, .move x, ty, pos, af, none⟩ :: rest) ks E Ls :=
  ops_pure hn (fun a w f g => by simp [execOp, f.ev hx]) k
theorem op_assign {x : Operand} {v : Value} (hx : ev E x = some v) (k : Ops C ops rest ks ((d, v) :: E) Ls) : Ops C ops (⟨some d, .assign x, ty, pos, af, none⟩ :: rest) ks E Ls :=
  ops_pure hn (fun a w f g => by simp [execOp, f.ev hx]) k
theorem op_pick_t {c x y : Operand} {v : Value} (hc : ev E c = some (.bool true)) (hx : ev E x = some v) (k : Ops C ops rest ks ((d, v) :: E) Ls) : Ops C ops (⟨some d, .pick c x y, ty, pos, af, none⟩ :: rest) ks E Ls :=
  ops_pure hn (fun a w f g => by simp [execOp, f.ev hc, f.ev hx, asBool]) k
theorem op_pick_f {c x y : Operand} {v : Value} (hc : ev E c = some (.bool false)) (hy : ev E y = some v) (k : Ops C ops rest ks ((d, v) :: E) Ls) : Ops C ops (⟨some d, .pick c x y, ty, pos, af, none⟩ :: rest) ks E Ls :=
  ops_pure hn (fun a w f g => by simp [execOp, f.ev hc, f.ev hy, asBool]) k
theorem op_nilCheck {x : Operand} {p : Addr} (hx : ev E x = some (.pointer (some p))) (k : Ops C ops rest ks ((d, .pointer (some p)) :: E) Ls) : Ops C ops (⟨some d, .nilCheck x, ty, pos, af, none⟩ :: rest) ks E Ls :=
  ops_pure hn (fun a w f g => by simp [execOp, f.ev hx]) k
theorem op_fieldAddr {s f off g o : Nat} {x : Operand} [TField C.P s f off] (hx : ev E x = some (.pointer (some ⟨g, o, none⟩))) (k : Ops C ops rest ks ((d, .pointer (some ⟨g, o + off, none⟩)) :: E) Ls) : Ops C ops (⟨some d, .fieldAddr s x f, ty, pos, af, none⟩ :: rest) ks E Ls :=
  ops_pure hn (fun a w ft gs => by simp [execOp, ft.ev hx, run_fieldAt]) k
omit hn in
theorem run_part1 {P : Program} {w : World} {t : Nat} {cs : Array Value} {off : Nat} {v : Value} (h1 : (isAgg t).run P w = .ok false w) (hv : cs[off]? = some v) : (part t cs off).run P w = .ok v w := by
  simp [part, h1, hv]
theorem op_field1 {s f off : Nat} {x : Operand} {cs : Array Value} {v : Value} [c : TPart C.P s f off 1 false] (hx : ev E x = some (.agg cs)) (hv : cs[off]? = some v) (k : Ops C ops rest ks ((d, v) :: E) Ls) : Ops C ops (⟨some d, .field s x f, ty, pos, af, none⟩ :: rest) ks E Ls :=
  ops_pure hn (fun a w ft gs => by
    have := c.h
    simp only [execOp, ft.ev hx, Instr.field, underlying]
    cases h : C.P.underlying s with
    | none => simp [h] at this
    | some dd =>
      cases dd <;> simp [h] at this ⊢
      rename_i fs
      cases hf : fs[f]? with
      | none => simp [hf] at this
      | some y =>
        simp [hf] at this ⊢
        obtain ⟨h1, h2⟩ := this
        have hag : (isAgg y.type).run C.P w = .ok false w := by
          unfold isAgg underlying
          cases hu : C.P.underlying y.type with
          | none => cases hi : C.P.info? y.type <;> simp [hu, hi] at h2
          | some u => cases hi : C.P.info? y.type <;> cases u <;> simp [hu, hi] at h2 ⊢ <;> rfl
        simp [asAgg, run_part1 hag (h1 ▸ hv)]) k
theorem op_fieldN {s f off size : Nat} {x : Operand} {cs : Array Value} [c : TPart C.P s f off size true] (hx : ev E x = some (.agg cs)) (k : Ops C ops rest ks ((d, .agg (cs.extract off (off + size))) :: E) Ls) : Ops C ops (⟨some d, .field s x f, ty, pos, af, none⟩ :: rest) ks E Ls :=
  ops_pure hn (fun a w ft gs => by
    have := c.h
    simp only [execOp, ft.ev hx, Instr.field, underlying]
    cases h : C.P.underlying s with
    | none => simp [h] at this
    | some dd =>
      cases dd <;> simp [h] at this ⊢
      rename_i fs
      cases hf : fs[f]? with
      | none => simp [hf] at this
      | some y =>
        simp [hf] at this ⊢
        obtain ⟨h1, h2⟩ := this
        cases hi : C.P.info? y.type with
        | none => simp [hi] at h2
        | some i =>
          cases hu : C.P.underlying y.type with
          | none => simp [hu, hi] at h2
          | some u => cases u <;> simp [hu, hi] at h2 <;> simp [asAgg, part, isAgg, underlying, hu, sizeOf, typeInfo, hi, h1, h2]) k
theorem op_extract {x : Operand} {i : Nat} {vs : Array Value} {v : Value} (hx : ev E x = some (.tuple vs)) (hv : vs[i]? = some v) (k : Ops C ops rest ks ((d, v) :: E) Ls) : Ops C ops (⟨some d, .extract x i, ty, pos, af, none⟩ :: rest) ks E Ls :=
  ops_pure hn (fun a w f g => by simp [execOp, f.ev hx, Instr.extract, hv]) k

/-! ### Whole numbers -/
def kLo : IntKind → Int | .i8 => -128 | .i16 => -32768 | .i32 => -2147483648 | .i64 => -9223372036854775808 | _ => 0
def kHi : IntKind → Int | .i8 => 127 | .i16 => 32767 | .i32 => 2147483647 | .i64 => 9223372036854775807 | .u8 => 255 | .u16 => 65535 | .u32 => 4294967295 | .u64 => 18446744073709551615
omit hn in
theorem wrap_in {k : IntKind} {z : Int} (h1 : kLo k ≤ z) (h2 : z ≤ kHi k) : k.wrap z = z := by
  cases k <;> simp only [kLo, kHi] at h1 h2 <;> simp [IntKind.wrap, IntKind.bits, IntKind.signed] <;> omega
omit hn in
theorem eqGuard_int {P : Program} {w : World} (op : BinOp) (t : TypeId) (x y : Operand) {k k' : IntKind} {a b : Int} : (eqGuard op t x y (.int k a) (.int k' b)).run P w = .ok () w := by
  cases op <;> simp [eqGuard]
omit hn in
theorem eqGuard_bool {P : Program} {w : World} (op : BinOp) (t : TypeId) (x y : Operand) {a b : Bool} : (eqGuard op t x y (.bool a) (.bool b)).run P w = .ok () w := by
  cases op <;> simp [eqGuard]

variable {bt bt' : Nat} {x y : Operand} {ik : IntKind} {m n : Int}
theorem op_add (hx : ev E x = some (.int ik m)) (hy : ev E y = some (.int ik n)) (h : kLo ik ≤ m + n ∧ m + n ≤ kHi ik) (k : Ops C ops rest ks ((d, .int ik (m + n)) :: E) Ls) : Ops C ops (⟨some d, .binOp .add bt x y bt', ty, pos, af, none⟩ :: rest) ks E Ls :=
  ops_pure hn (fun a w f g => by simp [execOp, f.ev hx, f.ev hy, eqGuard_int, binOp, Op.intArith, wrap_in h.1 h.2]) k
theorem op_sub (hx : ev E x = some (.int ik m)) (hy : ev E y = some (.int ik n)) (h : kLo ik ≤ m - n ∧ m - n ≤ kHi ik) (k : Ops C ops rest ks ((d, .int ik (m - n)) :: E) Ls) : Ops C ops (⟨some d, .binOp .sub bt x y bt', ty, pos, af, none⟩ :: rest) ks E Ls :=
  ops_pure hn (fun a w f g => by simp [execOp, f.ev hx, f.ev hy, eqGuard_int, binOp, Op.intArith, wrap_in h.1 h.2]) k
theorem op_mul (hx : ev E x = some (.int ik m)) (hy : ev E y = some (.int ik n)) (h : kLo ik ≤ m * n ∧ m * n ≤ kHi ik) (k : Ops C ops rest ks ((d, .int ik (m * n)) :: E) Ls) : Ops C ops (⟨some d, .binOp .mul bt x y bt', ty, pos, af, none⟩ :: rest) ks E Ls :=
  ops_pure hn (fun a w f g => by simp [execOp, f.ev hx, f.ev hy, eqGuard_int, binOp, Op.intArith, wrap_in h.1 h.2]) k
theorem op_addw (hx : ev E x = some (.int ik m)) (hy : ev E y = some (.int ik n)) (k : Ops C ops rest ks ((d, .int ik (ik.wrap (m + n))) :: E) Ls) : Ops C ops (⟨some d, .binOp .add bt x y bt', ty, pos, af, none⟩ :: rest) ks E Ls :=
  ops_pure hn (fun a w f g => by simp [execOp, f.ev hx, f.ev hy, eqGuard_int, binOp, Op.intArith]) k
theorem op_subw (hx : ev E x = some (.int ik m)) (hy : ev E y = some (.int ik n)) (k : Ops C ops rest ks ((d, .int ik (ik.wrap (m - n))) :: E) Ls) : Ops C ops (⟨some d, .binOp .sub bt x y bt', ty, pos, af, none⟩ :: rest) ks E Ls :=
  ops_pure hn (fun a w f g => by simp [execOp, f.ev hx, f.ev hy, eqGuard_int, binOp, Op.intArith]) k
theorem op_mulw (hx : ev E x = some (.int ik m)) (hy : ev E y = some (.int ik n)) (k : Ops C ops rest ks ((d, .int ik (ik.wrap (m * n))) :: E) Ls) : Ops C ops (⟨some d, .binOp .mul bt x y bt', ty, pos, af, none⟩ :: rest) ks E Ls :=
  ops_pure hn (fun a w f g => by simp [execOp, f.ev hx, f.ev hy, eqGuard_int, binOp, Op.intArith]) k
theorem op_quo (hx : ev E x = some (.int ik m)) (hy : ev E y = some (.int ik n)) (h : n ≠ 0) (k : Ops C ops rest ks ((d, .int ik (ik.wrap (m.tdiv n))) :: E) Ls) : Ops C ops (⟨some d, .binOp .quo bt x y bt', ty, pos, af, none⟩ :: rest) ks E Ls :=
  ops_pure hn (fun a w f g => by simp [execOp, f.ev hx, f.ev hy, eqGuard_int, binOp, Op.intDiv, h]) k
theorem op_rem (hx : ev E x = some (.int ik m)) (hy : ev E y = some (.int ik n)) (h : n ≠ 0) (k : Ops C ops rest ks ((d, .int ik (m.tmod n)) :: E) Ls) : Ops C ops (⟨some d, .binOp .rem bt x y bt', ty, pos, af, none⟩ :: rest) ks E Ls :=
  ops_pure hn (fun a w f g => by simp [execOp, f.ev hx, f.ev hy, eqGuard_int, binOp, Op.intDiv, h]) k
def bitop : BinOp → IntKind → Int → Int → Int
  | .and, k, x, y => k.wrap ((BitVec.ofInt k.bits x &&& BitVec.ofInt k.bits y).toNat : Int)
  | .or, k, x, y => k.wrap ((BitVec.ofInt k.bits x ||| BitVec.ofInt k.bits y).toNat : Int)
  | .xor, k, x, y => k.wrap ((BitVec.ofInt k.bits x ^^^ BitVec.ofInt k.bits y).toNat : Int)
  | .andNot, k, x, y => k.wrap ((BitVec.ofInt k.bits x &&& ~~~BitVec.ofInt k.bits y).toNat : Int)
  | _, _, _, _ => 0
def isBits : BinOp → Bool | .and | .or | .xor | .andNot => true | _ => false
theorem op_bits {op : BinOp} (ho : isBits op = true) (hx : ev E x = some (.int ik m)) (hy : ev E y = some (.int ik n)) (k : Ops C ops rest ks ((d, .int ik (bitop op ik m n)) :: E) Ls) : Ops C ops (⟨some d, .binOp op bt x y bt', ty, pos, af, none⟩ :: rest) ks E Ls :=
  ops_pure hn (fun a w f g => by cases op <;> simp [isBits] at ho <;> simp [execOp, f.ev hx, f.ev hy, eqGuard_int, binOp, Op.intBits, bitop]) k
theorem op_shl {yk : IntKind} (hx : ev E x = some (.int ik m)) (hy : ev E y = some (.int yk n)) (h : 0 ≤ n) (k : Ops C ops rest ks ((d, .int ik (ik.wrap (m * 2 ^ (min n.toNat ik.bits)))) :: E) Ls) : Ops C ops (⟨some d, .binOp .shl bt x y bt', ty, pos, af, none⟩ :: rest) ks E Ls :=
  ops_pure hn (fun a w f g => by
    have : ¬ n < 0 := by omega
    simp [execOp, f.ev hx, f.ev hy, eqGuard_int, binOp, Op.shift, this]) k
theorem op_shr {yk : IntKind} (hx : ev E x = some (.int ik m)) (hy : ev E y = some (.int yk n)) (h : 0 ≤ n) (k : Ops C ops rest ks ((d, .int ik (m.fdiv (2 ^ (min n.toNat ik.bits)))) :: E) Ls) : Ops C ops (⟨some d, .binOp .shr bt x y bt', ty, pos, af, none⟩ :: rest) ks E Ls :=
  ops_pure hn (fun a w f g => by
    have : ¬ n < 0 := by omega
    simp [execOp, f.ev hx, f.ev hy, eqGuard_int, binOp, Op.shift, this]) k
def cmp : BinOp → Int → Int → Bool
  | .eql, x, y => x == y
  | .neq, x, y => x != y
  | .lss, x, y => decide (x < y)
  | .leq, x, y => decide (x ≤ y)
  | .gtr, x, y => decide (x > y)
  | .geq, x, y => decide (x ≥ y)
  | _, _, _ => false
def cmpP : BinOp → Int → Int → Prop
  | .eql, x, y => x = y
  | .neq, x, y => ¬ x = y
  | .lss, x, y => x < y
  | .leq, x, y => x ≤ y
  | .gtr, x, y => y < x
  | .geq, x, y => y ≤ x
  | _, _, _ => False
def isCmp : BinOp → Bool | .eql | .neq | .lss | .leq | .gtr | .geq => true | _ => false
omit hn in
theorem cmp_t {op : BinOp} {m n : Int} (h : cmpP op m n) : cmp op m n = true := by cases op <;> simp_all [cmp, cmpP]
omit hn in
theorem cmp_f {op : BinOp} {m n : Int} (ho : isCmp op = true) (h : ¬ cmpP op m n) : cmp op m n = false := by cases op <;> simp_all [cmp, cmpP, isCmp]
omit hn in
theorem cmp_iff {op : BinOp} {m n : Int} (ho : isCmp op = true) : cmp op m n = true ↔ cmpP op m n := by cases op <;> simp_all [cmp, cmpP, isCmp]
theorem op_cmp {op : BinOp} (ho : isCmp op = true) (hx : ev E x = some (.int ik m)) (hy : ev E y = some (.int ik n)) (k : Ops C ops rest ks ((d, .bool (cmp op m n)) :: E) Ls) : Ops C ops (⟨some d, .binOp op bt x y bt', ty, pos, af, none⟩ :: rest) ks E Ls :=
  ops_pure hn (fun a w f g => by cases op <;> simp [isCmp] at ho <;> simp [execOp, f.ev hx, f.ev hy, eqGuard_int, binOp, Op.intCmp, cmp]) k
theorem op_cmp_t {op : BinOp} (ho : isCmp op = true) (hx : ev E x = some (.int ik m)) (hy : ev E y = some (.int ik n)) (h : cmpP op m n) (k : Ops C ops rest ks ((d, .bool true) :: E) Ls) : Ops C ops (⟨some d, .binOp op bt x y bt', ty, pos, af, none⟩ :: rest) ks E Ls :=
  op_cmp hn ho hx hy (by rw [cmp_t h]; exact k)
theorem op_cmp_f {op : BinOp} (ho : isCmp op = true) (hx : ev E x = some (.int ik m)) (hy : ev E y = some (.int ik n)) (h : ¬ cmpP op m n) (k : Ops C ops rest ks ((d, .bool false) :: E) Ls) : Ops C ops (⟨some d, .binOp op bt x y bt', ty, pos, af, none⟩ :: rest) ks E Ls :=
  op_cmp hn ho hx hy (by rw [cmp_f ho h]; exact k)
/-- A test that is not known: both ways. -/
theorem op_cmp2 {op : BinOp} (ho : isCmp op = true) (hx : ev E x = some (.int ik m)) (hy : ev E y = some (.int ik n)) (k1 : cmpP op m n → Ops C ops rest ks ((d, .bool true) :: E) Ls) (k2 : ¬ cmpP op m n → Ops C ops rest ks ((d, .bool false) :: E) Ls) : Ops C ops (⟨some d, .binOp op bt x y bt', ty, pos, af, none⟩ :: rest) ks E Ls := by
  by_cases h : cmpP op m n
  · exact op_cmp_t hn ho hx hy h (k1 h)
  · exact op_cmp_f hn ho hx hy h (k2 h)
omit hn in
theorem equal_bool {P : Program} {w : World} {t : Nat} {b1 b2 : Bool} (hu : P.underlying t = some .bool) : (Op.equal t (.bool b1) (.bool b2)).run P w = .ok (b1 == b2) w := by
  show (Op.equalIn (9999 + 1) t _ _).run P w = _
  unfold Op.equalIn
  simp [underlying, hu]
omit hn in
theorem binOp_eqb {P : Program} {w : World} {t : Nat} {b1 b2 : Bool} (hu : P.underlying t = some .bool) : (binOp .eql t (.bool b1) (.bool b2)).run P w = .ok (.bool (b1 == b2)) w := by
  simp only [binOp, Sem.run_bind, equal_bool hu, Result.andThen_ok, Sem.run_pure]
omit hn in
theorem binOp_neqb {P : Program} {w : World} {t : Nat} {b1 b2 : Bool} (hu : P.underlying t = some .bool) : (binOp .neq t (.bool b1) (.bool b2)).run P w = .ok (.bool (!(b1 == b2))) w := by
  simp only [binOp, Sem.run_bind, equal_bool hu, Result.andThen_ok, Sem.run_pure]
class TBool (P : Program) (t : Nat) : Prop where
  h : P.underlying t = some .bool
theorem op_eqb [c : TBool C.P bt] {b1 b2 : Bool} (hx : ev E x = some (.bool b1)) (hy : ev E y = some (.bool b2)) (k : Ops C ops rest ks ((d, .bool (b1 == b2)) :: E) Ls) : Ops C ops (⟨some d, .binOp .eql bt x y bt', ty, pos, af, none⟩ :: rest) ks E Ls :=
  ops_pure hn (fun a w f g => by simp only [execOp, f.ev hx, f.ev hy, Sem.run_bind, eqGuard_bool, Result.andThen_ok, binOp_eqb c.h, Sem.run_pure]) k
theorem op_neqb [c : TBool C.P bt] {b1 b2 : Bool} (hx : ev E x = some (.bool b1)) (hy : ev E y = some (.bool b2)) (k : Ops C ops rest ks ((d, .bool (!(b1 == b2))) :: E) Ls) : Ops C ops (⟨some d, .binOp .neq bt x y bt', ty, pos, af, none⟩ :: rest) ks E Ls :=
  ops_pure hn (fun a w f g => by simp only [execOp, f.ev hx, f.ev hy, Sem.run_bind, eqGuard_bool, Result.andThen_ok, binOp_neqb c.h, Sem.run_pure]) k
theorem op_not {b : Bool} (hx : ev E x = some (.bool b)) (k : Ops C ops rest ks ((d, .bool (!b)) :: E) Ls) : Ops C ops (⟨some d, .unOp .not bt x, ty, pos, af, none⟩ :: rest) ks E Ls :=
  ops_pure hn (fun a w f g => by simp [execOp, f.ev hx, Op.unary]) k
class TInt (P : Program) (t : Nat) (k : outParam IntKind) : Prop where
  h : P.underlying t = some (.int k)
theorem op_conv {s e : Nat} {ik' : IntKind} [c : TInt C.P e ik'] [c' : TInt C.P s ik] (hx : ev E x = some (.int ik m)) (h : kLo ik' ≤ m ∧ m ≤ kHi ik') (k : Ops C ops rest ks ((d, .int ik' m) :: E) Ls) : Ops C ops (⟨some d, .convert s e x, ty, pos, af, none⟩ :: rest) ks E Ls :=
  ops_pure hn (fun a w f g => by simp [execOp, f.ev hx, convert, underlying, c.h, c'.h, Conv.intToInt, wrap_in h.1 h.2]) k
theorem op_convw {s e : Nat} {ik' : IntKind} [c : TInt C.P e ik'] [c' : TInt C.P s ik] (hx : ev E x = some (.int ik m)) (k : Ops C ops rest ks ((d, .int ik' (ik'.wrap m)) :: E) Ls) : Ops C ops (⟨some d, .convert s e x, ty, pos, af, none⟩ :: rest) ks E Ls :=
  ops_pure hn (fun a w f g => by simp [execOp, f.ev hx, convert, underlying, c.h, c'.h, Conv.intToInt]) k
end

/-! ### Memory -/
section
variable {C : Ctx} {ks : List Kont} {E : Env} {Ls Ls' : List Hp} {ops : Array Oper} {rest : List Oper}
variable {ty : Nat} {pos : String} {af : Array Edge} {d : Nat}
theorem cell_has {w : World} {g o t : Nat} {cs : Array Value} {fr : Nat × Nat} (hg : Goes C.w0 C.L0 w Ls.flatten) (h : Has Ls g (.cells cs t fr)) : w.cell? ⟨g, o, none⟩ = cs[o]? :=
  cell_of_heap (hg.now.here _ h.mem)
/-- A cell of which something is known: of a known block, or of memory that stays. -/
def Cell (C : Ctx) (Ls : List Hp) (p : Addr) (v : Value) : Prop := ∀ w, Goes C.w0 C.L0 w Ls.flatten → w.cell? p = some v
theorem cell_of_has {g o t : Nat} {cs : Array Value} {fr : Nat × Nat} {v : Value} (h : Has Ls g (.cells cs t fr)) (hv : aget cs o = some v) : Cell C Ls ⟨g, o, none⟩ v :=
  fun w hg => by rw [cell_has hg h, ← aget_eq, hv]
theorem cell_of_old {g o : Nat} {v : Value} (h : C.w0.cell? ⟨g, o, none⟩ = some v) (hg : g ∉ ids C.L0) : Cell C Ls ⟨g, o, none⟩ v := fun w gs => by
  have hlt := World.block_lt_of_cell? C.w0 _ h
  rw [← h]
  exact World.cell?_of_block (w := C.w0) (gs.keep g hlt hg)
theorem op_load {x : Operand} {p : Addr} {v : Value} {lt : Nat} [TOne C.P lt] (hn : Nat.blt d C.fn.ntmps = true) (hx : ev E x = some (.pointer (some p))) (hc : Cell C Ls p v) (k : Ops C ops rest ks ((d, v) :: E) Ls) : Ops C ops (⟨some d, .load lt x, ty, pos, af, none⟩ :: rest) ks E Ls :=
  ops_pure hn (fun a w f g => by simp [execOp, f.ev hx, Instr.loadAt, Instr.sureAddr, loadVar, isAgg_one, hc w g]) k
theorem op_loadN {x : Operand} {g o t n : Nat} {cs : Array Value} {fr : Nat × Nat} {lt : Nat} [TAgg C.P lt n] (hn : Nat.blt d C.fn.ntmps = true) (hx : ev E x = some (.pointer (some ⟨g, o, none⟩))) (hh : Has Ls g (.cells cs t fr)) (hsz : o + n ≤ cs.size) (k : Ops C ops rest ks ((d, .agg (cs.extract o (o + n))) :: E) Ls) : Ops C ops (⟨some d, .load lt x, ty, pos, af, none⟩ :: rest) ks E Ls :=
  ops_pure hn (fun a w f gs => by
    have : (loadCells ⟨g, o, none⟩ n).run C.P w = .ok (cs.extract o (o + n)) w := by
      have hl := run_loadCells_list (P := C.P) (w := w) ⟨g, o, none⟩ (cs.extract o (o + n)).toList (fun j v hv => by
        rw [add_addr, cell_has gs hh]
        rw [Array.getElem?_toList, Array.getElem?_extract] at hv
        split at hv
        · exact hv
        · cases hv)
      have e : (cs.extract o (o + n)).toList.length = n := by simp; omega
      rw [e] at hl
      rw [hl]
    simp [execOp, f.ev hx, Instr.loadAt, Instr.sureAddr, loadVar, isAgg_agg, sizeOf_agg, this]) k
end
end Go.Proofs.Eng
