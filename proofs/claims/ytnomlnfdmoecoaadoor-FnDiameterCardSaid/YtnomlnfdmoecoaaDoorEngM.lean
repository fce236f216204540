/- The engine, part M: methods called through interfaces, assertions; strings; slices made with room. -/
import Derived.Test.YtnomlnfdmoecoaaDoorEngL
import Derived.Laws.IdiomStrings
set_option linter.unusedVariables false
set_option linter.unusedSimpArgs false
namespace Go.Proofs.Eng
open Go.RowKit
/-- A type whose method of this name is function f, and takes the value itself as its receiver. -/
class TMeth (P : Program) (T : Nat) (name : String) (f : outParam Nat) : Prop where
  h : (match P.info? T, P.underlying T with
    | some i, some u => (match i.methods.find? (·.name == name) with
      | some m => m.path.isEmpty && (match m.func, u with
        | some (g, true), .pointer _ => Nat.beq g f
        | some (_, false), .pointer _ => false
        | some (g, false), _ => Nat.beq g f
        | _, _ => false)
      | none => false)
    | _, _ => false) = true
theorem run_method {P : Program} {w : World} {T f n : Nat} {name : String} {v : Value} [c : TMeth P T name f] : (method (n + 1) T v name).run P w = .ok (f, v) w := by
  have h := c.h
  unfold method
  cases hi : P.info? T with
  | none => simp [hi] at h
  | some i =>
    cases hu : P.underlying T with
    | none => simp [hi, hu] at h
    | some u =>
      simp only [hi, hu] at h
      cases hm : i.methods.find? (·.name == name) with
      | none => simp [hm] at h
      | some m =>
        simp only [hm, Bool.and_eq_true] at h
        obtain ⟨hp, hf⟩ := h
        have hp' : m.path.toList = [] := by simpa using hp
        cases hfn : m.func with
        | none => simp [hfn] at hf
        | some gp =>
          obtain ⟨g, pr⟩ := gp
          rw [hfn] at hf
          cases pr with
          | true =>
            cases u <;> simp at hf
            subst hf
            simp [typeInfo, hi, hm, hp', follow, hfn, receiverAt, underlying, hu, Place.get]
          | false =>
            cases u <;> simp at hf
            all_goals
              subst hf
              simp [typeInfo, hi, hm, hp', follow, hfn, receiverAt, underlying, hu, Place.get]
section
variable {C : Ctx} {ks : List Kont} {E : Env} {Ls Ls' : List Hp} {ops : Array Oper} {rest : List Oper}
variable {ty : Nat} {pos : String} {af : Array Edge} {d : Nat} {dd : Option Nat} {gg : Option (Nat × Bool)}
theorem inv_wp {α : Type} {T f : Nat} {name : String} [TMeth C.P T name f] [TFn C.P f] {x : Operand} {rv : Value} {args : Array Operand} {ats : Array Nat} {vs : List Value} {ls R : List Hp} {ret : α → Value} {L' : α → List Hp} {φ : α → Prop} {dd : Option Nat}
    (hr : ev E x = some (.iface T rv)) (hx : evs E args.toList = some vs) (hp : Picks Ls ls R)
    (hc : ∀ w, Goes C.w0 C.L0 w (ls ++ R).flatten → At w ls.flatten → Calls C.P f (rv :: vs).toArray w (Post w ls.flatten ret (fun x => (L' x).flatten) φ))
    {a : Act} {w : World} (ft : Fits E C.fn.ntmps a) (gs : Goes C.w0 C.L0 w Ls.flatten) {K : Act → World → Prop} {Q : Exit → Act → World → Prop}
    (k : ∀ x, φ x → ∀ w', Goes C.w0 C.L0 w' (L' x ++ R).flatten → K (a.put dd (ret x)) w') : Oper.wp C.P ⟨dd, .call { callee := .invoke x name, args := args, argTypes := ats }, ty, pos, af, none⟩ a w K Q := by
  unfold Oper.wp
  have gs' : Goes C.w0 C.L0 w (ls.flatten ++ R.flatten) := gs.le (.of_perm hp.perm)
  have hat : At w ls.flatten := ⟨by have := gs'.now.nd; rw [ids_append, List.nodup_append] at this; exact this.1, fun x hx => gs'.now.here x (List.mem_append.2 (.inl hx))⟩
  have e : args.map a.eval = vs.toArray := by
    apply Array.ext'
    simp [ft.evs hx]
  have hm : ∀ w, (method (C.P.types.size + Made.depth) T rv name).run C.P w = .ok (f, rv) w := fun w => by
    rw [show C.P.types.size + Made.depth = (C.P.types.size + (Made.depth - 1)) + 1 by simp [Made.depth]]
    exact run_method
  have e2 : (#[Value.iface T rv] ++ vs.toArray)[0]? = some (.iface T rv) := by simp
  have e3 : (#[Value.iface T rv] ++ vs.toArray).extract 1 (#[Value.iface T rv] ++ vs.toArray).size = vs.toArray := by
    apply Array.ext'; simp
  have e4 : (#[rv] ++ vs.toArray : Array Value) = (rv :: vs).toArray := by simp
  have : (execOp a.eval ⟨dd, .call { callee := .invoke x name, args := args, argTypes := ats }, ty, pos, af, none⟩).run C.P w = .ok (.enter f (rv :: vs).toArray) w := by
    simp only [execOp, resolve, ft.ev hr, e, Sem.run_bind, Sem.run_pure, Result.andThen_ok, invoke, e2, e3, callMethod, run_program, hm, e4, run_callFunc]
  rw [this]
  refine (hc w (by simpa using gs') hat).mono ?_
  rintro e' w' ⟨x, hφ, rfl, hg⟩
  exact k x hφ w' (by simpa using gs'.frame hg)
theorem op_inv {α : Type} {T f : Nat} {name : String} [TMeth C.P T name f] [TFn C.P f] {x : Operand} {rv : Value} {args : Array Operand} {ats : Array Nat} {vs : List Value} {ls R : List Hp} {ret : α → Value} {L' : α → List Hp} {φ : α → Prop}
    (hn : Nat.blt d C.fn.ntmps = true) (hr : ev E x = some (.iface T rv)) (hx : evs E args.toList = some vs) (hp : Picks Ls ls R)
    (hc : ∀ w, Goes C.w0 C.L0 w (ls ++ R).flatten → At w ls.flatten → Calls C.P f (rv :: vs).toArray w (Post w ls.flatten ret (fun x => (L' x).flatten) φ))
    (k : ∀ x, φ x → Ops C ops rest ks ((d, ret x) :: E) (L' x ++ R)) : Ops C ops (⟨some d, .call { callee := .invoke x name, args := args, argTypes := ats }, ty, pos, af, none⟩ :: rest) ks E Ls := by
  refine ⟨fun a w ft gs => wpList_plain rfl fun K hK => inv_wp hr hx hp hc ft gs fun x hφ w' h2 => ?_⟩
  exact hK _ _ ((k x hφ).out _ _ (ft.put _ (Nat.lt_of_succ_le (by simpa [Nat.blt] using hn))) h2)
theorem op_inv0 {α : Type} {T f : Nat} {name : String} [TMeth C.P T name f] [TFn C.P f] {x : Operand} {rv : Value} {args : Array Operand} {ats : Array Nat} {vs : List Value} {ls R : List Hp} {ret : α → Value} {L' : α → List Hp} {φ : α → Prop}
    (hr : ev E x = some (.iface T rv)) (hx : evs E args.toList = some vs) (hp : Picks Ls ls R)
    (hc : ∀ w, Goes C.w0 C.L0 w (ls ++ R).flatten → At w ls.flatten → Calls C.P f (rv :: vs).toArray w (Post w ls.flatten ret (fun x => (L' x).flatten) φ))
    (k : ∀ x, φ x → Ops C ops rest ks E (L' x ++ R)) : Ops C ops (⟨none, .call { callee := .invoke x name, args := args, argTypes := ats }, ty, pos, af, none⟩ :: rest) ks E Ls := by
  refine ⟨fun a w ft gs => wpList_plain rfl fun K hK => inv_wp hr hx hp hc ft gs fun x hφ w' h2 => ?_⟩
  exact hK _ _ ((k x hφ).out _ _ ft h2)
/-! ### Interface values -/
class TConc (P : Program) (t : Nat) : Prop where
  h : (match P.underlying t with | some (.interface _) => false | some _ => true | none => false) = true
theorem val_iface {t : Nat} {x : Operand} {v : Value} [c : TConc C.P t] (hx : ev E x = some v) : Val C E ⟨dd, .makeInterface t x, ty, pos, af, gg⟩ (.iface t v) := ⟨fun a f w => by
  have h := c.h
  cases hu : C.P.underlying t with
  | none => simp [hu] at h
  | some u => cases u <;> simp [hu] at h <;> simp [execOp, f.ev hx, Instr.makeInterface, underlying, hu]⟩
theorem val_assert_yes {x : Operand} {xt t : Nat} {v : Value} [c : TConc C.P t] (hx : ev E x = some (.iface t v)) : Val C E ⟨dd, .typeAssert x xt t true, ty, pos, af, gg⟩ (.tuple #[v, .bool true]) := ⟨fun a f w => by
  have h := c.h
  cases hu : C.P.underlying t with
  | none => simp [hu] at h
  | some u => cases u <;> simp [hu] at h <;> simp [execOp, f.ev hx, Instr.typeAssert, underlying, hu]⟩
theorem val_assert_no {x : Operand} {xt t t' : Nat} {v z : Value} [c : TConc C.P t] [cz : TZero C.P t z] (hx : ev E x = some (.iface t' v)) (hne : Nat.beq t' t = false) : Val C E ⟨dd, .typeAssert x xt t true, ty, pos, af, gg⟩ (.tuple #[z, .bool false]) := ⟨fun a f w => by
  have h := c.h
  have hz := cz.h
  have hne' : ¬ t' = t := fun e => by subst e; simp at hne
  cases hi : C.P.info? t with
  | none => simp [hi] at hz
  | some i =>
    simp [hi] at hz
    cases hu : C.P.underlying t with
    | none => simp [hu] at h
    | some u => cases u <;> simp [hu] at h <;> simp [execOp, f.ev hx, Instr.typeAssert, underlying, hu, hne', zeroValue, typeInfo, hi, hz]⟩
/-! ### Strings -/
class TStr (P : Program) (t : Nat) : Prop where
  h : P.underlying t = some .string
theorem val_slen {x : Operand} {t : Nat} {s : ByteArray} [c : TStr C.P t] (hx : ev E x = some (.string s)) : Val C E ⟨dd, .call { callee := .builtin .len, args := #[x], argTypes := #[t] }, ty, pos, af, gg⟩ (.int .i64 s.size) := ⟨fun a f w => by
  simp [execOp, f.ev hx, resolve, invoke, builtin, Builtin.len_, underlying, c.h, goInt]⟩
theorem val_sindex {x y : Operand} {t : Nat} {s : ByteArray} {ik : IntKind} {i : Int} {b : UInt8} [c : TStr C.P t] (hx : ev E x = some (.string s)) (hy : ev E y = some (.int ik i)) (h0 : 0 ≤ i) (hb : s.data[i.toNat]? = some b) : Val C E ⟨dd, .index t x y, ty, pos, af, gg⟩ (.int .u8 b.toNat) := ⟨fun a f w => by
  have hb' : s[i.toNat]? = some b := by
    rw [← hb]
    simp only [getElem?, decidableGetElem?]
    rfl
  simp [execOp, f.ev hx, f.ev hy, Instr.index, asIntOf, underlying, c.h, h0, hb']⟩
theorem val_runeStr {x : Operand} {s t : Nat} {ik : IntKind} {n : Int} [c : TStr C.P t] [c' : TInt C.P s ik] (hx : ev E x = some (.int ik n)) : Val C E ⟨dd, .convert s t x, ty, pos, af, gg⟩ (.string (Utf8.encode n)) := ⟨fun a f w => by
  simp [execOp, f.ev hx, convert, underlying, c.h, c'.h, Conv.intToString]⟩
/-- []byte(s): a new block that is only read. -/
theorem op_bytesOf {x : Operand} {s t e : Nat} {b : ByteArray} [c : TStr C.P s] (h1 : C.P.underlying t = some (.slice e)) (h2 : C.P.underlying e = some (.int .u8)) (hn : Nat.blt d C.fn.ntmps = true) (hx : ev E x = some (.string b))
    (k : ∀ g cap n m, C.w0.heap.size ≤ g → b.size ≤ cap → Ops C ops rest ks ((d, .slice (some ⟨g, 0, none⟩) b.size cap) :: E) ([⟨g, .cells (b.data.map (fun x => Value.int .u8 x.toNat) ++ Array.replicate n (.int .u8 0)) e (m, m + 1)⟩] :: Ls)) : Ops C ops (⟨some d, .convert s t x, ty, pos, af, none⟩ :: rest) ks E Ls := by
  refine ⟨fun a w f gs => ?_⟩
  refine wpList_plain rfl fun K hK => ?_
  unfold Oper.wp
  have : (execOp a.eval ⟨some d, .convert s t x, ty, pos, af, none⟩).run C.P w = .ok (.value (.slice (some ⟨w.heap.size, 0, none⟩) b.size (grownCap w b.size 0 e))) (w.drew.alloc (.cells (bytesRow b (grownCap w b.size 0 e)) e ((bytesRow b (grownCap w b.size 0 e)).size, (bytesRow b (grownCap w b.size 0 e)).size + 1))) := by
    simp only [execOp, f.ev hx, Sem.run_bind, run_bytes_of_string w s t e b c.h h1 h2, Result.andThen_ok, Sem.run_pure]
  rw [this]
  refine hK _ _ ((k w.heap.size _ (grownCap w b.size 0 e - b.size) (bytesRow b (grownCap w b.size 0 e)).size gs.size (grownCap_ge w b.size 0 e)).out _ _ (f.put _ (Nat.lt_of_succ_le (by simpa [Nat.blt] using hn))) ?_)
  have gd : Goes C.w0 C.L0 w.drew Ls.flatten := ⟨gs.os, gs.tape, gs.output, gs.size, gs.keep, ⟨gs.now.nd, gs.now.here⟩, gs.new⟩
  exact Goes.frame (Lc := []) gd (goes_new w.drew _)
/-! ### make with room -/
theorem op_makeR {x y : Operand} {t e size bytes : Nat} {z : Value} [c : TSlice C.P t e size bytes z] {ik ik' : IntKind} {i j : Int} (l n : Nat)
    (hn : Nat.blt d C.fn.ntmps = true) (hx : ev E x = some (.int ik i)) (hy : ev E y = some (.int ik' j)) (hi : i = l) (hj : j = n) (hln : l ≤ n) (hb : n * bytes ≤ 281474976710656) (hb2 : n ≤ 9223372036854775807)
    (k : ∀ g, C.w0.heap.size ≤ g → Ops C ops rest ks ((d, .slice (some ⟨g, 0, none⟩) l n) :: E) ([⟨g, .cells ((List.replicate n z.cells.toList).flatten).toArray e (0, 0)⟩] :: Ls)) :
    Ops C ops (⟨some d, .makeSlice t x y, ty, pos, af, none⟩ :: rest) ks E Ls := by
  subst hi; subst hj
  refine ⟨fun a w f gs => ?_⟩
  refine wpList_plain rfl fun K hK => ?_
  unfold Oper.wp
  obtain ⟨ii, hi, hz0, hz1, hz2⟩ := infoParts c.h2
  have : (execOp a.eval ⟨some d, .makeSlice t x y, ty, pos, af, none⟩).run C.P w = .ok (.value (.slice (some ⟨w.heap.size, 0, none⟩) l n)) (w.alloc (.cells ((List.replicate n z.cells.toList).flatten).toArray e (0, 0))) := by
    have hw : IntKind.i64.wrap (n : Int) = n := wrap_in (by simp only [kLo]; omega) (by simp only [kHi]; omega)
    have hw' : IntKind.i64.wrap (l : Int) = l := wrap_in (by simp only [kLo]; omega) (by simp only [kHi]; omega)
    have hl : ¬ ((n : Int) < 0) := by omega
    have hl' : ¬ ((l : Int) < 0) := by omega
    have hl2 : ¬ (n < l) := by omega
    have hb'' : ¬ (281474976710656 < (bytes : Int) * n) := by
      have : (bytes : Int) * n = ((n * bytes : Nat) : Int) := by rw [Int.natCast_mul, Int.mul_comm]
      rw [this]; omega
    have hsz := c.h3
    have hfl := zeros_flat n size c.h4 z.cells.toList (by simpa using hsz)
    simp only [Array.toArray_toList] at hfl
    rcases Nat.eq_zero_or_pos (n * size) with h0 | h0
    · have hn0 : n = 0 := by
        rcases Nat.mul_eq_zero.1 h0 with h | h
        · exact h
        · have := c.h4; omega
      subst hn0
      simp [execOp, f.ev hx, f.ev hy, Instr.makeSlice, asInt, asIntOf, underlying, c.h1, typeInfo, sizeOf, hi, hz1, hz2, hw', hl', newRow, show l = 0 by omega]
      have e0 : Array.range 0 = #[] := by apply Array.ext'; simp
      simp [e0, IntKind.wrap, IntKind.bits, IntKind.signed]
    · simp [execOp, f.ev hx, f.ev hy, Instr.makeSlice, asInt, asIntOf, underlying, c.h1, typeInfo, sizeOf, zeroValue, hi, hz0, hz1, hz2, hw, hw', hl, hl', hl2, hb'', Nat.ne_of_gt h0, newRow, hsz, hfl]
  rw [this]
  refine hK _ _ ((k _ gs.size).out _ _ (f.put _ (Nat.lt_of_succ_le (by simpa [Nat.blt] using hn))) ?_)
  exact Goes.frame (Lc := []) gs (goes_new w _)
/-- A part of an array in memory, as a slice. -/
theorem val_sliceP {x y y' : Operand} {t n e size : Nat} [c : TArr C.P t n e size] {g o : Nat} {ik ik' : IntKind} {l h : Int} (l' h' : Nat)
    (hx : ev E x = some (.pointer (some ⟨g, o, none⟩))) (hy : ev E y = some (.int ik l)) (hy' : ev E y' = some (.int ik' h)) (hl : l = l') (hh : h = h') (hb : l' < n ∧ l' ≤ h' ∧ h' ≤ n) :
    Val C E ⟨dd, .slice t x (some y) (some y') none, ty, pos, af, gg⟩ (.slice (some ⟨g, o + l' * size, none⟩) (h' - l') (n - l')) := ⟨fun a f w => by
  subst hl; subst hh
  have h2 := c.h2
  cases hi : C.P.info? e with
  | none => simp [hi] at h2
  | some ii =>
    simp [hi] at h2
    have h3 : (l' : Int) ≤ h' := by omega
    have h4 : (h' : Int) ≤ n := by omega
    have h5 : ¬ n = l' := by omega
    simp [execOp, f.ev hx, f.ev hy, f.ev hy', Instr.sliceAt, Instr.sureAddr, Instr.sliceBounds, Instr.sliceBound, asIntOf, underlying, c.h1, sizeOf, typeInfo, hi, h2, h3, h4, h5, hb.2.1, hb.2.2, add_addr]⟩
end
end Go.Proofs.Eng
