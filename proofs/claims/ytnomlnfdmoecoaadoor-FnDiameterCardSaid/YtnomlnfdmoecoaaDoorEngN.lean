/- The engine, part N: strings. -/
import Derived.Test.YtnomlnfdmoecoaaDoorEngM
import Derived.Test.YtnomlnfdmoecoaaDoorEngL
import Derived.Laws.BytesString
import Derived.Laws.Slices
set_option linter.unusedVariables false
set_option linter.unusedSimpArgs false
namespace Go.Proofs.Eng
open Go.RowKit
section
variable {C : Ctx} {ks : List Kont} {E : Env} {Ls Ls' : List Hp} {ops : Array Oper} {rest : List Oper}
variable {ty : Nat} {pos : String} {af : Array Edge} {d : Nat} {dd : Option Nat} {gg : Option (Nat × Bool)}
theorem val_strEq {bt bt' : Nat} {x y : Operand} {s1 s2 : ByteArray} {r : Bool} [c : TStr C.P bt] (hr : (s1.toList == s2.toList) = r) (hx : ev E x = some (.string s1)) (hy : ev E y = some (.string s2)) : Val C E ⟨dd, .binOp .eql bt x y bt', ty, pos, af, gg⟩ (.bool r) := ⟨fun a f w => by
  subst hr
  have e2 : (eqGuard .eql bt x y (.string s1) (.string s2)).run C.P w = .ok () w := by simp [eqGuard]
  simp [execOp, f.ev hx, f.ev hy, e2, binOp, Op.stringOp]⟩
theorem val_strH {x y : Operand} {t : Nat} {s : ByteArray} {ik : IntKind} {i : Int} [c : TStr C.P t] (hx : ev E x = some (.string s)) (hy : ev E y = some (.int ik i)) (h0 : 0 ≤ i) (h1 : i ≤ s.size) : Val C E ⟨dd, .slice t x none (some y) none, ty, pos, af, gg⟩ (.string (s.extract 0 i.toNat)) := ⟨fun a f w => by
  have := run_slice_string_h (P := C.P) w t s c.h ik i h0 h1
  simp [execOp, f.ev hx, f.ev hy, Instr.sliceAt, underlying, c.h, this]⟩
theorem foldl_push_size : ∀ (ns : List Int) (b : ByteArray), (ns.foldl (fun r n => r.push (UInt8.ofNat n.toNat)) b).size = b.size + ns.length
  | [], b => rfl
  | n :: ns, b => by
    rw [List.foldl_cons, foldl_push_size ns, ByteArray.size_push, List.length_cons]
    omega
/-- string(b), b a block of known bytes: a text of so many bytes. -/
theorem op_strOf {x : Operand} {s t e n c g e' : Nat} {fr : Nat × Nat} {cs : Array Value} (ns : List Int) [ct : TStr C.P t] (h1 : C.P.underlying s = some (.slice e)) (h2 : C.P.underlying e = some (.int .u8)) (hn : Nat.blt d C.fn.ntmps = true) (hx : ev E x = some (.slice (some ⟨g, 0, none⟩) n c))
    (hh : Has Ls g (.cells cs e' fr)) (hcs : cs = (ns.map (Value.int .u8)).toArray) (hl : ns.length = n)
    (k : ∀ b : ByteArray, b.size = n → Ops C ops rest ks ((d, .string b) :: E) Ls) : Ops C ops (⟨some d, .convert s t x, ty, pos, af, none⟩ :: rest) ks E Ls :=
  ops_pure (v := .string (ns.foldl (fun r n => r.push (UInt8.ofNat n.toNat)) ByteArray.empty)) hn (fun a w f gs => by
    have hb := gs.now.here _ hh.mem
    have hlc : (loadCells ⟨g, 0, none⟩ n).run C.P w = .ok (ns.map (Value.int .u8)).toArray w := by
      have := run_loadCells_list (P := C.P) (w := w) ⟨g, 0, none⟩ (ns.map (Value.int .u8)) (fun j v hv => by
        rw [add_addr, cell_of_heap hb, Nat.zero_add, hcs, List.getElem?_toArray]
        exact hv)
      rw [List.length_map, hl] at this
      exact this
    simp only [execOp, f.ev hx, Sem.run_bind, run_convert_bytes_string w s t e (some ⟨g, 0, none⟩) n c h1 h2 ct.h, run_bytesToString w ⟨g, 0, none⟩ n c ns hlc, Result.andThen_ok, Sem.run_pure])
    (k _ (by rw [foldl_push_size, hl]; exact Nat.zero_add n))
end
end Go.Proofs.Eng
