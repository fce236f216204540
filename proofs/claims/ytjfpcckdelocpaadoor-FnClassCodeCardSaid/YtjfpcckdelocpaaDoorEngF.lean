/- The engine, part F: slices of slices. -/
import Derived.Test.YtjfpcckdelocpaaDoorEngE
set_option linter.unusedVariables false
set_option linter.unusedSimpArgs false
namespace Go.Proofs.Eng
open Go.RowKit
section
variable {C : Ctx} {ks : List Kont} {E : Env} {Ls Ls' : List Hp} {ops : Array Oper} {rest : List Oper}
variable {ty : Nat} {pos : String} {af : Array Edge} {d : Nat}
theorem add_zero_addr (a : Addr) : a.add 0 = a := by simp [Addr.add]
/-- s[:h] -/
theorem op_sliceH {x y : Operand} {t e size bytes : Nat} {z : Value} [c : TSlice C.P t e size bytes z] {A : Option Addr} {len cap : Nat} {ik : IntKind} {i : Int}
    (hn : Nat.blt d C.fn.ntmps = true) (hx : ev E x = some (.slice A len cap)) (hy : ev E y = some (.int ik i)) (hb : 0 ≤ i ∧ i ≤ cap)
    (k : Ops C ops rest ks ((d, .slice A i.toNat cap) :: E) Ls) : Ops C ops (⟨some d, .slice t x none (some y) none, ty, pos, af, none⟩ :: rest) ks E Ls :=
  ops_pure hn (fun a w f gs => by
    obtain ⟨ii, hi, hz0, hz1, hz2⟩ := infoParts c.h2
    have e : Option.map (fun x : Addr => x.add 0) A = A := by cases A <;> simp [add_zero_addr]
    simp [execOp, f.ev hx, f.ev hy, Instr.sliceAt, Instr.slice, Instr.sliceBounds, Instr.sliceBound, asIntOf, underlying, c.h1, sizeOf, typeInfo, hi, hz1, hb.1, hb.2, e]) k
/-- s[l:h] -/
theorem op_sliceLH {x y y' : Operand} {t e size bytes : Nat} {z : Value} [c : TSlice C.P t e size bytes z] {g o len cap l h : Nat} {ik ik' : IntKind}
    (hn : Nat.blt d C.fn.ntmps = true) (hx : ev E x = some (.slice (some ⟨g, o, none⟩) len cap)) (hy : ev E y = some (.int ik (l : Nat))) (hy' : ev E y' = some (.int ik' (h : Nat))) (hb : l < cap ∧ l ≤ h ∧ h ≤ cap)
    (k : Ops C ops rest ks ((d, .slice (some ⟨g, o + l * size, none⟩) (h - l) (cap - l)) :: E) Ls) : Ops C ops (⟨some d, .slice t x (some y) (some y') none, ty, pos, af, none⟩ :: rest) ks E Ls :=
  ops_pure hn (fun a w f gs => by
    obtain ⟨ii, hi, hz0, hz1, hz2⟩ := infoParts c.h2
    have h1 : (l : Int) ≤ h := by omega
    have h2 : (h : Int) ≤ cap := by omega
    have h3 : ¬ cap = l := by omega
    simp [execOp, f.ev hx, f.ev hy, f.ev hy', Instr.sliceAt, Instr.slice, Instr.sliceBounds, Instr.sliceBound, asIntOf, underlying, c.h1, sizeOf, typeInfo, hi, hz1, h1, h2, h3, hb.2.1, hb.2.2, add_addr]) k
end
end Go.Proofs.Eng
