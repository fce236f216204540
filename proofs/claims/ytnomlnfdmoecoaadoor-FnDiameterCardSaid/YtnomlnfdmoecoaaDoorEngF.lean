/- The engine, part F: slices of slices. -/
import Derived.Test.YtnomlnfdmoecoaaDoorEngE
import Derived.Laws.StructEq
set_option linter.unusedVariables false
set_option linter.unusedSimpArgs false
namespace Go.Proofs.Eng
open Go.RowKit
section
variable {C : Ctx} {ks : List Kont} {E : Env} {Ls Ls' : List Hp} {ops : Array Oper} {rest : List Oper}
variable {ty : Nat} {pos : String} {af : Array Edge} {d : Nat}
theorem add_zero_addr (a : Addr) : a.add 0 = a := by simp [Addr.add]
/-- s[:h] -/
theorem op_sliceH {x y : Operand} {t e size bytes : Nat} {z : Value} [c : TSlice C.P t e size bytes z] {A : Option Addr} {len cap : Nat} {ik : IntKind} {i : Int}
    (hn : Nat.blt d C.fn.ntmps = true) (hx : ev E x = some (.slice A len cap)) (hy : ev E y = some (.int ik i)) (hb : 0 ≤ i ∧ i ≤ cap)
    (k : Ops C ops rest ks ((d, .slice A i.toNat cap) :: E) Ls) : Ops C ops (⟨some d, .slice t x none (some y) none, ty, pos, af, none⟩ :: rest) ks E Ls :=
  ops_pure hn (fun a w f gs => by
    obtain ⟨ii, hi, hz0, hz1, hz2⟩ := infoParts c.h2
    have e : Option.map (fun x : Addr => x.add 0) A = A := by cases A <;> simp [add_zero_addr]
    simp [execOp, f.ev hx, f.ev hy, Instr.sliceAt, Instr.slice, Instr.sliceBounds, Instr.sliceBound, asIntOf, underlying, c.h1, sizeOf, typeInfo, hi, hz1, hb.1, hb.2, e]) k
/-- s[l:h] -/
theorem op_sliceLH {x y y' : Operand} {t e size bytes : Nat} {z : Value} [c : TSlice C.P t e size bytes z] {g o len cap l h : Nat} {ik ik' : IntKind}
    (hn : Nat.blt d C.fn.ntmps = true) (hx : ev E x = some (.slice (some ⟨g, o, none⟩) len cap)) (hy : ev E y = some (.int ik (l : Nat))) (hy' : ev E y' = some (.int ik' (h : Nat))) (hb : l < cap ∧ l ≤ h ∧ h ≤ cap)
    (k : Ops C ops rest ks ((d, .slice (some ⟨g, o + l * size, none⟩) (h - l) (cap - l)) :: E) Ls) : Ops C ops (⟨some d, .slice t x (some y) (some y') none, ty, pos, af, none⟩ :: rest) ks E Ls :=
  ops_pure hn (fun a w f gs => by
    obtain ⟨ii, hi, hz0, hz1, hz2⟩ := infoParts c.h2
    have h1 : (l : Int) ≤ h := by omega
    have h2 : (h : Int) ≤ cap := by omega
    have h3 : ¬ cap = l := by omega
    simp [execOp, f.ev hx, f.ev hy, f.ev hy', Instr.sliceAt, Instr.slice, Instr.sliceBounds, Instr.sliceBound, asIntOf, underlying, c.h1, sizeOf, typeInfo, hi, hz1, h1, h2, h3, hb.2.1, hb.2.2, add_addr]) k
end
end Go.Proofs.Eng

set_option linter.unusedVariables false
set_option linter.unusedSimpArgs false
namespace Go.Proofs.Eng
open Go.RowKit
class TStr2 (P : Program) (t : Nat) (t0 t1 : outParam Nat) : Prop where
  hu : P.underlying t = some (.struct (P.fieldsOf t))
  hp : P.stoodInHeld t = false
  hm : P.eqGuardType P.depth t = false
  hf : (P.fieldsOf t).toList.map (fun f => (f.name == "_", f.type, f.offset)) = [(false, t0, 0), (false, t1, 1)]
section
variable {C : Ctx} {ks : List Kont} {E : Env} {Ls Ls' : List Hp} {ops : Array Oper} {rest : List Oper}
variable {ty : Nat} {pos : String} {af : Array Edge} {d : Nat}
theorem run_eq2 {P : Program} {w : World} {t t0 t1 : Nat} [c : TStr2 P t t0 t1] [c0 : TOne P t0] [c1 : TOne P t1] {k0 k1 : IntKind} [i0 : TInt P t0 k0] [i1 : TInt P t1 k1] {a b a' b' : Int} :
    (Op.equalIn 10000 t (.agg #[.int k0 a, .int k1 b]) (.agg #[.int k0 a', .int k1 b'])).run P w = .ok (a == a' && b == b') w := by
  rw [show 10000 = 9999 + 1 from rfl, run_equalIn_agg w 9999 t _ _ c.hu c.hp]
  have hf := c.hf
  generalize (P.fieldsOf t).toList = fs at hf
  obtain ⟨f0, f1, rfl⟩ : ∃ f0 f1, fs = [f0, f1] := by
    have hl := congrArg List.length hf
    rcases fs with _ | ⟨f0, _ | ⟨f1, _ | ⟨f2, r⟩⟩⟩
    · simp at hl
    · simp at hl
    · exact ⟨f0, f1, rfl⟩
    · simp at hl
  simp only [List.map_cons, List.map_nil, List.cons.injEq, Prod.mk.injEq, beq_eq_false_iff_ne, and_true] at hf
  obtain ⟨⟨n0, e0, o0⟩, n1, e1, o1⟩ := hf
  have p0 : ∀ cs : Array Value, ∀ v, cs[0]? = some v → (part f0.type cs f0.offset).run P w = .ok v w := fun cs v hv => by
    rw [e0, o0]; exact run_part1 isAgg_one hv
  have p1 : ∀ cs : Array Value, ∀ v, cs[1]? = some v → (part f1.type cs f1.offset).run P w = .ok v w := fun cs v hv => by
    rw [e1, o1]; exact run_part1 isAgg_one hv
  have q0 := run_equalIn_int (P := P) w 9998 f0.type k0 k0 a a' (by rw [e0]; exact i0.h)
  have q1 := run_equalIn_int (P := P) w 9998 f1.type k1 k1 b b' (by rw [e1]; exact i1.h)
  simp only [Op.eqFields, if_pos n0, if_pos n1, Sem.run_bind, p0 _ _ (show #[Value.int k0 a, .int k1 b][0]? = some (.int k0 a) from rfl), p0 _ _ (show #[Value.int k0 a', .int k1 b'][0]? = some (.int k0 a') from rfl),
    p1 _ _ (show #[Value.int k0 a, .int k1 b][1]? = some (.int k1 b) from rfl), p1 _ _ (show #[Value.int k0 a', .int k1 b'][1]? = some (.int k1 b') from rfl), Result.andThen_ok, q0]
  cases h1 : (a == a') with
  | false => simp
  | true =>
    simp only [Bool.not_true, Bool.false_eq_true, if_false, Sem.run_bind, p1 _ _ (show #[Value.int k0 a, .int k1 b][1]? = some (.int k1 b) from rfl), p1 _ _ (show #[Value.int k0 a', .int k1 b'][1]? = some (.int k1 b') from rfl), Result.andThen_ok, q1]
    cases h2 : (b == b') <;> simp
theorem op_nes2 {bt bt' t0 t1 : Nat} {x y : Operand} [c : TStr2 C.P bt t0 t1] [c0 : TOne C.P t0] [c1 : TOne C.P t1] {k0 k1 : IntKind} [i0 : TInt C.P t0 k0] [i1 : TInt C.P t1 k1] {a b a' b' : Int} {r : Bool}
    (hn : Nat.blt d C.fn.ntmps = true) (hx : ev E x = some (.agg #[.int k0 a, .int k1 b])) (hy : ev E y = some (.agg #[.int k0 a', .int k1 b'])) (hr : (!(a == a' && b == b')) = r) (k : Ops C ops rest ks ((d, .bool r) :: E) Ls) :
    Ops C ops (⟨some d, .binOp .neq bt x y bt', ty, pos, af, none⟩ :: rest) ks E Ls :=
  ops_pure hn (fun a1 w f g => by
    simp only [execOp, f.ev hx, f.ev hy, Sem.run_bind, run_eqGuard_agg w .neq bt x y _ _ c.hm, Result.andThen_ok, run_neq_struct, run_eq2, Sem.run_pure, hr]) k
theorem ne2_t {a b a' b' : Int} (h : ¬ (a = a' ∧ b = b')) : (!(a == a' && b == b')) = true := by
  simp only [Bool.not_eq_true', Bool.and_eq_false_iff, beq_eq_false_iff_ne, ne_eq]
  by_cases e : a = a'
  · exact .inr (fun e2 => h ⟨e, e2⟩)
  · exact .inl e
theorem ne2_f {a b a' b' : Int} (h1 : a = a') (h2 : b = b') : (!(a == a' && b == b')) = false := by simp [h1, h2]
end
end Go.Proofs.Eng
