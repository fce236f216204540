/- The engine, part G: structs of two whole numbers, compared. -/
import Derived.Test.YtjfpcckdelocpaaDoorEngF
import Derived.Laws.StructEq
set_option linter.unusedVariables false
set_option linter.unusedSimpArgs false
namespace Go.Proofs.Eng
open Go.RowKit
class TStr2 (P : Program) (t : Nat) (t0 t1 : outParam Nat) : Prop where
  hu : P.underlying t = some (.struct (P.fieldsOf t))
  hp : P.stoodInHeld t = false
  hm : P.eqGuardType P.depth t = false
  hf : (P.fieldsOf t).toList.map (fun f => (f.name == "_", f.type, f.offset)) = [(false, t0, 0), (false, t1, 1)]
section
variable {C : Ctx} {ks : List Kont} {E : Env} {Ls Ls' : List Hp} {ops : Array Oper} {rest : List Oper}
variable {ty : Nat} {pos : String} {af : Array Edge} {d : Nat}
theorem run_eq2 {P : Program} {w : World} {t t0 t1 : Nat} [c : TStr2 P t t0 t1] [c0 : TOne P t0] [c1 : TOne P t1] {k0 k1 : IntKind} [i0 : TInt P t0 k0] [i1 : TInt P t1 k1] {a b a' b' : Int} :
    (Op.equalIn 10000 t (.agg #[.int k0 a, .int k1 b]) (.agg #[.int k0 a', .int k1 b'])).run P w = .ok (a == a' && b == b') w := by
  rw [show 10000 = 9999 + 1 from rfl, run_equalIn_agg w 9999 t _ _ c.hu c.hp]
  have hf := c.hf
  generalize (P.fieldsOf t).toList = fs at hf
  obtain ⟨f0, f1, rfl⟩ : ∃ f0 f1, fs = [f0, f1] := by
    have hl := congrArg List.length hf
    rcases fs with _ | ⟨f0, _ | ⟨f1, _ | ⟨f2, r⟩⟩⟩
    · simp at hl
    · simp at hl
    · exact ⟨f0, f1, rfl⟩
    · simp at hl
  simp only [List.map_cons, List.map_nil, List.cons.injEq, Prod.mk.injEq, beq_eq_false_iff_ne, and_true] at hf
  obtain ⟨⟨n0, e0, o0⟩, n1, e1, o1⟩ := hf
  have p0 : ∀ cs : Array Value, ∀ v, cs[0]? = some v → (part f0.type cs f0.offset).run P w = .ok v w := fun cs v hv => by
    rw [e0, o0]; exact run_part1 isAgg_one hv
  have p1 : ∀ cs : Array Value, ∀ v, cs[1]? = some v → (part f1.type cs f1.offset).run P w = .ok v w := fun cs v hv => by
    rw [e1, o1]; exact run_part1 isAgg_one hv
  have q0 := run_equalIn_int (P := P) w 9998 f0.type k0 k0 a a' (by rw [e0]; exact i0.h)
  have q1 := run_equalIn_int (P := P) w 9998 f1.type k1 k1 b b' (by rw [e1]; exact i1.h)
  simp only [Op.eqFields, if_pos n0, if_pos n1, Sem.run_bind, p0 _ _ (show #[Value.int k0 a, .int k1 b][0]? = some (.int k0 a) from rfl), p0 _ _ (show #[Value.int k0 a', .int k1 b'][0]? = some (.int k0 a') from rfl),
    p1 _ _ (show #[Value.int k0 a, .int k1 b][1]? = some (.int k1 b) from rfl), p1 _ _ (show #[Value.int k0 a', .int k1 b'][1]? = some (.int k1 b') from rfl), Result.andThen_ok, q0]
  cases h1 : (a == a') with
  | false => simp
  | true =>
    simp only [Bool.not_true, Bool.false_eq_true, if_false, Sem.run_bind, p1 _ _ (show #[Value.int k0 a, .int k1 b][1]? = some (.int k1 b) from rfl), p1 _ _ (show #[Value.int k0 a', .int k1 b'][1]? = some (.int k1 b') from rfl), Result.andThen_ok, q1]
    cases h2 : (b == b') <;> simp
theorem op_nes2 {bt bt' t0 t1 : Nat} {x y : Operand} [c : TStr2 C.P bt t0 t1] [c0 : TOne C.P t0] [c1 : TOne C.P t1] {k0 k1 : IntKind} [i0 : TInt C.P t0 k0] [i1 : TInt C.P t1 k1] {a b a' b' : Int} {r : Bool}
    (hn : Nat.blt d C.fn.ntmps = true) (hx : ev E x = some (.agg #[.int k0 a, .int k1 b])) (hy : ev E y = some (.agg #[.int k0 a', .int k1 b'])) (hr : (!(a == a' && b == b')) = r) (k : Ops C ops rest ks ((d, .bool r) :: E) Ls) :
    Ops C ops (⟨some d, .binOp .neq bt x y bt', ty, pos, af, none⟩ :: rest) ks E Ls :=
  ops_pure hn (fun a1 w f g => by
    simp only [execOp, f.ev hx, f.ev hy, Sem.run_bind, run_eqGuard_agg w .neq bt x y _ _ c.hm, Result.andThen_ok, run_neq_struct, run_eq2, Sem.run_pure, hr]) k
theorem ne2_t {a b a' b' : Int} (h : ¬ (a = a' ∧ b = b')) : (!(a == a' && b == b')) = true := by
  simp only [Bool.not_eq_true', Bool.and_eq_false_iff, beq_eq_false_iff_ne, ne_eq]
  by_cases e : a = a'
  · exact .inr (fun e2 => h ⟨e, e2⟩)
  · exact .inl e
theorem ne2_f {a b a' b' : Int} (h1 : a = a') (h2 : b = b') : (!(a == a' && b == b')) = false := by simp [h1, h2]
end
end Go.Proofs.Eng
