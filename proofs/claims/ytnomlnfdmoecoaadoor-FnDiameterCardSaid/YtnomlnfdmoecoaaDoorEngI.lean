/- The engine, part I: scopes, labels; interfaces that are nil; the complement. -/
import Derived.Test.YtnomlnfdmoecoaaDoorEngH
import Derived.Scope
set_option linter.unusedVariables false
set_option linter.unusedSimpArgs false
namespace Go.Proofs.Eng
open Go.RowKit
section
variable {C : Ctx} {ks : List Kont} {E : Env} {Ls Ls' : List Hp} {ops : Array Oper} {rest : List Oper}
variable {ty : Nat} {pos : String} {af : Array Edge} {d : Nat}
theorem after_goto (C : Ctx) : ∀ (ks : List Kont) (l : Nat) (a : Act) (w : World), after C ks (.goto l) a w → False
  | [], l, a, w, h => h
  | .code c :: ks, l, a, w, h => after_goto C ks l a w h
  | .block id :: ks, l, a, w, h => after_goto C ks l a w h
  | .inv J :: ks, l, a, w, h => after_goto C ks l a w h
theorem run_scope {c : Code} (h : Run C c ks E Ls) : Run C (.scope c) ks E Ls := ⟨fun a w f g => wp_scope_straight (Code.wp_mono (fun {e a' w'} hq => by
  cases e with
  | goto l => exact (after_goto C ks l a' w' hq).elim
  | normal => exact hq
  | exit id => exact hq
  | ret => exact hq
  | panic ch => exact hq
  | outgrown => exact hq) (h.out a w f g))⟩
theorem run_label {l : Nat} (h : Fin C .normal ks E Ls) : Run C (.label l) ks E Ls := ⟨fun a w f g => wp_label (h.out a w f g)⟩
class TIface (P : Program) (t : Nat) : Prop where
  h : (match P.underlying t with | some (.interface _) => true | _ => false) = true
theorem equal_nilIface {P : Program} {w : World} {t : Nat} [c : TIface P t] : (Op.equal t .nilIface .nilIface).run P w = .ok true w := by
  have h := c.h
  split at h
  · rename_i e hu
    show (Op.equalIn (9999 + 1) t _ _).run P w = _
    unfold Op.equalIn
    simp [underlying, hu]
  · cases h
theorem op_neIface {bt bt' : Nat} {x : Operand} [c : TIface C.P bt] (hn : Nat.blt d C.fn.ntmps = true) (hx : ev E x = some .nilIface) (k : Ops C ops rest ks ((d, .bool false) :: E) Ls) : Ops C ops (⟨some d, .binOp .neq bt x (.const .nilIface) bt', ty, pos, af, none⟩ :: rest) ks E Ls :=
  ops_pure hn (fun a w f g => by
    have e1 : a.eval (.const .nilIface) = .nilIface := rfl
    have e2 : (eqGuard .neq bt x (.const .nilIface) .nilIface .nilIface).run C.P w = .ok () w := by simp [eqGuard]
    simp only [execOp, f.ev hx, e1, Sem.run_bind, e2, Result.andThen_ok, binOp, equal_nilIface, Sem.run_pure]; rfl) k
theorem op_eqIface {bt bt' : Nat} {x : Operand} [c : TIface C.P bt] (hn : Nat.blt d C.fn.ntmps = true) (hx : ev E x = some .nilIface) (k : Ops C ops rest ks ((d, .bool true) :: E) Ls) : Ops C ops (⟨some d, .binOp .eql bt x (.const .nilIface) bt', ty, pos, af, none⟩ :: rest) ks E Ls :=
  ops_pure hn (fun a w f g => by
    have e1 : a.eval (.const .nilIface) = .nilIface := rfl
    have e2 : (eqGuard .eql bt x (.const .nilIface) .nilIface .nilIface).run C.P w = .ok () w := by simp [eqGuard]
    simp only [execOp, f.ev hx, e1, Sem.run_bind, e2, Result.andThen_ok, binOp, equal_nilIface, Sem.run_pure]) k
theorem op_compl {bt : Nat} {x : Operand} {ik : IntKind} {m r : Int} (hn : Nat.blt d C.fn.ntmps = true) (hx : ev E x = some (.int ik m)) (hr : bitop .xor ik (if ik.signed = true then -1 else ik.max) m = r) (k : Ops C ops rest ks ((d, .int ik r) :: E) Ls) : Ops C ops (⟨some d, .unOp .xor bt x, ty, pos, af, none⟩ :: rest) ks E Ls :=
  ops_pure hn (fun a w f g => by subst hr; simp [execOp, f.ev hx, Op.unary, Op.intBits, bitop]) k
theorem op_bitsE {op : BinOp} {bt bt' : Nat} {x y : Operand} {ik : IntKind} {m n r : Int} (ho : isBits op = true) (hn : Nat.blt d C.fn.ntmps = true) (hx : ev E x = some (.int ik m)) (hy : ev E y = some (.int ik n)) (hr : bitop op ik m n = r) (k : Ops C ops rest ks ((d, .int ik r) :: E) Ls) : Ops C ops (⟨some d, .binOp op bt x y bt', ty, pos, af, none⟩ :: rest) ks E Ls := by
  subst hr; exact op_bits (hn := hn) ho hx hy k
theorem op_shlE {bt bt' : Nat} {x y : Operand} {ik yk : IntKind} {m n r : Int} (hn : Nat.blt d C.fn.ntmps = true) (hx : ev E x = some (.int ik m)) (hy : ev E y = some (.int yk n)) (h : 0 ≤ n) (hr : ik.wrap (m * 2 ^ (min n.toNat ik.bits)) = r) (k : Ops C ops rest ks ((d, .int ik r) :: E) Ls) : Ops C ops (⟨some d, .binOp .shl bt x y bt', ty, pos, af, none⟩ :: rest) ks E Ls := by
  subst hr; exact op_shl (hn := hn) hx hy h k
theorem compl6 : bitop .xor .i32 (if IntKind.i32.signed = true then -1 else IntKind.i32.max) 63 = -64 := by decide
theorem compl12 : bitop .xor .i32 (if IntKind.i32.signed = true then -1 else IntKind.i32.max) 4095 = -4096 := by decide
theorem compl18 : bitop .xor .i32 (if IntKind.i32.signed = true then -1 else IntKind.i32.max) 262143 = -262144 := by decide
theorem run_loadVar {P : Program} {w : World} {g t n : Nat} {cs : Array Value} {fr : Nat × Nat} {lt : Nat} [TAgg P lt n] (hb : w.heap[g]? = some (.cells cs t fr)) (hsz : cs.size = n) : (loadVar lt ⟨g, 0, none⟩).run P w = .ok (.agg cs) w := by
  have hl := run_loadCells_list (P := P) (w := w) ⟨g, 0, none⟩ cs.toList (fun j v hv => by
    rw [add_addr, cell_of_heap hb, Nat.zero_add]
    simpa using hv)
  have e : cs.toList.length = n := by simpa using hsz
  rw [e] at hl
  simp only [loadVar, Sem.run_bind, isAgg_agg, Result.andThen_ok, if_true, sizeOf_agg, hl, Sem.run_pure]
theorem slot_of {n t : Nat} {v : Value} {a : Act} (f : Fits E n a) (hv : E.find t = some v) : a.tmps[t]?.getD undef = v := by
  rw [← Array.getD_eq_getD_getElem?]; exact f.getD hv
theorem fin_retC {t q tt n : Nat} {cs : Array Value} {fr : Nat × Nat} {lt : Nat} [TAgg C.P lt n] (hres : C.fn.results = #[.cell t lt]) (hv : E.find t = some (.pointer (some ⟨q, 0, none⟩))) (hh : Has Ls q (.cells cs tt fr)) (hsz : cs.size = n)
    (h : ∀ w, Goes C.w0 C.L0 w Ls.flatten → C.R (.returned (.agg cs)) w) : Fin C .ret [] E Ls := by
  refine ⟨fun a w f g => ?_⟩
  have h1 := run_loadVar (P := C.P) (lt := lt) (show w.heap[q]? = _ from g.now.here _ hh.mem) hsz
  exact ⟨f.d, .agg cs, by simp [results, hres, slot_of f hv, asAddr, h1], h w g⟩
theorem fin_retTC {t u q tt n : Nat} {v : Value} {cs : Array Value} {fr : Nat × Nat} {lt : Nat} [TAgg C.P lt n] (hres : C.fn.results = #[.tmp u, .cell t lt]) (hu : E.find u = some v) (hv : E.find t = some (.pointer (some ⟨q, 0, none⟩))) (hh : Has Ls q (.cells cs tt fr)) (hsz : cs.size = n)
    (h : ∀ w, Goes C.w0 C.L0 w Ls.flatten → C.R (.returned (.tuple #[v, .agg cs])) w) : Fin C .ret [] E Ls := by
  refine ⟨fun a w f g => ?_⟩
  have h1 := run_loadVar (P := C.P) (lt := lt) (show w.heap[q]? = _ from g.now.here _ hh.mem) hsz
  exact ⟨f.d, .tuple #[v, .agg cs], by simp [results, hres, slot_of f hu, slot_of f hv, asAddr, h1], h w g⟩
theorem fin_retCC {t u q q' tt tt' n n' : Nat} {cs cs' : Array Value} {fr fr' : Nat × Nat} {lt lt' : Nat} [TAgg C.P lt n] [TAgg C.P lt' n'] (hres : C.fn.results = #[.cell t lt, .cell u lt']) (hv : E.find t = some (.pointer (some ⟨q, 0, none⟩))) (hu : E.find u = some (.pointer (some ⟨q', 0, none⟩)))
    (hh : Has Ls q (.cells cs tt fr)) (hsz : cs.size = n) (hh' : Has Ls q' (.cells cs' tt' fr')) (hsz' : cs'.size = n')
    (h : ∀ w, Goes C.w0 C.L0 w Ls.flatten → C.R (.returned (.tuple #[.agg cs, .agg cs'])) w) : Fin C .ret [] E Ls := by
  refine ⟨fun a w f g => ?_⟩
  have h1 := run_loadVar (P := C.P) (lt := lt) (show w.heap[q]? = _ from g.now.here _ hh.mem) hsz
  have h2 := run_loadVar (P := C.P) (lt := lt') (show w.heap[q']? = _ from g.now.here _ hh'.mem) hsz'
  exact ⟨f.d, .tuple #[.agg cs, .agg cs'], by simp [results, hres, slot_of f hu, slot_of f hv, asAddr, h1, h2], h w g⟩
end
end Go.Proofs.Eng

set_option linter.unusedVariables false
set_option linter.unusedSimpArgs false
namespace Go.Proofs.Eng
open Go.RowKit
section
variable {C : Ctx} {ks : List Kont} {E : Env} {Ls Ls' : List Hp} {ops : Array Oper} {rest : List Oper}
variable {ty : Nat} {pos : String} {af : Array Edge} {d : Nat}
theorem op_sliceF {t n e size bytes : Nat} {z : Value} [c : TSlice C.P t e size bytes z] {ps : Array (Nat × Operand)} {is : List Nat} {vs : List Value} {cs : Array Value}
    (hn : Nat.blt d C.fn.ntmps = true) (hi : ps.toList.map (·.1) = is) (hx : evs E (ps.toList.map (·.2)) = some vs) (hn0 : ¬ n * size = 0) (hs : n * size ≤ 1000000)
    {zs : List Value} (hzs : z.cells = zs.toArray) (hzl : zs.length = size)
    (hb : Instr.fill (fun i => some (i * size, size)) ((List.replicate n zs).flatten).toArray (is.zip vs) = some cs)
    (k : ∀ g, C.w0.heap.size ≤ g → Ops C ops rest ks ((d, .slice (some ⟨g, 0, none⟩) n n) :: E) ([⟨g, .cells cs e (0, 0)⟩] :: Ls)) : Ops C ops (⟨some d, .buildSlice t n ps, ty, pos, af, none⟩ :: rest) ks E Ls := by
  refine ⟨fun a w f gs => ?_⟩
  refine wpList_plain rfl fun K hK => ?_
  unfold Oper.wp
  obtain ⟨ii, hii, hz0, hz1, hz2⟩ := infoParts c.h2
  have e1 : (ps.map fun (i, x) => (i, a.eval x)) = (is.zip vs).toArray := by
    apply Array.ext'
    simp only [Array.toList_map]
    rw [← hi, ← f.evs hx]
    induction ps.toList with
    | nil => rfl
    | cons p r ih => simpa using ih
  have hb : Instr.fill (fun i => some (i * size, size)) ((Array.range (n * size)).map (z.cells[· % z.cells.size]!)) (is.zip vs) = some cs := by
    have h0 : 0 < size := Nat.pos_of_ne_zero (fun h => hn0 (by rw [h, Nat.mul_zero]))
    have e2 : z.cells.size = size := by rw [hzs]; simpa using hzl
    rw [e2, hzs, zeros_flat n size h0 zs hzl]
    exact hb
  have : (execOp a.eval ⟨some d, .buildSlice t n ps, ty, pos, af, none⟩).run C.P w = .ok (.value (.slice (some ⟨w.heap.size, 0, none⟩) n n)) (w.alloc (.cells cs e (0, 0))) := by
    have h2 : ¬ (n * size > 2 ^ 24) := by omega
    simp only [execOp, e1, Instr.buildSlice, underlying, Sem.run_bind, run_program, Result.andThen_ok, c.h1, Sem.run_pure, sizeOf, typeInfo, hii, hz1, if_neg h2, if_neg hn0, zeroValue, hz0, hb, newRow, run_newObj]
    rfl
  rw [this]
  refine hK _ _ ((k _ gs.size).out _ _ (f.put _ (Nat.lt_of_succ_le (by simpa [Nat.blt] using hn))) ?_)
  exact Goes.frame (Lc := []) gs (goes_new w _)
end
end Go.Proofs.Eng
