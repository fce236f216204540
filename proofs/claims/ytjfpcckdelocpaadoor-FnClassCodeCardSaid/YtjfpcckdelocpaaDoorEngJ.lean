/- The engine, part J: a slice literal of elements of any size. -/
import Derived.Test.YtjfpcckdelocpaaDoorEngI
set_option linter.unusedVariables false
set_option linter.unusedSimpArgs false
namespace Go.Proofs.Eng
open Go.RowKit
section
variable {C : Ctx} {ks : List Kont} {E : Env} {Ls Ls' : List Hp} {ops : Array Oper} {rest : List Oper}
variable {ty : Nat} {pos : String} {af : Array Edge} {d : Nat}
theorem op_sliceF {t n e size bytes : Nat} {z : Value} [c : TSlice C.P t e size bytes z] {ps : Array (Nat × Operand)} {is : List Nat} {vs : List Value} {cs : Array Value}
    (hn : Nat.blt d C.fn.ntmps = true) (hi : ps.toList.map (·.1) = is) (hx : evs E (ps.toList.map (·.2)) = some vs) (hn0 : ¬ n * size = 0) (hs : n * size ≤ 1000000)
    {zs : List Value} (hzs : z.cells = zs.toArray) (hzl : zs.length = size)
    (hb : Instr.fill (fun i => some (i * size, size)) ((List.replicate n zs).flatten).toArray (is.zip vs) = some cs)
    (k : ∀ g, C.w0.heap.size ≤ g → Ops C ops rest ks ((d, .slice (some ⟨g, 0, none⟩) n n) :: E) ([⟨g, .cells cs e (0, 0)⟩] :: Ls)) : Ops C ops (⟨some d, .buildSlice t n ps, ty, pos, af, none⟩ :: rest) ks E Ls := by
  refine ⟨fun a w f gs => ?_⟩
  refine wpList_plain rfl fun K hK => ?_
  unfold Oper.wp
  obtain ⟨ii, hii, hz0, hz1, hz2⟩ := infoParts c.h2
  have e1 : (ps.map fun (i, x) => (i, a.eval x)) = (is.zip vs).toArray := by
    apply Array.ext'
    simp only [Array.toList_map]
    rw [← hi, ← f.evs hx]
    induction ps.toList with
    | nil => rfl
    | cons p r ih => simpa using ih
  have hb : Instr.fill (fun i => some (i * size, size)) ((Array.range (n * size)).map (z.cells[· % z.cells.size]!)) (is.zip vs) = some cs := by
    have h0 : 0 < size := Nat.pos_of_ne_zero (fun h => hn0 (by rw [h, Nat.mul_zero]))
    have e2 : z.cells.size = size := by rw [hzs]; simpa using hzl
    rw [e2, hzs, zeros_flat n size h0 zs hzl]
    exact hb
  have : (execOp a.eval ⟨some d, .buildSlice t n ps, ty, pos, af, none⟩).run C.P w = .ok (.value (.slice (some ⟨w.heap.size, 0, none⟩) n n)) (w.alloc (.cells cs e (0, 0))) := by
    have h2 : ¬ (n * size > 2 ^ 24) := by omega
    simp only [execOp, e1, Instr.buildSlice, underlying, Sem.run_bind, run_program, Result.andThen_ok, c.h1, Sem.run_pure, sizeOf, typeInfo, hii, hz1, if_neg h2, if_neg hn0, zeroValue, hz0, hb, newRow, run_newObj]
    rfl
  rw [this]
  refine hK _ _ ((k _ gs.size).out _ _ (f.put _ (Nat.lt_of_succ_le (by simpa [Nat.blt] using hn))) ?_)
  exact Goes.frame (Lc := []) gs (goes_new w _)
end
end Go.Proofs.Eng
