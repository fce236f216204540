/- The engine, part E: arrays, literals, least and greatest, ways that come together. -/
import Derived.Test.YtnomlnfdmoecoaaDoorEngD
import Derived.Deep.Upon
set_option linter.unusedVariables false
namespace Go.Proofs.Eng
open Go.RowKit
class TBuildA (P : Program) (t : Nat) (n : outParam Nat) (zero : outParam (List Value)) : Prop where
  hz : (P.info? t).map (fun i => i.zero) = some (some (.agg zero.toArray))
  hp : (match P.underlying t with | some (.array _ e) => (match P.info? e with | some i => Nat.beq i.size 1 | none => false) | _ => false) = true
  hl : zero.length = n
theorem bldA_offs {n j off : Nat} (h : ((List.range n).map some)[j]? = some (some off)) : off = j ∧ off < n := by
  rcases Nat.lt_or_ge j n with hj | hj
  · rw [List.getElem?_map, List.getElem?_range hj] at h
    simp at h
    omega
  · rw [List.getElem?_eq_none (by simpa using hj)] at h
    cases h
theorem run_buildA {P : Program} {w : World} {t n : Nat} {zero : List Value} [c : TBuildA P t n zero] {ps : List (Nat × Value)} {cs : List Value} (h1 : ∀ p ∈ ps, p.2.cells = #[p.2]) (h : bld ((List.range n).map some) zero ps = some cs) :
    (Instr.build t ps.toArray).run P w = .ok (.agg cs.toArray) w := by
  have hz := c.hz
  have hp := c.hp
  have hl := c.hl
  cases hi : P.info? t with
  | none => simp [hi] at hz
  | some i =>
    simp [hi] at hz
    cases hu : P.underlying t with
    | none => simp [hu] at hp
    | some dd =>
      cases dd <;> simp [hu] at hp
      rename_i len e
      cases he : P.info? e with
      | none => simp [he] at hp
      | some j =>
        simp [he] at hp
        have hfill := fill_bld (offs := (List.range n).map some) (place := fun i => some (i * 1, 1)) (by
          intro j off hj
          obtain ⟨rfl, _⟩ := bldA_offs hj
          simp) ps zero cs h1 (by
          intro j off hj
          have := (bldA_offs hj).2
          omega) h
        simp only [Instr.build, zeroValue, typeInfo, underlying, Sem.run_bind, run_program, Result.andThen_ok, hi, hz, hu, Sem.run_pure, Value.cells, sizeOf, he, hp]
        rw [hfill]
        simp
section
variable {C : Ctx} {ks : List Kont} {E : Env} {Ls Ls' : List Hp} {ops : Array Oper} {rest : List Oper}
variable {ty : Nat} {pos : String} {af : Array Edge} {d : Nat}
theorem op_buildA {t n : Nat} {zero : List Value} [c : TBuildA C.P t n zero] {ps : Array (Nat × Operand)} {is : List Nat} {vs : List Value} {cs : List Value}
    (hn : Nat.blt d C.fn.ntmps = true) (hi : ps.toList.map (·.1) = is) (hx : evs E (ps.toList.map (·.2)) = some vs) (h1 : ∀ v ∈ vs, v.cells = #[v]) (hb : bld ((List.range n).map some) zero (is.zip vs) = some cs)
    (k : Ops C ops rest ks ((d, .agg cs.toArray) :: E) Ls) : Ops C ops (⟨some d, .build t ps, ty, pos, af, none⟩ :: rest) ks E Ls :=
  ops_pure hn (fun a w f gs => by
    have e : (ps.map fun (i, x) => (i, a.eval x)) = (is.zip vs).toArray := by
      apply Array.ext'
      simp only [Array.toList_map]
      rw [← hi, ← f.evs hx]
      induction ps.toList with
      | nil => rfl
      | cons p r ih => simpa using ih
    simp only [execOp, e, Sem.run_bind, run_buildA (ps := is.zip vs) (fun p hp => h1 p.2 (List.of_mem_zip hp).2) hb, Result.andThen_ok, Sem.run_pure]) k
theorem op_min {x y : Operand} {a1 a2 : Nat} {ik ik' : IntKind} {m n : Int} (hn : Nat.blt d C.fn.ntmps = true) (hx : ev E x = some (.int ik m)) (hy : ev E y = some (.int ik' n))
    (k : Ops C ops rest ks ((d, .int ik (if n < m then n else m)) :: E) Ls) : Ops C ops (⟨some d, .call { callee := .builtin .min, args := #[x, y], argTypes := #[a1, a2] }, ty, pos, af, none⟩ :: rest) ks E Ls :=
  ops_pure hn (fun a w f gs => by
    simp [execOp, f.ev hx, f.ev hy, resolve, invoke, builtin, Builtin.min_, Builtin.min2]) k
theorem op_max {x y : Operand} {a1 a2 : Nat} {ik ik' : IntKind} {m n : Int} (hn : Nat.blt d C.fn.ntmps = true) (hx : ev E x = some (.int ik m)) (hy : ev E y = some (.int ik' n))
    (k : Ops C ops rest ks ((d, .int ik (if m < n then n else m)) :: E) Ls) : Ops C ops (⟨some d, .call { callee := .builtin .max, args := #[x, y], argTypes := #[a1, a2] }, ty, pos, af, none⟩ :: rest) ks E Ls :=
  ops_pure hn (fun a w f gs => by
    simp [execOp, f.ev hx, f.ev hy, resolve, invoke, builtin, Builtin.max_, Builtin.max2]) k
/-- A slice literal of elements of one cell each (or of none). -/
theorem op_sliceN {t n e bytes : Nat} {z : Value} [c : TSlice C.P t e 1 bytes z] {ps : Array (Nat × Operand)} {is : List Nat} {vs : List Value} {cs : List Value}
    (hn : Nat.blt d C.fn.ntmps = true) (hi : ps.toList.map (·.1) = is) (hx : evs E (ps.toList.map (·.2)) = some vs) (h1 : ∀ v ∈ vs, v.cells = #[v]) (hz : z.cells = #[z]) (hb : bld ((List.range n).map some) (List.replicate n z) (is.zip vs) = some cs) (hs : n ≤ 1000000)
    (k : ∀ g, C.w0.heap.size ≤ g → Ops C ops rest ks ((d, .slice (some ⟨g, 0, none⟩) n n) :: E) ([⟨g, .cells cs.toArray e (0, 0)⟩] :: Ls)) : Ops C ops (⟨some d, .buildSlice t n ps, ty, pos, af, none⟩ :: rest) ks E Ls := by
  refine ⟨fun a w f gs => ?_⟩
  refine wpList_plain rfl fun K hK => ?_
  unfold Oper.wp
  obtain ⟨ii, hii, hz0, hz1, hz2⟩ := infoParts c.h2
  have e1 : (ps.map fun (i, x) => (i, a.eval x)) = (is.zip vs).toArray := by
    apply Array.ext'
    simp only [Array.toList_map]
    rw [← hi, ← f.evs hx]
    induction ps.toList with
    | nil => rfl
    | cons p r ih => simpa using ih
  have hfill := fill_bld (offs := (List.range n).map some) (place := fun i => some (i * 1, 1)) (by
    intro j off hj
    obtain ⟨rfl, _⟩ := bldA_offs hj
    simp) (is.zip vs) (List.replicate n z) cs (fun p hp => h1 p.2 (List.of_mem_zip hp).2) (by
    intro j off hj
    have := (bldA_offs hj).2
    simpa using this) hb
  have : (execOp a.eval ⟨some d, .buildSlice t n ps, ty, pos, af, none⟩).run C.P w = .ok (.value (.slice (some ⟨w.heap.size, 0, none⟩) n n)) (w.alloc (.cells cs.toArray e (0, 0))) := by
    have h2 : ¬ (n * 1 > 2 ^ 24) := by omega
    by_cases hn0 : n * 1 = 0
    · have : n = 0 := by omega
      subst this
      have e3 : (Array.range (0 * 1)).map ((#[] : Array Value)[· % (#[] : Array Value).size]!) = (List.replicate 0 z).toArray := by simp
      simp only [execOp, e1, Instr.buildSlice, underlying, Sem.run_bind, run_program, Result.andThen_ok, c.h1, Sem.run_pure, sizeOf, typeInfo, hii, hz1, if_neg h2, if_true, e3, hfill, newRow, run_newObj]
      rfl
    · have e3 : (Array.range (n * 1)).map ((#[z] : Array Value)[· % (#[z] : Array Value).size]!) = (List.replicate n z).toArray := by
        apply Array.ext
        · simp
        · intro i h1 h2
          simp [Nat.mod_one]
      simp only [execOp, e1, Instr.buildSlice, underlying, Sem.run_bind, run_program, Result.andThen_ok, c.h1, Sem.run_pure, sizeOf, typeInfo, hii, hz1, if_neg h2, if_neg hn0, zeroValue, hz0, hz, e3, hfill, newRow, run_newObj]
      rfl
  rw [this]
  refine hK _ _ ((k _ gs.size).out _ _ (f.put _ (Nat.lt_of_succ_le (by simpa [Nat.blt] using hn))) ?_)
  exact Goes.frame (Lc := []) gs (goes_new w _)
/-- append of a slice that is nil. -/
theorem op_append_nil {x y : Operand} {t e size bytes c1 : Nat} {z : Value} [c : TSlice C.P t e size bytes z] {A : Option Addr} {n cap : Nat} (hn : Nat.blt d C.fn.ntmps = true) (hx : ev E x = some (.slice A n cap)) (hy : ev E y = some (.slice none 0 c1)) (hc : n ≤ cap)
    (k : Ops C ops rest ks ((d, .slice A n cap) :: E) Ls) : Ops C ops (⟨some d, .call { callee := .builtin .append, args := #[x, y], argTypes := #[t, t] }, ty, pos, af, none⟩ :: rest) ks E Ls :=
  ops_pure hn (fun a w f gs => by
    obtain ⟨i, hi, hz0, hz1, hz2⟩ := infoParts c.h2
    have := Go.run_append_nothing (P := C.P) w t t ty e i c.h1 hi A n cap hc (.slice none 0 c1) (by rw [hz1]; exact Src.ofNil w c.h1 c1)
    simp only [execOp, resolve, invoke, builtin, Sem.run_bind, Sem.run_pure, Result.andThen_ok, List.map_toArray, List.map_cons, List.map_nil, f.ev hx, f.ev hy, this]) k
/-- An element of an array value. -/
theorem op_indexA {x y : Operand} {t len e : Nat} [c : TArr C.P t len e 1] [c1 : TOne C.P e] {ik : IntKind} {i : Int} {cs : Array Value} {v : Value}
    (hn : Nat.blt d C.fn.ntmps = true) (hx : ev E x = some (.agg cs)) (hy : ev E y = some (.int ik i)) (hb : 0 ≤ i ∧ i < len) (hv : aget cs i.toNat = some v)
    (k : Ops C ops rest ks ((d, v) :: E) Ls) : Ops C ops (⟨some d, .index t x y, ty, pos, af, none⟩ :: rest) ks E Ls :=
  ops_pure hn (fun a w f gs => by
    have h2 := c.h2
    rw [aget_eq] at hv
    cases hi : C.P.info? e with
    | none => simp [hi] at h2
    | some ii =>
      simp [hi] at h2
      have hone := isAgg_one (P := C.P) (w := w) (t := e)
      simp [execOp, f.ev hx, f.ev hy, Instr.index, asIntOf, underlying, c.h1, sizeOf, typeInfo, hi, h2, hb.1, hb.2, part, hone, hv]) k
theorem op_loadAll {x : Operand} {g t n : Nat} {cs : Array Value} {fr : Nat × Nat} {lt : Nat} [TAgg C.P lt n] (hn : Nat.blt d C.fn.ntmps = true) (hx : ev E x = some (.pointer (some ⟨g, 0, none⟩))) (hh : Has Ls g (.cells cs t fr)) (hsz : cs.size = n) (k : Ops C ops rest ks ((d, .agg cs) :: E) Ls) : Ops C ops (⟨some d, .load lt x, ty, pos, af, none⟩ :: rest) ks E Ls :=
  op_loadN hn hx hh (by omega) (by
    have : cs.extract 0 (0 + n) = cs := by rw [Nat.zero_add, ← hsz, Array.extract_size]
    rw [this]; exact k)
variable {bt bt' : Nat} {x y : Operand} {ik : IntKind}
theorem op_remN {m n : Nat} (hn : Nat.blt d C.fn.ntmps = true) (hx : ev E x = some (.int ik (m : Int))) (hy : ev E y = some (.int ik (n : Int))) (h : n ≠ 0) (k : Ops C ops rest ks ((d, .int ik ((m % n : Nat) : Int)) :: E) Ls) : Ops C ops (⟨some d, .binOp .rem bt x y bt', ty, pos, af, none⟩ :: rest) ks E Ls :=
  op_rem hn hx hy (by omega) (by rw [Int.tmod_eq_emod_of_nonneg (by omega)]; exact_mod_cast k)
theorem val_remN {m n : Nat} {dd : Option Nat} {gg : Option (Nat × Bool)} (hx : ev E x = some (.int ik (m : Int))) (hy : ev E y = some (.int ik (n : Int))) (h : n ≠ 0) : Val C E ⟨dd, .binOp .rem bt x y bt', ty, pos, af, gg⟩ (.int ik ((m % n : Nat) : Int)) := by
  have := val_rem (C := C) (ty := ty) (pos := pos) (af := af) (d := dd) (gg := gg) (bt := bt) (bt' := bt') hx hy (show (n : Int) ≠ 0 by omega)
  rw [Int.tmod_eq_emod_of_nonneg (by omega)] at this
  exact_mod_cast this
/-- Many ways come together. -/
theorem run_join {α : Type} (E' : α → Env) (H' : α → List Hp) (φ : α → Prop) {code : Code} (K : ∀ x, φ x → Fin C .normal ks (E' x) (H' x))
    (h : (∀ x, φ x → ∀ E Ls, Sub (E' x) E → Le (H' x).flatten Ls.flatten → Fin C .normal ks E Ls) → Run C code ks E Ls) : Run C code ks E Ls :=
  h fun x hx E Ls hE hL => (K x hx).weaken hE hL
theorem ops_join1 {α : Type} (E' : α → Env) (H' : α → List Hp) (φ : α → Prop) {k1 : Kont} (K : ∀ x, φ x → Fin C .normal ks (E' x) (H' x))
    (h : (∀ x, φ x → ∀ E Ls, Sub (E' x) E → Le (H' x).flatten Ls.flatten → Fin C .normal ks E Ls) → Ops C ops rest (k1 :: ks) E Ls) : Ops C ops rest (k1 :: ks) E Ls :=
  h fun x hx E Ls hE hL => (K x hx).weaken hE hL
theorem any_join {α : Type} (E' : α → Env) (H' : α → List Hp) (φ : α → Prop) {fuel : Nat} {ds : List Nat} (K : ∀ x, φ x → Fin C .normal ks (E' x) (H' x))
    (h : (∀ x, φ x → ∀ E Ls, Sub (E' x) E → Le (H' x).flatten Ls.flatten → Fin C .normal ks E Ls) → Any C ops fuel ds ks E Ls) : Any C ops fuel ds ks E Ls :=
  h fun x hx E Ls hE hL => (K x hx).weaken hE hL
end
theorem Own.lit {e n g : Nat} {cs : List Value} (h : cs.length = n) (hn : n ≤ maxLen) : Own e 1 (.slice (some ⟨g, 0, none⟩) n n) n cs [⟨g, .cells cs.toArray e (0, 0)⟩] :=
  ⟨by omega, .inr ⟨g, n, cs.toArray, rfl, rfl, Nat.le_refl _, hn, by simp [h], by simp [← h]⟩⟩
theorem Own.empty {e size g : Nat} : Own e size (.slice (some ⟨g, 0, none⟩) 0 0) 0 [] [⟨g, .cells #[] e (0, 0)⟩] :=
  ⟨by simp, .inr ⟨g, 0, #[], rfl, rfl, Nat.le_refl _, by decide, by simp, by simp⟩⟩
/-- A row of the call's own that is not nil: what it has, and what is spare. -/
theorem Own.open {e n : Nat} {v : Value} {xs : List Value} {l : Hp} (h : Own e 1 v n xs l) (hn : 0 < n) : ∃ g cap sp, v = .slice (some ⟨g, 0, none⟩) n cap ∧ l = [⟨g, .cells (xs ++ sp).toArray e (0, 0)⟩] ∧ n ≤ cap ∧ cap ≤ maxLen ∧ (xs ++ sp).length = cap ∧ xs.length = n := by
  rcases h.2 with ⟨_, h0, _⟩ | ⟨g, cap, cur, rfl, rfl, h1, h2, h3, h4⟩
  · omega
  · have e1 : xs ++ cur.toList.drop n = cur.toList := by rw [← h4, Nat.mul_one, List.take_append_drop]
    refine ⟨g, cap, cur.toList.drop n, rfl, ?_, h1, h2, ?_, by have := h.1; omega⟩
    · rw [e1]
    · rw [e1]; simp; omega
theorem Own.close {e n g cap : Nat} {xs sp : List Value} (hx : xs.length = n) (hc : n ≤ cap) (hm : cap ≤ maxLen) (hl : (xs ++ sp).length = cap) : Own e 1 (.slice (some ⟨g, 0, none⟩) n cap) n xs [⟨g, .cells (xs ++ sp).toArray e (0, 0)⟩] :=
  ⟨by omega, .inr ⟨g, cap, _, rfl, rfl, hc, hm, by simpa using hl, by simp [← hx]⟩⟩
theorem aget_pre {xs sp : List Value} {i : Nat} {v : Value} (h : xs[i]? = some v) : aget (xs ++ sp).toArray i = some v := by
  have := (List.getElem?_eq_some_iff.1 h).1
  rw [aget_eq, List.getElem?_toArray, List.getElem?_append_left this, h]
theorem set_pre {xs sp : List Value} {i : Nat} {v : Value} (h : i < xs.length) : (xs ++ sp).toArray.setIfInBounds i v = (xs.set i v ++ sp).toArray := by
  simp [h]

/-! ### Reads in a region that draws its order, where the writes come behind them by a chain of edges -/
def lateOf (md : Region.Mode) (ops : Array Oper) (i : Nat) : List Nat :=
  (List.range ops.size).foldl (fun D j => match ops[j]? with
    | some oj => if oj.after.any (fun e => Region.binds md e && (Nat.beq e.on i || D.any (Nat.beq e.on))) then j :: D else D
    | none => D) []
def lateOk (md : Region.Mode) (ops : Array Oper) (listed : Array Bool) (i : Nat) (D : List Nat) : Bool :=
  D.all fun j => !(Nat.beq j i) && !(listed.getD j true) && match ops[j]? with
    | some oj => oj.after.any (fun e => Region.binds md e && (Nat.beq e.on i || D.any (Nat.beq e.on)))
    | none => false
def freeD (ops : Array Oper) (listed : Array Bool) (i : Nat) (D : List Nat) : Bool :=
  match ops[i]? with
  | none => false
  | some oi => (List.range ops.size).all fun j => Nat.beq j i || listed.getD j true || D.any (Nat.beq j) || match ops[j]? with
      | some oj => oi.apart ops oj && roB oj.op
      | none => true
section
variable {P : Program} {md : Region.Mode} {ops : Array Oper} {Q : Exit → Act → World → Prop}
theorem wpAny_firstD {i : Nat} {oi : Oper} {v : Value} (hi : ops[i]? = some oi) (hsel : ∀ (j : Nat) (o : Oper) cs b, ops[j]? = some o → o.op ≠ .select cs b)
    (hQ : ∀ c a w, Q (.panic c) (a.put oi.dst v) w → Q (.panic c) a w) (D : Nat → Prop)
    (hD : ∀ j, D j → ∃ oj, ops[j]? = some oj ∧ ∃ e ∈ oj.after, Region.binds md e = true ∧ (e.on = i ∨ D e.on)) :
    ∀ (fuel : Nat) (listed : Array Bool) (a : Act) (w : World),
      (∀ j, D j → j ≠ i ∧ listed.getD j true = false) →
      (∀ j oj, ops[j]? = some oj → j ≠ i → listed.getD j true = false → ¬ D j → oi.apart ops oj = true ∧ roB oj.op = true) →
      i ∈ Region.ready md ops listed → YieldsAt P ops oi v a w →
      wpAny P md ops Q fuel (listed.setIfInBounds i true) (a.put oi.dst v) w → wpAny P md ops Q (fuel + 1) listed a w := by
  intro fuel
  induction fuel with
  | zero =>
    intro listed a w _ _ hr hy H
    refine ⟨fun h => (by rw [h] at hr; cases hr), fun j hj => ?_⟩
    by_cases hji : j = i
    · subst hji; exact hy.wpOp hi H
    · have := ready_mono hj hji
      rw [H.1] at this
      cases this
  | succ fuel ih =>
    intro listed a w hU hfree hr hy H
    refine ⟨fun h => (by rw [h] at hr; cases hr), fun j hj => ?_⟩
    by_cases hji : j = i
    · subst hji; exact hy.wpOp hi H
    · have h1 := H.2 j (ready_mono hj hji)
      obtain ⟨hjun, oj, hoj, hall⟩ := mem_ready.1 hj
      have un : ∀ k, listed.getD k true = false → listed.getD k false = false := fun k h0 => by
        rcases Nat.lt_or_ge k listed.size with h' | h'
        · simp [h'] at h0 ⊢; exact h0
        · simp [Array.getElem?_eq_none h']
      have hnD : ¬ D j := fun hd => by
        obtain ⟨oj', hoj', e, he, hb, hor⟩ := hD j hd
        rw [hoj] at hoj'
        cases hoj'
        have h2 := hall e he hb
        rcases hor with h3 | h3
        · rw [h3, un i (mem_ready.1 hr).1] at h2; cases h2
        · rw [un _ (hU _ h3).2] at h2; cases h2
      obtain ⟨hap, hro⟩ := hfree j oj hoj hji hjun hnD
      have h2 := wpOp_putAt hoj hap hro (fun cs b => hsel i oi cs b hi) (fun cs b => hsel j oj cs b hoj) hQ hy h1
      have hfree' : ∀ k ok, ops[k]? = some ok → k ≠ i → (listed.setIfInBounds j true).getD k true = false → ¬ D k → oi.apart ops ok = true ∧ roB ok.op = true := fun k ok hk hki hun hno => by
        refine hfree k ok hk hki ?_ hno
        by_cases hjk : j = k
        · subst hjk; exact hjun
        · rw [getD_set_ne true hjk] at hun; exact hun
      have hU' : ∀ k, D k → k ≠ i ∧ (listed.setIfInBounds j true).getD k true = false := fun k hk => by
        refine ⟨(hU k hk).1, ?_⟩
        rw [getD_set_ne true (show j ≠ k from fun e => by subst e; exact hnD hk)]
        exact (hU k hk).2
      refine wpOp_mono (fun a' w' h3 => ?_) h2
      obtain ⟨rfl, h4, h5⟩ := h3
      refine ih (listed.setIfInBounds j true) a' w' hU' hfree' (ready_mono hr (Ne.symm hji)) h4 ?_
      rw [Array.setIfInBounds_comm _ _ hji]
      exact h5
end
theorem any_readD {C : Ctx} {ks : List Kont} {E : Env} {Ls : List Hp} {ops : Array Oper} {fuel : Nat} {ds : List Nat} (k : Nat) {i : Nat} {o : Oper} {v : Value} (hu : undone (List.range ops.size) ds k = some i) (hi : opAt ops.toList i = some o) (hw : wantOk ops E o true = true)
    (hv : ValAt C E Ls o v) (hs : Region.noSelect ops = true) (hl : lateOk .any ops (doneArr ops.size ds) i (lateOf .any ops i) = true) (hf : freeD ops (doneArr ops.size ds) i (lateOf .any ops i) = true) (hr : (Region.ready .any ops (doneArr ops.size ds)).contains i = true)
    {d : Nat} (hd : o.dst = some d) (hn : Nat.blt d C.fn.ntmps = true) (h : Any C ops fuel (i :: ds) ks ((d, v) :: E) Ls) : Any C ops (fuel + 1) ds ks E Ls := by
  generalize lateOf .any ops i = D at hl hf
  refine ⟨fun a w f g => wpAny_firstD (opAt_get hi) (Region.noSelect_spec hs) (panic_put ks _ v) (fun j => j ∈ D) ?_ fuel _ a w ?_ ?_ (by simpa using hr) (.inl ⟨wantOk_spec f hw, hv.out a w f g⟩) (by rw [doneArr_set]; rw [hd]; exact h.out _ w (f.put _ (Nat.lt_of_succ_le (by simpa [Nat.blt] using hn))) g)⟩
  · intro j hj
    have h1 := List.all_eq_true.1 hl j hj
    simp only [Bool.and_eq_true] at h1
    obtain ⟨_, h2⟩ := h1
    cases ho : ops[j]? with
    | none => rw [ho] at h2; cases h2
    | some oj =>
      rw [ho] at h2
      obtain ⟨e, he, hb⟩ := Array.any_eq_true'.1 h2
      simp only [Bool.and_eq_true, Bool.or_eq_true, List.any_eq_true] at hb
      refine ⟨oj, rfl, e, he, hb.1, ?_⟩
      rcases hb.2 with h3 | ⟨x, hx, h3⟩
      · exact .inl (Nat.eq_of_beq_eq_true h3)
      · exact .inr (by rw [Nat.eq_of_beq_eq_true h3]; exact hx)
  · intro j hj
    have h1 := List.all_eq_true.1 hl j hj
    simp only [Bool.and_eq_true, Bool.not_eq_true'] at h1
    refine ⟨fun e => ?_, h1.1.2⟩
    have := h1.1.1
    subst e
    simp at this
  · intro j oj hj hne hun hno
    simp only [freeD, opAt_get hi, List.all_eq_true, List.mem_range] at hf
    have h1 := hf j (Array.getElem?_eq_some_iff.1 hj).1
    have hne' : Nat.beq j i = false := by cases hb : Nat.beq j i with
      | false => rfl
      | true => exact absurd (Nat.eq_of_beq_eq_true hb) hne
    have hD' : D.any (Nat.beq j) = false := by
      cases hb : D.any (Nat.beq j) with
      | false => rfl
      | true =>
        obtain ⟨x, hx, h3⟩ := List.any_eq_true.1 hb
        exact absurd (Nat.eq_of_beq_eq_true h3 ▸ hx) hno
    simp only [hj, hne', hun, hD', Bool.or_false, Bool.false_or] at h1
    simpa using h1
end Go.Proofs.Eng
