/- The engine, part D: regions that draw their order. -/
import Derived.Test.YtnomlnfdmoecoaaDoorEngC
import Derived.Orders
set_option linter.unusedVariables false
namespace Go.Proofs.Eng
open Go.RowKit

/-! ### Computations that never come back; computations that leave the world alone -/
def never {α : Type} : Sem α → Prop
  | .pure _ => False
  | .load _ _ k => ∀ v, never (k v)
  | .store _ _ _ k => never k
  | .new _ k => ∀ n, never (k n)
  | .shape _ k => ∀ v, never (k v)
  | .freeze _ _ k => never k
  | .frozen _ k => ∀ v, never (k v)
  | .getObj _ k => ∀ v, never (k v)
  | .setObj _ _ k => never k
  | .choose _ k => ∀ v, never (k v)
  | .sys _ k => ∀ v, never (k v)
  | .program k => ∀ v, never (k v)
  | .mark _ k => never k
  | .halt _ => True
def ro {α : Type} : Sem α → Prop
  | .pure _ => True
  | .load _ _ k => ∀ v, ro (k v)
  | .shape _ k => ∀ v, ro (k v)
  | .frozen _ k => ∀ v, ro (k v)
  | .getObj _ k => ∀ v, ro (k v)
  | .program k => ∀ v, ro (k v)
  | .mark _ k => ro k
  | .choose _ k => ∀ v, never (k v)
  | .halt _ => True
  | _ => False
theorem never_run {α : Type} {P : Program} (s : Sem α) (h : never s) : ∀ w x w', s.run P w ≠ .ok x w' := by
  induction s with
  | pure a => exact h.elim
  | load m a k ih =>
    intro w x w' e
    simp only [Sem.run] at e
    cases hc : w.cell? a with
    | some v => rw [hc] at e; exact ih v (h v) w x w' e
    | none =>
      rw [hc] at e
      simp only at e
      cases hf : w.farLoad P a (m == .atomic) with
      | ok y => rw [hf] at e; exact ih _ (h _) w x w' e
      | error y => rw [hf] at e; cases e
  | store m a v k ih =>
    intro w x w' e
    cases v <;> simp only [Sem.run] at e <;> first
      | (cases e; done)
      | (split at e
         · split at e
           · cases e
           · exact ih h _ x w' e
         · split at e
           · exact ih h _ x w' e
           · cases e)
  | new o k ih => intro w x w' e; exact ih _ (h _) _ x w' e
  | shape r k ih => intro w x w' e; exact ih _ (h _) _ x w' e
  | freeze a n k ih => intro w x w' e; exact ih h _ x w' e
  | frozen a k ih => intro w x w' e; exact ih _ (h _) _ x w' e
  | getObj r k ih =>
    intro w x w' e
    simp only [Sem.run] at e
    split at e
    · cases e
    · exact ih _ (h _) _ x w' e
    · cases e
  | setObj r o k ih =>
    intro w x w' e
    simp only [Sem.run] at e
    split at e
    · cases e
    · exact ih h _ x w' e
    · cases e
  | choose q k ih =>
    intro w x w' e
    simp only [Sem.run] at e
    split at e
    · exact ih _ (h _) _ x w' e
    · exact ih _ (h _) _ x w' e
  | sys c k ih => intro w x w' e; exact ih _ (h _) _ x w' e
  | program k ih => intro w x w' e; exact ih _ (h _) _ x w' e
  | mark m k ih => intro w x w' e; exact ih h _ x w' e
  | halt hh => intro w x w' e; cases e
theorem ro_run {α : Type} {P : Program} (s : Sem α) (h : ro s) : ∀ w x w', s.run P w = .ok x w' → w' = w := by
  induction s with
  | pure a => intro w x w' e; injection e with e1 e2; exact e2.symm
  | load m a k ih =>
    intro w x w' e
    simp only [Sem.run] at e
    cases hc : w.cell? a with
    | some v => rw [hc] at e; exact ih v (h v) w x w' e
    | none =>
      rw [hc] at e
      simp only at e
      cases hf : w.farLoad P a (m == .atomic) with
      | ok y => rw [hf] at e; exact ih _ (h _) w x w' e
      | error y => rw [hf] at e; cases e
  | shape r k ih => intro w x w' e; exact ih _ (h _) _ x w' e
  | frozen a k ih => intro w x w' e; exact ih _ (h _) _ x w' e
  | getObj r k ih =>
    intro w x w' e
    simp only [Sem.run] at e
    split at e
    · cases e
    · exact ih _ (h _) _ x w' e
    · cases e
  | choose q k ih =>
    intro w x w' e
    simp only [Sem.run] at e
    split at e
    · exact absurd e (never_run _ (h _) _ _ _)
    · exact absurd e (never_run _ (h _) _ _ _)
  | program k ih => intro w x w' e; exact ih _ (h _) _ x w' e
  | mark m k ih => intro w x w' e; exact ih h _ x w' e
  | halt hh => intro w x w' e; cases e
  | store _ _ _ _ _ => exact h.elim
  | new _ _ _ => exact h.elim
  | freeze _ _ _ _ => exact h.elim
  | setObj _ _ _ _ => exact h.elim
  | sys _ _ _ => exact h.elim
theorem never_bind {α β : Type} (s : Sem α) (f : α → Sem β) (h : never s) : never (s.bind f) := by
  induction s <;> simp_all [never, Sem.bind]
theorem ro_bind {α β : Type} {s : Sem α} {f : α → Sem β} (h : ro s) (g : ∀ a, ro (f a)) : ro (s.bind f) := by
  induction s with
  | pure a => exact g a
  | load m a k ih => exact fun v => ih v (h v)
  | shape r k ih => exact fun v => ih v (h v)
  | frozen a k ih => exact fun v => ih v (h v)
  | getObj r k ih => exact fun v => ih v (h v)
  | program k ih => exact fun v => ih v (h v)
  | mark m k ih => exact ih h
  | choose q k ih => exact fun v => never_bind _ _ (h v)
  | halt hh => trivial
  | store _ _ _ _ _ => exact h.elim
  | new _ _ _ => exact h.elim
  | freeze _ _ _ _ => exact h.elim
  | setObj _ _ _ _ => exact h.elim
  | sys _ _ _ => exact h.elim
theorem ro_bind' {α β : Type} {s : Sem α} {f : α → Sem β} (h : ro s) (g : ∀ a, ro (f a)) : ro (s >>= f) := ro_bind h g
theorem ro_pure {α : Type} (a : α) : ro (pure a : Sem α) := trivial
theorem ro_ite {α : Type} {c : Prop} [Decidable c] {x y : Sem α} (h1 : ro x) (h2 : ro y) : ro (if c then x else y) := by split <;> assumption
theorem ro_stuck {α : Type} (s : String) : ro (stuck s : Sem α) := trivial
theorem ro_unsupported {α : Type} (s : Unsupported) : ro (unsupported s : Sem α) := trivial
theorem ro_program : ro program := fun _ => trivial
theorem ro_shape (r : Nat) : ro (shape r) := fun _ => trivial
theorem ro_getObj (r : Nat) : ro (getObj r) := fun _ => trivial
theorem ro_load (a : Addr) (m : Mode) : ro (load a m) := fun _ => trivial
theorem ro_underlying (t : TypeId) : ro (underlying t) := by
  unfold underlying
  exact ro_bind' ro_program fun p => by split <;> trivial
theorem ro_typeInfo (t : TypeId) : ro (typeInfo t) := by
  unfold typeInfo
  exact ro_bind' ro_program fun p => by split <;> trivial
theorem ro_sizeOf (t : TypeId) : ro (sizeOf t) := by
  unfold sizeOf
  exact ro_bind' (ro_typeInfo t) fun _ => trivial
theorem ro_isAgg (t : TypeId) : ro (isAgg t) := by
  unfold isAgg
  exact ro_bind' (ro_underlying t) fun _ => by split <;> trivial
theorem ro_loadCellsFrom (a : Addr) : ∀ (n i : Nat) (acc : Array Value), ro (loadCellsFrom a i n acc)
  | 0, _, _ => trivial
  | n + 1, i, acc => by
    unfold loadCellsFrom
    exact ro_bind' (ro_load _ _) fun v => ro_loadCellsFrom a n (i + 1) _
theorem ro_loadVar (t : TypeId) (a : Addr) : ro (loadVar t a) := by
  unfold loadVar
  refine ro_bind' (ro_isAgg t) fun b => ?_
  split
  · exact ro_bind' (ro_sizeOf t) fun n => ro_bind' (ro_loadCellsFrom a n 0 #[]) fun _ => trivial
  · exact ro_load _ _
theorem ro_sureAddr (v : Value) : ro (Instr.sureAddr v) := by unfold Instr.sureAddr; split <;> trivial
theorem ro_loadAt (t : TypeId) (v : Value) : ro (Instr.loadAt t v) := ro_bind' (ro_sureAddr v) fun a => ro_loadVar t a
theorem ro_rt {α : Type} (e : RuntimeError) (he : match e with | .bounds .. | .error _ | .plain _ | .nilDeref => True | _ => False) : ro (runtimePanic e : Sem α) := by
  unfold runtimePanic
  refine ro_bind' ro_program fun p => ?_
  cases e <;> first | trivial | exact he.elim
theorem never_rt {α : Type} (e : RuntimeError) (he : match e with | .bounds .. | .error _ | .plain _ | .nilDeref => True | _ => False) : never (runtimePanic e : Sem α) := by
  unfold runtimePanic
  intro p
  cases e <;> first | trivial | exact he.elim
theorem ro_boundsPanic {α : Type} (k : IntKind) (x y : Int) (c : BoundsCode) : ro (boundsPanic k x y c : Sem α) := by
  unfold boundsPanic
  split
  · show ro ((((choose _).bind _).bind _))
    intro n
    exact never_rt (.bounds _ _ _ _) trivial
  · exact ro_bind' (ro_pure _) fun b => ro_rt (.bounds _ _ _ _) trivial
theorem ro_viewAt (r : Nat) : ro (viewAt r) := by
  unfold viewAt
  refine ro_bind' (ro_shape r) fun b => ?_
  split
  · trivial
  · exact ro_bind' (ro_getObj r) fun o => by split <;> trivial
theorem ro_noView (a : Addr) : ro (noView a) := by
  unfold noView
  refine ro_bind' (ro_viewAt _) fun b => ?_
  split <;> trivial
theorem ro_byteOf (a : Addr) : ro (byteOf a) := by
  unfold byteOf
  split
  · trivial
  · refine ro_bind' ro_program fun p => ro_bind' (ro_noView a) fun _ => ro_bind' (ro_shape _) fun b => ?_
    split
    · dsimp only
      split
      · trivial
      · split <;> trivial
    · trivial
theorem ro_fieldPlace (a : Addr) (f : Field) : ro (fieldPlace a f) := by
  unfold fieldPlace
  refine ro_bind' (ro_sizeOf _) fun n => ?_
  split
  · unfold partAt
    exact ro_bind' (ro_byteOf a) fun b => ro_bind' (ro_byteOf _) fun _ => trivial
  · trivial
theorem ro_fieldAt (s : TypeId) (v : Value) (f : Nat) : ro (Instr.fieldAt s v f) := by
  unfold Instr.fieldAt
  refine ro_bind' (ro_underlying s) fun d => ?_
  split
  · split
    · exact ro_bind' (ro_sureAddr v) fun a => ro_bind' (ro_fieldPlace a _) fun _ => trivial
    · trivial
  · trivial
theorem ro_asIntOf (v : Value) : ro (asIntOf v) := by unfold asIntOf; split <;> trivial
theorem ro_indexAt (t : TypeId) (x i : Value) : ro (Instr.indexAt t x i) := by
  unfold Instr.indexAt
  refine ro_bind' (ro_asIntOf i) fun ki => ?_
  obtain ⟨k, n⟩ := ki
  refine ro_bind' (ro_underlying t) fun d => ?_
  dsimp only
  repeat' (first
    | exact ro_boundsPanic _ _ _ _
    | exact ro_sizeOf _
    | exact ro_underlying _
    | exact ro_sureAddr _
    | exact ro_stuck _
    | exact ro_unsupported _
    | exact ro_pure _
    | (refine ro_bind' ?_ (fun _ => ?_))
    | split)
theorem ro_extract (v : Value) (n : Nat) : ro (Instr.extract v n) := by
  unfold Instr.extract
  split
  · split <;> trivial
  · trivial
theorem ro_part (t : TypeId) (cs : Array Value) (o : Nat) : ro (part t cs o) := by
  unfold part
  refine ro_bind' (ro_isAgg t) fun b => ?_
  split
  · exact ro_bind' (ro_sizeOf t) fun _ => trivial
  · split <;> trivial
theorem ro_field (t : TypeId) (v : Value) (n : Nat) : ro (Instr.field t v n) := by
  unfold Instr.field
  refine ro_bind' (ro_underlying t) fun d => ?_
  split
  · split
    · exact ro_bind' (by unfold asAgg; split <;> trivial) fun cs => ro_part _ _ _
    · trivial
  · trivial
theorem ro_mapM {α β : Type} (f : α → Sem β) (hf : ∀ x, ro (f x)) : ∀ (l : List α), ro (l.mapM f)
  | [] => by simp [List.mapM_nil]; trivial
  | x :: l => by
    rw [List.mapM_cons]
    exact ro_bind' (hf x) fun _ => ro_bind' (ro_mapM f hf l) fun _ => trivial
theorem ro_zeroValue (t : TypeId) : ro (zeroValue t) := by
  unfold zeroValue
  repeat' (first
    | exact ro_sizeOf _
    | exact ro_underlying _
    | exact ro_stuck _
    | exact ro_unsupported _
    | exact ro_pure _
    | (refine ro_bind' ?_ (fun _ => ?_))
    | split
    | exact fun _ => trivial
    | trivial)
theorem ro_build (t : TypeId) (ps : Array (Nat × Value)) : ro (Instr.build t ps) := by
  unfold Instr.build
  refine ro_bind' (ro_zeroValue t) fun z => ?_
  refine ro_bind' (ro_underlying t) fun d => ?_
  split
  · refine ro_bind' ?_ fun places => ?_
    · rw [Array.mapM_eq_mapM_toList]
      exact ro_bind' (ro_mapM _ (fun f => ro_bind' (ro_sizeOf _) fun _ => ro_pure _) _) fun _ => trivial
    · split
      · trivial
      · exact ro_stuck _
  · refine ro_bind' (ro_sizeOf _) fun size => ?_
    split
    · trivial
    · exact ro_stuck _
  · exact ro_stuck _
def roB : Op → Bool
  | .move _ | .assign _ | .pick .. | .build .. | .load .. | .fieldAddr .. | .field .. | .indexAddr .. | .extract .. => true
  | _ => false
theorem ro_execOp {o : Oper} (h : roB o.op = true) (ρ : Operand → Value) : ro (execOp ρ o) := by
  unfold execOp
  cases ho : o.op <;> rw [ho] at h <;> simp only [roB, Bool.false_eq_true] at h <;> dsimp only
  all_goals first
    | trivial
    | exact ro_bind' (by unfold asBool; split <;> trivial) fun _ => trivial
    | exact ro_bind' (ro_build _ _) fun _ => trivial
    | exact ro_bind' (ro_loadAt _ _) fun _ => trivial
    | exact ro_bind' (ro_fieldAt _ _ _) fun _ => trivial
    | exact ro_bind' (ro_field _ _ _) fun _ => trivial
    | exact ro_bind' (ro_indexAt _ _ _) fun _ => trivial
    | exact ro_bind' (ro_extract _ _) fun _ => trivial
/-- What it comes to is a value. -/
def valB : Next → Bool | .value _ => true | _ => false
theorem val_execOp {P : Program} {o : Oper} (h : roB o.op = true) (ρ : Operand → Value) {w w' : World} {r : Next} (hr : (execOp ρ o).run P w = .ok r w') : ∃ v, r = .value v := by
  unfold execOp at hr
  cases ho : o.op <;> rw [ho] at h <;> simp only [roB, Bool.false_eq_true] at h <;> rw [ho] at hr <;> dsimp only at hr
  all_goals first
    | (injection hr with h1 h2; exact ⟨_, h1.symm⟩)
    | (rw [Sem.run_bind] at hr
       generalize Sem.run P _ w = x at hr
       cases x with
       | ok v w2 => injection hr with h1 h2; exact ⟨_, h1.symm⟩
       | halt h w2 => cases hr)

/-! ### An operation that reads may be taken first, if all that need not wait for it only read -/
section
variable {P : Program} {ops : Array Oper} {Q : Exit → Act → World → Prop} {md : Region.Mode}
def YieldsAt (P : Program) (ops : Array Oper) (o : Oper) (v : Value) (a : Act) (w : World) : Prop :=
  (Region.wanted o (yielded ops a.tmps) = true ∧ (execOp a.eval o).run P w = .ok (.value v) w) ∨
  (Region.wanted o (yielded ops a.tmps) = false ∧ v = undef)
theorem YieldsAt.wpOp {i : Nat} {o : Oper} {v : Value} {a : Act} {w : World} (hi : ops[i]? = some o) (hy : YieldsAt P ops o v a w)
    {K : Act → World → Prop} (h : K (a.put o.dst v) w) : Go.wpOp P ops Q i K a w := by
  unfold Go.wpOp
  simp only [hi]
  rcases hy with ⟨hw, hv⟩ | ⟨hw, rfl⟩
  · simp only [hw, if_true, Oper.wp, hv, Oper.upon]; exact .inl h
  · simp only [hw, Bool.false_eq_true, if_false]; exact h
theorem wpOp_putAt {j : Nat} {oi oj : Oper} {v : Value} (hj : ops[j]? = some oj) (hap : oi.apart ops oj = true) (hro : roB oj.op = true)
    (hsi : ∀ cs b, oi.op ≠ .select cs b) (hsj : ∀ cs b, oj.op ≠ .select cs b)
    (hQ : ∀ c a w, Q (.panic c) (a.put oi.dst v) w → Q (.panic c) a w) {K : Act → World → Prop} {a : Act} {w : World}
    (hy : YieldsAt P ops oi v a w) (h : wpOp P ops Q j K (a.put oi.dst v) w) :
    wpOp P ops Q j (fun a' w' => w' = w ∧ YieldsAt P ops oi v a' w ∧ K (a'.put oi.dst v) w') a w := by
  obtain ⟨h1, h2, h3⟩ := Oper.apart_spec hap
  have keep : ∀ (a : Act), YieldsAt P ops oi v a w → ∀ u, YieldsAt P ops oi v (a.put oj.dst u) w := fun a hy u => by
    unfold YieldsAt at *
    rw [execOp_put oi hsi a oj.dst u h3, wanted_put oi a oj.dst u h3]
    exact hy
  unfold wpOp at *
  simp only [hj] at *
  rw [wanted_put oj a oi.dst v h1] at h
  split
  · rename_i hw
    simp only [hw, if_true] at h
    rcases h with h | ⟨hasks, hlets⟩
    case inr => exact .inr ⟨by unfold Oper.asks at *; rw [execOp_put oj hsj a oi.dst v h1] at hasks; exact hasks, hlets⟩
    refine .inl ?_
    unfold Oper.wp at *
    rw [execOp_put oj hsj a oi.dst v h1] at h
    cases hr : (execOp a.eval oj).run P w with
    | ok n w' =>
      obtain ⟨u, rfl⟩ := val_execOp hro _ hr
      have e := ro_run _ (ro_execOp hro _) _ _ _ hr
      subst e
      rw [hr] at h
      simp only [Oper.upon] at h ⊢
      exact ⟨by trivial, keep a hy u, by rw [← Act.put_comm a v u h2]; exact h⟩
    | halt x w' =>
      rw [hr] at h
      cases x <;> simp only [Oper.upon] at h ⊢
      exact hQ _ _ _ h
  · rename_i hw
    simp only [hw] at h
    exact ⟨by trivial, keep a hy undef, by rw [← Act.put_comm a v undef h2]; exact h⟩
theorem wpAny_firstAt {i : Nat} {oi : Oper} {v : Value} (hi : ops[i]? = some oi) (hsel : ∀ (j : Nat) (o : Oper) cs b, ops[j]? = some o → o.op ≠ .select cs b)
    (hQ : ∀ c a w, Q (.panic c) (a.put oi.dst v) w → Q (.panic c) a w) :
    ∀ (fuel : Nat) (listed : Array Bool) (a : Act) (w : World),
      (∀ j oj, ops[j]? = some oj → j ≠ i → listed.getD j true = false → (∀ e ∈ oj.after, Region.binds md e = true → e.on ≠ i) → oi.apart ops oj = true ∧ roB oj.op = true) →
      i ∈ Region.ready md ops listed → YieldsAt P ops oi v a w →
      wpAny P md ops Q fuel (listed.setIfInBounds i true) (a.put oi.dst v) w → wpAny P md ops Q (fuel + 1) listed a w := by
  intro fuel
  induction fuel with
  | zero =>
    intro listed a w _ hr hy H
    refine ⟨fun h => (by rw [h] at hr; cases hr), fun j hj => ?_⟩
    by_cases hji : j = i
    · subst hji; exact hy.wpOp hi H
    · have := ready_mono hj hji
      rw [H.1] at this
      cases this
  | succ fuel ih =>
    intro listed a w hfree hr hy H
    refine ⟨fun h => (by rw [h] at hr; cases hr), fun j hj => ?_⟩
    by_cases hji : j = i
    · subst hji; exact hy.wpOp hi H
    · have h1 := H.2 j (ready_mono hj hji)
      obtain ⟨hjun, oj, hoj, hall⟩ := mem_ready.1 hj
      have hnot : ∀ e ∈ oj.after, Region.binds md e = true → e.on ≠ i := fun e he hb heq => by
        have h1 := hall e he hb
        have h0 := (mem_ready.1 hr).1
        rw [heq] at h1
        rcases Nat.lt_or_ge i listed.size with h' | h'
        · simp [h'] at h0 h1; rw [h0] at h1; cases h1
        · simp [Array.getElem?_eq_none h'] at h1
      obtain ⟨hap, hro⟩ := hfree j oj hoj hji hjun hnot
      have h2 := wpOp_putAt hoj hap hro (fun cs b => hsel i oi cs b hi) (fun cs b => hsel j oj cs b hoj) hQ hy h1
      have hfree' : ∀ k ok, ops[k]? = some ok → k ≠ i → (listed.setIfInBounds j true).getD k true = false →
          (∀ e ∈ ok.after, Region.binds md e = true → e.on ≠ i) → oi.apart ops ok = true ∧ roB ok.op = true := fun k ok hk hki hun hno => by
        refine hfree k ok hk hki ?_ hno
        by_cases hjk : j = k
        · subst hjk; exact hjun
        · rw [getD_set_ne true hjk] at hun; exact hun
      refine wpOp_mono (fun a' w' h3 => ?_) h2
      obtain ⟨rfl, h4, h5⟩ := h3
      refine ih (listed.setIfInBounds j true) a' w' hfree' (ready_mono hr (Ne.symm hji)) h4 ?_
      rw [Array.setIfInBounds_comm _ _ hji]
      exact h5
def freeRo (md : Region.Mode) (ops : Array Oper) (listed : Array Bool) (i : Nat) : Bool :=
  match ops[i]? with
  | none => false
  | some oi => (List.range ops.size).all fun j => j == i || listed.getD j true || match ops[j]? with
      | some oj => oj.after.any (fun e => Region.binds md e && e.on == i) || (oi.apart ops oj && roB oj.op)
      | none => true
theorem freeRo_spec {i : Nat} {oi : Oper} {listed : Array Bool} (hi : ops[i]? = some oi) (h : freeRo md ops listed i = true) (j : Nat) (oj : Oper)
    (hj : ops[j]? = some oj) (hne : j ≠ i) (hun : listed.getD j true = false) (hno : ∀ e ∈ oj.after, Region.binds md e = true → e.on ≠ i) :
    oi.apart ops oj = true ∧ roB oj.op = true := by
  simp only [freeRo, hi, List.all_eq_true, List.mem_range] at h
  have h1 := h j (Array.getElem?_eq_some_iff.1 hj).1
  simp only [hj, Bool.or_eq_true, beq_iff_eq, hne, false_or, hun, Bool.false_eq_true] at h1
  rcases h1 with h1 | h1
  · obtain ⟨e, he, hb⟩ := Array.any_eq_true'.1 h1
    simp only [Bool.and_eq_true, beq_iff_eq] at hb
    exact absurd hb.2 (hno e he hb.1)
  · simpa using h1
end

/-! ### The judgement -/
def doneArr (n : Nat) (ds : List Nat) : Array Bool := ((List.range n).map fun k => ds.any (Nat.beq k)).toArray
theorem doneArr_nil (n : Nat) : doneArr n [] = Array.replicate n false := by
  apply Array.ext'
  simp only [doneArr, List.any_nil, Array.toList_replicate]
  apply List.ext_getElem <;> simp
theorem doneArr_set {n i : Nat} {ds : List Nat} : (doneArr n ds).setIfInBounds i true = doneArr n (i :: ds) := by
  apply Array.ext'
  simp only [doneArr, Array.toList_setIfInBounds]
  apply List.ext_getElem?
  intro j
  rw [List.getElem?_set]
  by_cases e : i = j
  · subst e
    by_cases h : i < n
    · simp [h]
    · simp [h]
  · rw [if_neg e]
    by_cases h : j < n
    · have : Nat.beq j i = false := by
        cases hb : Nat.beq j i with
        | false => rfl
        | true => exact absurd (Nat.eq_of_beq_eq_true hb).symm e
      simp [h, this]
    · simp [h]
def opAt : List Oper → Nat → Option Oper
  | [], _ => none
  | v :: _, 0 => some v
  | _ :: r, n + 1 => opAt r n
theorem opAt_eq : ∀ (l : List Oper) (n : Nat), opAt l n = l[n]?
  | [], _ => by simp [opAt]
  | _ :: _, 0 => by simp [opAt]
  | _ :: r, n + 1 => by simp [opAt, opAt_eq r n]
theorem opAt_get {ops : Array Oper} {i : Nat} {o : Oper} (h : opAt ops.toList i = some o) : ops[i]? = some o := by rw [opAt_eq] at h; simpa using h
def undone : (l : List Nat) → (ds : List Nat) → Nat → Option Nat
  | [], _, _ => none
  | i :: r, ds, k => bif ds.any (Nat.beq i) then undone r ds k else match k with | 0 => some i | k + 1 => undone r ds k
structure Any (C : Ctx) (ops : Array Oper) (fuel : Nat) (ds : List Nat) (ks : List Kont) (E : Env) (Ls : List Hp) : Prop where
  mk :: (out : ∀ a w, Fits E C.fn.ntmps a → Goes C.w0 C.L0 w Ls.flatten → wpAny C.P .any ops (after C ks) fuel (doneArr ops.size ds) a w)
def AnyK (C : Ctx) (ops : Array Oper) (fuel : Nat) (ds : List Nat) (ks : List Kont) : Act → World → Prop := fun a w => wpAny C.P .any ops (after C ks) fuel (doneArr ops.size ds) a w
structure Val (C : Ctx) (E : Env) (o : Oper) (v : Value) : Prop where
  mk :: (out : ∀ a, Fits E C.fn.ntmps a → ∀ w, (execOp a.eval o).run C.P w = .ok (.value v) w)
structure ValAt (C : Ctx) (E : Env) (Ls : List Hp) (o : Oper) (v : Value) : Prop where
  mk :: (out : ∀ a w, Fits E C.fn.ntmps a → Goes C.w0 C.L0 w Ls.flatten → (execOp a.eval o).run C.P w = .ok (.value v) w)
section
variable {C : Ctx} {ks : List Kont} {E : Env} {Ls : List Hp} {ops : Array Oper} {fuel : Nat} {ds : List Nat}
theorem panic_put (ks : List Kont) (d : Option Nat) (v : Value) : ∀ c a w, after C ks (.panic c) (a.put d v) w → after C ks (.panic c) a w := by
  induction ks with
  | nil =>
    intro c a w h
    obtain ⟨h1, h2⟩ := h
    exact ⟨by cases d <;> simpa [Act.put] using h1, h2⟩
  | cons k ks ih => cases k <;> exact ih
theorem run_draw {id : Nat} (hm : C.P.follows .mixedOrders = true) (h : Any C ops ops.size [] ks E Ls) : Run C (.region id ops true) ks E Ls :=
  ⟨fun a w f g => wp_region_any hm (by
    rw [← doneArr_nil]
    exact h.out a { w with drawn := w.drawn + 1 } f ⟨g.os, g.tape, g.output, g.size, g.keep, ⟨g.now.nd, g.now.here⟩, g.new⟩)⟩
def wantOk (ops : Array Oper) (E : Env) (o : Oper) (yes : Bool) : Bool :=
  match o.guard with
  | none => yes
  | some (j, b) => match ((ops[j]?).bind (·.dst)).bind E.find with
    | some (.bool c) => c == (b == yes)
    | _ => false
theorem wantOk_spec {o : Oper} {yes : Bool} {a : Act} {n : Nat} (f : Fits E n a) (h : wantOk ops E o yes = true) : Region.wanted o (yielded ops a.tmps) = yes := by
  unfold wantOk at h
  unfold Region.wanted
  cases hg : o.guard with
  | none => rw [hg] at h; simpa using h.symm
  | some jb =>
    obtain ⟨j, b⟩ := jb
    rw [hg] at h
    simp only at h ⊢
    unfold yielded
    cases ht : (ops[j]?).bind (·.dst) with
    | none => rw [ht] at h; simp at h
    | some t =>
      rw [ht] at h
      simp only [Option.bind_some] at h ⊢
      cases hf : E.find t with
      | none => rw [hf] at h; simp at h
      | some v =>
        rw [hf] at h
        rw [f.val t v hf]
        cases v <;> simp at h ⊢
        subst h
        cases b <;> cases yes <;> rfl
def putE (d : Option Nat) (v : Value) (E : Env) : Env := match d with | some d => (d, v) :: E | none => E
theorem Fits.putE {n : Nat} {a : Act} (f : Fits E n a) {d : Option Nat} {v : Value} (hn : (match d with | some d => Nat.blt d n | none => true) = true) : Fits (Eng.putE d v E) n (a.put d v) := by
  cases d with
  | none => exact f
  | some d => exact f.put v (Nat.lt_of_succ_le (by simpa [Nat.blt] using hn))
theorem any_pure (k : Nat) {i : Nat} {o : Oper} {v : Value} (hu : undone (List.range ops.size) ds k = some i) (hi : opAt ops.toList i = some o) (hw : wantOk ops E o true = true)
    (hv : Val C E o v) (hs : Region.noSelect ops = true) (hf : Region.free .any ops (doneArr ops.size ds) i = true) (hr : (Region.ready .any ops (doneArr ops.size ds)).contains i = true)
    {d : Nat} (hd : o.dst = some d) (hn : Nat.blt d C.fn.ntmps = true) (h : Any C ops fuel (i :: ds) ks ((d, v) :: E) Ls) : Any C ops (fuel + 1) ds ks E Ls :=
  ⟨fun a w f g => wpAny_take (opAt_get hi) hs hf hr (panic_put ks _ v) (.inl ⟨wantOk_spec f hw, hv.out a f⟩) (by rw [doneArr_set]; rw [hd]; exact h.out _ w (f.put _ (Nat.lt_of_succ_le (by simpa [Nat.blt] using hn))) g)⟩
theorem any_off (k : Nat) {i : Nat} {o : Oper} (hu : undone (List.range ops.size) ds k = some i) (hi : opAt ops.toList i = some o) (hw : wantOk ops E o false = true)
    (hs : Region.noSelect ops = true) (hf : Region.free .any ops (doneArr ops.size ds) i = true) (hr : (Region.ready .any ops (doneArr ops.size ds)).contains i = true)
    {d : Nat} (hd : o.dst = some d) (hn : Nat.blt d C.fn.ntmps = true) (h : Any C ops fuel (i :: ds) ks ((d, undef) :: E) Ls) : Any C ops (fuel + 1) ds ks E Ls :=
  ⟨fun a w f g => wpAny_take (opAt_get hi) hs hf hr (panic_put ks _ undef) (.inr ⟨wantOk_spec f hw, rfl⟩) (by rw [doneArr_set]; rw [hd]; exact h.out _ w (f.put _ (Nat.lt_of_succ_le (by simpa [Nat.blt] using hn))) g)⟩
theorem any_off0 (k : Nat) {i : Nat} {o : Oper} (hu : undone (List.range ops.size) ds k = some i) (hi : opAt ops.toList i = some o) (hw : wantOk ops E o false = true)
    (hs : Region.noSelect ops = true) (hf : Region.free .any ops (doneArr ops.size ds) i = true) (hr : (Region.ready .any ops (doneArr ops.size ds)).contains i = true)
    (hd : o.dst = none) (h : Any C ops fuel (i :: ds) ks E Ls) : Any C ops (fuel + 1) ds ks E Ls :=
  ⟨fun a w f g => wpAny_take (opAt_get hi) hs hf hr (panic_put ks _ undef) (.inr ⟨wantOk_spec f hw, rfl⟩) (by rw [doneArr_set, hd]; exact h.out _ w f g)⟩
theorem any_read (k : Nat) {i : Nat} {o : Oper} {v : Value} (hu : undone (List.range ops.size) ds k = some i) (hi : opAt ops.toList i = some o) (hw : wantOk ops E o true = true)
    (hv : ValAt C E Ls o v) (hs : Region.noSelect ops = true) (hf : freeRo .any ops (doneArr ops.size ds) i = true) (hr : (Region.ready .any ops (doneArr ops.size ds)).contains i = true)
    {d : Nat} (hd : o.dst = some d) (hn : Nat.blt d C.fn.ntmps = true) (h : Any C ops fuel (i :: ds) ks ((d, v) :: E) Ls) : Any C ops (fuel + 1) ds ks E Ls :=
  ⟨fun a w f g => wpAny_firstAt (opAt_get hi) (Region.noSelect_spec hs) (panic_put ks _ v) fuel _ a w (freeRo_spec (opAt_get hi) hf) (by simpa using hr) (.inl ⟨wantOk_spec f hw, hv.out a w f g⟩) (by rw [doneArr_set]; rw [hd]; exact h.out _ w (f.put _ (Nat.lt_of_succ_le (by simpa [Nat.blt] using hn))) g)⟩
theorem any_done (hr : Region.ready .any ops (doneArr ops.size ds) = []) (h : Fin C .normal ks E Ls) : Any C ops fuel ds ks E Ls :=
  ⟨fun a w f g => wpAny_done hr (h.out a w f g) fuel⟩
theorem wpOp_of_list {i : Nat} {o : Oper} {a : Act} {w : World} {J : Act → World → Prop} (hi : ops[i]? = some o) (h : wpList C.P ops (after C (.inv J :: ks)) [o] a w) : wpOp C.P ops (after C ks) i J a w := by
  unfold wpList at h
  unfold wpOp
  simp only [hi]
  split
  · rename_i hw
    rw [if_pos hw] at h
    rcases h with h | ⟨h1, a', w', h2⟩
    · refine .inl ?_
      unfold Oper.wp at *
      generalize (execOp a.eval o).run C.P w = r at *
      cases r with
      | ok n w' =>
        cases n <;> simp only [Oper.upon] at h ⊢
        case value v => exact h
        case skip => exact h
        case defer d => exact h
        case row r args => exact h
        case enter f args =>
          refine Calls.mono h fun e w'' he => ?_
          cases e with
          | returned u => exact he
          | panicked c => exact he
          | outgrown =>
            obtain ⟨a', w', h2⟩ := he
            exact ⟨a', w', h2⟩
      | halt x w' =>
        cases x <;> simp only [Oper.upon] at h ⊢
        exact h
    · exact .inr ⟨h1, a', w', h2⟩
  · rename_i hw
    rw [if_neg hw] at h
    exact h
theorem any_one {i : Nat} {o : Oper} (hu : undone (List.range ops.size) ds 0 = some i) (hi : opAt ops.toList i = some o) (hr : Region.ready .any ops (doneArr ops.size ds) = [i])
    (h : Ops C ops [o] (.inv (AnyK C ops fuel (i :: ds) ks) :: ks) E Ls) : Any C ops (fuel + 1) ds ks E Ls :=
  ⟨fun a w f g => wpAny_all hr (by simp) (fun j hj => by
    obtain rfl := List.mem_singleton.1 hj
    rw [doneArr_set]
    exact wpOp_of_list (opAt_get hi) (h.out a w f g))⟩
/-- One of two comes first. -/
theorem any_two (i j : Nat) {o o' : Oper} (hi : opAt ops.toList i = some o) (hj : opAt ops.toList j = some o') (hr : Region.ready .any ops (doneArr ops.size ds) = [i, j])
    (h : Ops C ops [o] (.inv (AnyK C ops fuel (i :: ds) ks) :: ks) E Ls) (h' : Ops C ops [o'] (.inv (AnyK C ops fuel (j :: ds) ks) :: ks) E Ls) : Any C ops (fuel + 1) ds ks E Ls :=
  ⟨fun a w f g => wpAny_all hr (by simp) (fun k hk => by
    rw [doneArr_set]
    rcases List.mem_cons.1 hk with rfl | hk
    · exact wpOp_of_list (opAt_get hi) (h.out a w f g)
    · obtain rfl := List.mem_singleton.1 hk
      exact wpOp_of_list (opAt_get hj) (h'.out a w f g))⟩
theorem any_three (i j l : Nat) {o o' o'' : Oper} (hi : opAt ops.toList i = some o) (hj : opAt ops.toList j = some o') (hl : opAt ops.toList l = some o'') (hr : Region.ready .any ops (doneArr ops.size ds) = [i, j, l])
    (h : Ops C ops [o] (.inv (AnyK C ops fuel (i :: ds) ks) :: ks) E Ls) (h' : Ops C ops [o'] (.inv (AnyK C ops fuel (j :: ds) ks) :: ks) E Ls)
    (h'' : Ops C ops [o''] (.inv (AnyK C ops fuel (l :: ds) ks) :: ks) E Ls) : Any C ops (fuel + 1) ds ks E Ls :=
  ⟨fun a w f g => wpAny_all hr (by simp) (fun k hk => by
    rw [doneArr_set]
    rcases List.mem_cons.1 hk with rfl | hk
    · exact wpOp_of_list (opAt_get hi) (h.out a w f g)
    · rcases List.mem_cons.1 hk with rfl | hk
      · exact wpOp_of_list (opAt_get hj) (h'.out a w f g)
      · obtain rfl := List.mem_singleton.1 hk
        exact wpOp_of_list (opAt_get hl) (h''.out a w f g))⟩
theorem fin_any (h : Any C ops fuel ds ks E Ls) : Fin C .normal (.inv (AnyK C ops fuel ds ks) :: ks) E Ls := ⟨fun a w f g => h.out a w f g⟩
end

/-! ### What single operations yield -/
section
variable {C : Ctx} {ks : List Kont} {E : Env} {Ls : List Hp} {ops : Array Oper} {rest : List Oper}
variable {ty : Nat} {pos : String} {af : Array Edge} {d : Option Nat} {gg : Option (Nat × Bool)}
variable {bt bt' : Nat} {x y : Operand} {ik : IntKind} {m n : Int}
theorem val_move {x : Operand} {v : Value} (hx : ev E x = some v) : Val C E ⟨d, .move x, ty, pos, af, gg⟩ (v) := ⟨fun a f w => by simp [execOp, f.ev hx]⟩
theorem val_assign {x : Operand} {v : Value} (hx : ev E x = some v) : Val C E ⟨d, .assign x, ty, pos, af, gg⟩ (v) := ⟨fun a f w => by simp [execOp, f.ev hx]⟩
theorem val_pick_t {c x y : Operand} {v : Value} (hc : ev E c = some (.bool true)) (hx : ev E x = some v) : Val C E ⟨d, .pick c x y, ty, pos, af, gg⟩ (v) := ⟨fun a f w => by simp [execOp, f.ev hc, f.ev hx, asBool]⟩
theorem val_pick_f {c x y : Operand} {v : Value} (hc : ev E c = some (.bool false)) (hy : ev E y = some v) : Val C E ⟨d, .pick c x y, ty, pos, af, gg⟩ (v) := ⟨fun a f w => by simp [execOp, f.ev hc, f.ev hy, asBool]⟩
theorem val_nilCheck {x : Operand} {p : Addr} (hx : ev E x = some (.pointer (some p))) : Val C E ⟨d, .nilCheck x, ty, pos, af, gg⟩ (.pointer (some p)) := ⟨fun a f w => by simp [execOp, f.ev hx]⟩
theorem val_fieldAddr {s f off g o : Nat} {x : Operand} [TField C.P s f off] (hx : ev E x = some (.pointer (some ⟨g, o, none⟩))) : Val C E ⟨d, .fieldAddr s x f, ty, pos, af, gg⟩ (.pointer (some ⟨g, o + off, none⟩)) := ⟨fun a ft w => by simp [execOp, ft.ev hx, run_fieldAt]⟩
theorem val_field1 {s f off : Nat} {x : Operand} {cs : Array Value} {v : Value} [c : TPart C.P s f off 1 false] (hx : ev E x = some (.agg cs)) (hv : cs[off]? = some v) : Val C E ⟨d, .field s x f, ty, pos, af, gg⟩ (v) := ⟨fun a ft w => by
    have := c.h
    simp only [execOp, ft.ev hx, Instr.field, underlying]
    cases h : C.P.underlying s with
    | none => simp [h] at this
    | some dd =>
      cases dd <;> simp [h] at this ⊢
      rename_i fs
      cases hf : fs[f]? with
      | none => simp [hf] at this
      | some y =>
        simp [hf] at this ⊢
        obtain ⟨h1, h2⟩ := this
        have hag : (isAgg y.type).run C.P w = .ok false w := by
          unfold isAgg underlying
          cases hu : C.P.underlying y.type with
          | none => cases hi : C.P.info? y.type <;> simp [hu, hi] at h2
          | some u => cases hi : C.P.info? y.type <;> cases u <;> simp [hu, hi] at h2 ⊢ <;> rfl
        simp [asAgg, run_part1 hag (h1 ▸ hv)]⟩
theorem val_fieldN {s f off size : Nat} {x : Operand} {cs : Array Value} [c : TPart C.P s f off size true] (hx : ev E x = some (.agg cs)) : Val C E ⟨d, .field s x f, ty, pos, af, gg⟩ (.agg (cs.extract off (off + size))) := ⟨fun a ft w => by
    have := c.h
    simp only [execOp, ft.ev hx, Instr.field, underlying]
    cases h : C.P.underlying s with
    | none => simp [h] at this
    | some dd =>
      cases dd <;> simp [h] at this ⊢
      rename_i fs
      cases hf : fs[f]? with
      | none => simp [hf] at this
      | some y =>
        simp [hf] at this ⊢
        obtain ⟨h1, h2⟩ := this
        cases hi : C.P.info? y.type with
        | none => simp [hi] at h2
        | some i =>
          cases hu : C.P.underlying y.type with
          | none => simp [hu, hi] at h2
          | some u => cases u <;> simp [hu, hi] at h2 <;> simp [asAgg, part, isAgg, underlying, hu, sizeOf, typeInfo, hi, h1, h2]⟩
theorem val_extract {x : Operand} {i : Nat} {vs : Array Value} {v : Value} (hx : ev E x = some (.tuple vs)) (hv : vs[i]? = some v) : Val C E ⟨d, .extract x i, ty, pos, af, gg⟩ (v) := ⟨fun a f w => by simp [execOp, f.ev hx, Instr.extract, hv]⟩
theorem val_add (hx : ev E x = some (.int ik m)) (hy : ev E y = some (.int ik n)) (h : kLo ik ≤ m + n ∧ m + n ≤ kHi ik) : Val C E ⟨d, .binOp .add bt x y bt', ty, pos, af, gg⟩ (.int ik (m + n)) := ⟨fun a f w => by simp [execOp, f.ev hx, f.ev hy, eqGuard_int, binOp, Op.intArith, wrap_in h.1 h.2]⟩
theorem val_sub (hx : ev E x = some (.int ik m)) (hy : ev E y = some (.int ik n)) (h : kLo ik ≤ m - n ∧ m - n ≤ kHi ik) : Val C E ⟨d, .binOp .sub bt x y bt', ty, pos, af, gg⟩ (.int ik (m - n)) := ⟨fun a f w => by simp [execOp, f.ev hx, f.ev hy, eqGuard_int, binOp, Op.intArith, wrap_in h.1 h.2]⟩
theorem val_mul (hx : ev E x = some (.int ik m)) (hy : ev E y = some (.int ik n)) (h : kLo ik ≤ m * n ∧ m * n ≤ kHi ik) : Val C E ⟨d, .binOp .mul bt x y bt', ty, pos, af, gg⟩ (.int ik (m * n)) := ⟨fun a f w => by simp [execOp, f.ev hx, f.ev hy, eqGuard_int, binOp, Op.intArith, wrap_in h.1 h.2]⟩
theorem val_addw (hx : ev E x = some (.int ik m)) (hy : ev E y = some (.int ik n)) : Val C E ⟨d, .binOp .add bt x y bt', ty, pos, af, gg⟩ (.int ik (ik.wrap (m + n))) := ⟨fun a f w => by simp [execOp, f.ev hx, f.ev hy, eqGuard_int, binOp, Op.intArith]⟩
theorem val_subw (hx : ev E x = some (.int ik m)) (hy : ev E y = some (.int ik n)) : Val C E ⟨d, .binOp .sub bt x y bt', ty, pos, af, gg⟩ (.int ik (ik.wrap (m - n))) := ⟨fun a f w => by simp [execOp, f.ev hx, f.ev hy, eqGuard_int, binOp, Op.intArith]⟩
theorem val_mulw (hx : ev E x = some (.int ik m)) (hy : ev E y = some (.int ik n)) : Val C E ⟨d, .binOp .mul bt x y bt', ty, pos, af, gg⟩ (.int ik (ik.wrap (m * n))) := ⟨fun a f w => by simp [execOp, f.ev hx, f.ev hy, eqGuard_int, binOp, Op.intArith]⟩
theorem val_quo (hx : ev E x = some (.int ik m)) (hy : ev E y = some (.int ik n)) (h : n ≠ 0) : Val C E ⟨d, .binOp .quo bt x y bt', ty, pos, af, gg⟩ (.int ik (ik.wrap (m.tdiv n))) := ⟨fun a f w => by simp [execOp, f.ev hx, f.ev hy, eqGuard_int, binOp, Op.intDiv, h]⟩
theorem val_rem (hx : ev E x = some (.int ik m)) (hy : ev E y = some (.int ik n)) (h : n ≠ 0) : Val C E ⟨d, .binOp .rem bt x y bt', ty, pos, af, gg⟩ (.int ik (m.tmod n)) := ⟨fun a f w => by simp [execOp, f.ev hx, f.ev hy, eqGuard_int, binOp, Op.intDiv, h]⟩
theorem val_bits {op : BinOp} (ho : isBits op = true) (hx : ev E x = some (.int ik m)) (hy : ev E y = some (.int ik n)) : Val C E ⟨d, .binOp op bt x y bt', ty, pos, af, gg⟩ (.int ik (bitop op ik m n)) := ⟨fun a f w => by cases op <;> simp [isBits] at ho <;> simp [execOp, f.ev hx, f.ev hy, eqGuard_int, binOp, Op.intBits, bitop]⟩
theorem val_shl {yk : IntKind} (hx : ev E x = some (.int ik m)) (hy : ev E y = some (.int yk n)) (h : 0 ≤ n) : Val C E ⟨d, .binOp .shl bt x y bt', ty, pos, af, gg⟩ (.int ik (ik.wrap (m * 2 ^ (min n.toNat ik.bits)))) := ⟨fun a f w => by
    have : ¬ n < 0 := by omega
    simp [execOp, f.ev hx, f.ev hy, eqGuard_int, binOp, Op.shift, this]⟩
theorem val_shr {yk : IntKind} (hx : ev E x = some (.int ik m)) (hy : ev E y = some (.int yk n)) (h : 0 ≤ n) : Val C E ⟨d, .binOp .shr bt x y bt', ty, pos, af, gg⟩ (.int ik (m.fdiv (2 ^ (min n.toNat ik.bits)))) := ⟨fun a f w => by
    have : ¬ n < 0 := by omega
    simp [execOp, f.ev hx, f.ev hy, eqGuard_int, binOp, Op.shift, this]⟩
theorem val_cmp {op : BinOp} (ho : isCmp op = true) (hx : ev E x = some (.int ik m)) (hy : ev E y = some (.int ik n)) : Val C E ⟨d, .binOp op bt x y bt', ty, pos, af, gg⟩ (.bool (cmp op m n)) := ⟨fun a f w => by cases op <;> simp [isCmp] at ho <;> simp [execOp, f.ev hx, f.ev hy, eqGuard_int, binOp, Op.intCmp, cmp]⟩
theorem val_eqb [c : TBool C.P bt] {b1 b2 : Bool} (hx : ev E x = some (.bool b1)) (hy : ev E y = some (.bool b2)) : Val C E ⟨d, .binOp .eql bt x y bt', ty, pos, af, gg⟩ (.bool (b1 == b2)) := ⟨fun a f w => by simp only [execOp, f.ev hx, f.ev hy, Sem.run_bind, eqGuard_bool, Result.andThen_ok, binOp_eqb c.h, Sem.run_pure]⟩
theorem val_neqb [c : TBool C.P bt] {b1 b2 : Bool} (hx : ev E x = some (.bool b1)) (hy : ev E y = some (.bool b2)) : Val C E ⟨d, .binOp .neq bt x y bt', ty, pos, af, gg⟩ (.bool (!(b1 == b2))) := ⟨fun a f w => by simp only [execOp, f.ev hx, f.ev hy, Sem.run_bind, eqGuard_bool, Result.andThen_ok, binOp_neqb c.h, Sem.run_pure]⟩
theorem val_not {b : Bool} (hx : ev E x = some (.bool b)) : Val C E ⟨d, .unOp .not bt x, ty, pos, af, gg⟩ (.bool (!b)) := ⟨fun a f w => by simp [execOp, f.ev hx, Op.unary]⟩
theorem val_conv {s e : Nat} {ik' : IntKind} [c : TInt C.P e ik'] [c' : TInt C.P s ik] (hx : ev E x = some (.int ik m)) (h : kLo ik' ≤ m ∧ m ≤ kHi ik') : Val C E ⟨d, .convert s e x, ty, pos, af, gg⟩ (.int ik' m) := ⟨fun a f w => by simp [execOp, f.ev hx, convert, underlying, c.h, c'.h, Conv.intToInt, wrap_in h.1 h.2]⟩
theorem val_convw {s e : Nat} {ik' : IntKind} [c : TInt C.P e ik'] [c' : TInt C.P s ik] (hx : ev E x = some (.int ik m)) : Val C E ⟨d, .convert s e x, ty, pos, af, gg⟩ (.int ik' (ik'.wrap m)) := ⟨fun a f w => by simp [execOp, f.ev hx, convert, underlying, c.h, c'.h, Conv.intToInt]⟩
theorem val_load {x : Operand} {p : Addr} {v : Value} {lt : Nat} [TOne C.P lt]  (hx : ev E x = some (.pointer (some p))) (hc : Cell C Ls p v) : ValAt C E Ls ⟨d, .load lt x, ty, pos, af, gg⟩ (v) := ⟨fun a w f g => by simp [execOp, f.ev hx, Instr.loadAt, Instr.sureAddr, loadVar, isAgg_one, hc w g]⟩
theorem val_loadN {x : Operand} {g o t n : Nat} {cs : Array Value} {fr : Nat × Nat} {lt : Nat} [TAgg C.P lt n]  (hx : ev E x = some (.pointer (some ⟨g, o, none⟩))) (hh : Has Ls g (.cells cs t fr)) (hsz : o + n ≤ cs.size) : ValAt C E Ls ⟨d, .load lt x, ty, pos, af, gg⟩ (.agg (cs.extract o (o + n))) := ⟨fun a w f gs => by
    have : (loadCells ⟨g, o, none⟩ n).run C.P w = .ok (cs.extract o (o + n)) w := by
      have hl := run_loadCells_list (P := C.P) (w := w) ⟨g, o, none⟩ (cs.extract o (o + n)).toList (fun j v hv => by
        rw [add_addr, cell_has gs hh]
        rw [Array.getElem?_toList, Array.getElem?_extract] at hv
        split at hv
        · exact hv
        · cases hv)
      have e : (cs.extract o (o + n)).toList.length = n := by simp; omega
      rw [e] at hl
      rw [hl]
    simp [execOp, f.ev hx, Instr.loadAt, Instr.sureAddr, loadVar, isAgg_agg, sizeOf_agg, this]⟩
theorem val_index {x y : Operand} {t e size bytes : Nat} {z : Value} [c : TSlice C.P t e size bytes z] {g o off len cap : Nat} {ik : IntKind} {i : Int}
     (hx : ev E x = some (.slice (some ⟨g, o, none⟩) len cap)) (hy : ev E y = some (.int ik i)) (hb : 0 ≤ i ∧ i < len) (ho : o + i.toNat * size = off) : Val C E ⟨d, .indexAddr t x y, ty, pos, af, gg⟩ (.pointer (some ⟨g, off, none⟩)) := ⟨fun a f w => by
    obtain ⟨ii, hi, hz0, hz1, hz2⟩ := infoParts c.h2
    simp [execOp, f.ev hx, f.ev hy, Instr.indexAt, asIntOf, underlying, c.h1, sizeOf, typeInfo, hi, hz1, hb.1, hb.2, add_addr, ho]⟩
theorem val_len {x : Operand} {t e size bytes : Nat} {z : Value} [c : TSlice C.P t e size bytes z] {A : Option Addr} {len cap : Nat}
     (hx : ev E x = some (.slice A len cap)) : Val C E ⟨d, .call { callee := .builtin .len, args := #[x], argTypes := #[t] }, ty, pos, af, gg⟩ (.int .i64 len) := ⟨fun a f w => by
    simp [execOp, f.ev hx, resolve, invoke, builtin, Builtin.len_, underlying, c.h1, goInt]⟩
theorem val_cap {x : Operand} {t e size bytes : Nat} {z : Value} [c : TSlice C.P t e size bytes z] {A : Option Addr} {len cap : Nat}
     (hx : ev E x = some (.slice A len cap)) : Val C E ⟨d, .call { callee := .builtin .cap, args := #[x], argTypes := #[t] }, ty, pos, af, gg⟩ (.int .i64 cap) := ⟨fun a f w => by
    simp [execOp, f.ev hx, resolve, invoke, builtin, Builtin.cap_, underlying, c.h1, goInt]⟩
theorem val_build {t : Nat} {offs : List (Option Nat)} {zero : List Value} [c : TBuild C.P t offs zero] {ps : Array (Nat × Operand)} {is : List Nat} {vs : List Value} {cs : List Value}
     (hi : ps.toList.map (·.1) = is) (hx : evs E (ps.toList.map (·.2)) = some vs) (h1 : ∀ v ∈ vs, v.cells = #[v]) (hb : bld offs zero (is.zip vs) = some cs) : Val C E ⟨d, .build t ps, ty, pos, af, gg⟩ (.agg cs.toArray) := ⟨fun a f w => by
    have e : (ps.map fun (i, x) => (i, a.eval x)) = (is.zip vs).toArray := by
      apply Array.ext'
      simp only [Array.toList_map]
      rw [← hi, ← f.evs hx]
      induction ps.toList with
      | nil => rfl
      | cons p r ih => simpa using ih
    simp only [execOp, e, Sem.run_bind, run_build (ps := is.zip vs) (fun p hp => h1 p.2 (List.of_mem_zip hp).2) hb, Result.andThen_ok, Sem.run_pure]⟩
theorem val_loadA {x : Operand} {g o n : Nat} {vs : List Value} {lt : Nat} [TAgg C.P lt n]  (hx : ev E x = some (.pointer (some ⟨g, o, none⟩))) (hl : vs.length = n)
    (hs : ∀ (j : Nat) v, vs[j]? = some v → Cell C Ls ⟨g, o + j, none⟩ v) : ValAt C E Ls ⟨d, .load lt x, ty, pos, af, gg⟩ (.agg vs.toArray) := ⟨fun a w f gs => by
    have : (loadCells ⟨g, o, none⟩ n).run C.P w = .ok vs.toArray w := by
      have hl' := run_loadCells_list (P := C.P) (w := w) ⟨g, o, none⟩ vs (fun j v hv => by
        rw [add_addr]; exact hs j v hv w gs)
      rw [hl] at hl'
      exact hl'
    simp [execOp, f.ev hx, Instr.loadAt, Instr.sureAddr, loadVar, isAgg_agg, sizeOf_agg, this]⟩
theorem val_cmp_t {op : BinOp} (ho : isCmp op = true) (hx : ev E x = some (.int ik m)) (hy : ev E y = some (.int ik n)) (h : cmpP op m n) : Val C E ⟨d, .binOp op bt x y bt', ty, pos, af, gg⟩ (.bool true) := by
  rw [← cmp_t h]; exact val_cmp ho hx hy
theorem val_cmp_f {op : BinOp} (ho : isCmp op = true) (hx : ev E x = some (.int ik m)) (hy : ev E y = some (.int ik n)) (h : ¬ cmpP op m n) : Val C E ⟨d, .binOp op bt x y bt', ty, pos, af, gg⟩ (.bool false) := by
  rw [← cmp_f ho h]; exact val_cmp ho hx hy
end
end Go.Proofs.Eng
