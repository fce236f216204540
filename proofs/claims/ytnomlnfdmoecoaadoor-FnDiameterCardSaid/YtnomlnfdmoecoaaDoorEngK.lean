/- The engine, part K: regions that draw their order, with memory that stays known meanwhile. -/
import Derived.Test.YtnomlnfdmoecoaaDoorEngI
set_option linter.unusedVariables false
set_option linter.unusedSimpArgs false
namespace Go.Proofs.Eng
open Go.RowKit
def wpG (C : Ctx) (Lk : Hp) (ops : Array Oper) (Q : Exit → Act → World → Prop) : Nat → Array Bool → Act → World → Prop
  | 0, listed, a, w => (∃ L, Goes C.w0 C.L0 w (Lk ++ L)) ∧ Region.ready .any ops listed = [] ∧ Q .normal a w
  | fuel + 1, listed, a, w => (∃ L, Goes C.w0 C.L0 w (Lk ++ L)) ∧ (Region.ready .any ops listed = [] → Q .normal a w) ∧
      ∀ i ∈ Region.ready .any ops listed, wpOp C.P ops Q i (wpG C Lk ops Q fuel (listed.setIfInBounds i true)) a w
section
variable {C : Ctx} {Lk : Hp} {ops : Array Oper} {Q : Exit → Act → World → Prop}
theorem wpG_any : ∀ (fuel : Nat) (listed : Array Bool) (a : Act) (w : World), wpG C Lk ops Q fuel listed a w → wpAny C.P .any ops Q fuel listed a w
  | 0, _, _, _, h => h.2
  | fuel + 1, listed, a, w, h => ⟨h.2.1, fun i hi => wpOp_mono (fun a' w' => wpG_any fuel _ a' w') (h.2.2 i hi)⟩
theorem wpG_inv : ∀ {fuel : Nat} {listed : Array Bool} {a : Act} {w : World}, wpG C Lk ops Q fuel listed a w → ∃ L, Goes C.w0 C.L0 w (Lk ++ L)
  | 0, _, _, _, h => h.1
  | _ + 1, _, _, _, h => h.1
/-- What an operation yields as long as the blocks Lk stay. -/
def StayY (C : Ctx) (Lk : Hp) (ops : Array Oper) (o : Oper) (v : Value) (a : Act) : Prop := ∀ w L, Goes C.w0 C.L0 w (Lk ++ L) → YieldsAt C.P ops o v a w
theorem wpG_put {j : Nat} {oi oj : Oper} {v : Value} (hj : ops[j]? = some oj) (hap : oi.apart ops oj = true)
    (hsi : ∀ cs b, oi.op ≠ .select cs b) (hsj : ∀ cs b, oj.op ≠ .select cs b)
    (hQ : ∀ c a w, Q (.panic c) (a.put oi.dst v) w → Q (.panic c) a w) {K : Act → World → Prop} {a : Act} {w : World}
    (hy : StayY C Lk ops oi v a) (h : wpOp C.P ops Q j K (a.put oi.dst v) w) :
    wpOp C.P ops Q j (fun a' w' => StayY C Lk ops oi v a' ∧ K (a'.put oi.dst v) w') a w := by
  obtain ⟨h1, h2, h3⟩ := Oper.apart_spec hap
  have keep : ∀ (a : Act), StayY C Lk ops oi v a → ∀ u, StayY C Lk ops oi v (a.put oj.dst u) := fun a hy u w L g => by
    have := hy w L g
    unfold YieldsAt at *
    rw [execOp_put oi hsi a oj.dst u h3, wanted_put oi a oj.dst u h3]
    exact this
  have keepD : ∀ d, StayY C Lk ops oi v { a with defers := d :: a.defers } := fun d w L g => hy w L g
  unfold wpOp at *
  simp only [hj] at *
  rw [wanted_put oj a oi.dst v h1] at h
  split
  · rename_i hw
    simp only [hw, if_true] at h
    rcases h with h | ⟨hasks, hlets⟩
    case inr => exact .inr ⟨by unfold Oper.asks at *; rw [execOp_put oj hsj a oi.dst v h1] at hasks; exact hasks, hlets⟩
    refine .inl ?_
    unfold Oper.wp at *
    rw [execOp_put oj hsj a oi.dst v h1] at h
    generalize (execOp a.eval oj).run C.P w = r at *
    cases r with
    | ok n w' =>
      cases n <;> simp only [Oper.upon] at h ⊢
      case value u => exact ⟨keep a hy u, by rw [← Act.put_comm a v u h2]; exact h⟩
      case skip => exact ⟨keep a hy _, by rw [← Act.put_comm a v undef h2]; exact h⟩
      case defer d =>
        refine ⟨keep _ (keepD d) _, ?_⟩
        rw [← Act.put_comm _ v undef h2, ← Act.put_defers]
        exact h
      case enter f args =>
        refine Calls.mono h fun e w'' he => ?_
        cases e with
        | returned u => exact ⟨keep a hy u, by rw [← Act.put_comm a v u h2]; exact he⟩
        | panicked c => exact hQ _ _ _ he
        | outgrown => exact he
      case row row args => exact Rows.mono h fun u w'' he => ⟨keep a hy u, by rw [← Act.put_comm a v u h2]; exact he⟩
    | halt x w' =>
      cases x <;> simp only [Oper.upon] at h ⊢
      case panic u => exact hQ _ _ _ h
  · rename_i hw
    simp only [hw] at h
    exact ⟨keep a hy _, by rw [← Act.put_comm a v undef h2]; exact h⟩
theorem wpG_first {i : Nat} {oi : Oper} {v : Value} (hi : ops[i]? = some oi) (hsel : ∀ (j : Nat) (o : Oper) cs b, ops[j]? = some o → o.op ≠ .select cs b)
    (hQ : ∀ c a w, Q (.panic c) (a.put oi.dst v) w → Q (.panic c) a w) :
    ∀ (fuel : Nat) (listed : Array Bool) (a : Act) (w : World),
      (∀ j oj, ops[j]? = some oj → j ≠ i → listed.getD j true = false → (∀ e ∈ oj.after, Region.binds .any e = true → e.on ≠ i) → oi.apart ops oj = true) →
      i ∈ Region.ready .any ops listed → StayY C Lk ops oi v a →
      wpG C Lk ops Q fuel (listed.setIfInBounds i true) (a.put oi.dst v) w → wpG C Lk ops Q (fuel + 1) listed a w := by
  intro fuel
  induction fuel with
  | zero =>
    intro listed a w _ hr hy H
    refine ⟨H.1, fun h => (by rw [h] at hr; cases hr), fun j hj => ?_⟩
    by_cases hji : j = i
    · subst hji
      obtain ⟨L, g⟩ := H.1
      exact (hy w L g).wpOp hi H
    · have := ready_mono hj hji
      rw [H.2.1] at this
      cases this
  | succ fuel ih =>
    intro listed a w hfree hr hy H
    refine ⟨H.1, fun h => (by rw [h] at hr; cases hr), fun j hj => ?_⟩
    by_cases hji : j = i
    · subst hji
      obtain ⟨L, g⟩ := H.1
      exact (hy w L g).wpOp hi H
    · have h1 := H.2.2 j (ready_mono hj hji)
      obtain ⟨hjun, oj, hoj, hall⟩ := mem_ready.1 hj
      have hnot : ∀ e ∈ oj.after, Region.binds .any e = true → e.on ≠ i := fun e he hb heq => by
        have h1 := hall e he hb
        have h0 := (mem_ready.1 hr).1
        rw [heq] at h1
        rcases Nat.lt_or_ge i listed.size with h' | h'
        · simp [h'] at h0 h1; rw [h0] at h1; cases h1
        · simp [Array.getElem?_eq_none h'] at h1
      have h2 := wpG_put hoj (hfree j oj hoj hji hjun hnot) (fun cs b => hsel i oi cs b hi) (fun cs b => hsel j oj cs b hoj) hQ hy h1
      have hfree' : ∀ k ok, ops[k]? = some ok → k ≠ i → (listed.setIfInBounds j true).getD k true = false →
          (∀ e ∈ ok.after, Region.binds .any e = true → e.on ≠ i) → oi.apart ops ok = true := fun k ok hk hki hun hno => by
        refine hfree k ok hk hki ?_ hno
        by_cases hjk : j = k
        · subst hjk; exact hjun
        · rw [getD_set_ne true hjk] at hun; exact hun
      refine wpOp_mono (fun a' w' h3 => ih (listed.setIfInBounds j true) a' w' hfree' (ready_mono hr (Ne.symm hji)) h3.1 ?_) h2
      rw [Array.setIfInBounds_comm _ _ hji]
      exact h3.2
theorem wpG_firstD {i : Nat} {oi : Oper} {v : Value} (hi : ops[i]? = some oi) (hsel : ∀ (j : Nat) (o : Oper) cs b, ops[j]? = some o → o.op ≠ .select cs b)
    (hQ : ∀ c a w, Q (.panic c) (a.put oi.dst v) w → Q (.panic c) a w) (D : Nat → Prop)
    (hD : ∀ j, D j → ∃ oj, ops[j]? = some oj ∧ ∃ e ∈ oj.after, Region.binds .any e = true ∧ (e.on = i ∨ D e.on)) :
    ∀ (fuel : Nat) (listed : Array Bool) (a : Act) (w : World),
      (∀ j, D j → j ≠ i ∧ listed.getD j true = false) →
      (∀ j oj, ops[j]? = some oj → j ≠ i → listed.getD j true = false → ¬ D j → oi.apart ops oj = true ∧ roB oj.op = true) →
      i ∈ Region.ready .any ops listed → YieldsAt C.P ops oi v a w →
      wpG C Lk ops Q fuel (listed.setIfInBounds i true) (a.put oi.dst v) w → wpG C Lk ops Q (fuel + 1) listed a w := by
  intro fuel
  induction fuel with
  | zero =>
    intro listed a w _ _ hr hy H
    refine ⟨H.1, fun h => (by rw [h] at hr; cases hr), fun j hj => ?_⟩
    by_cases hji : j = i
    · subst hji; exact hy.wpOp hi H
    · have := ready_mono hj hji
      rw [H.2.1] at this
      cases this
  | succ fuel ih =>
    intro listed a w hU hfree hr hy H
    refine ⟨H.1, fun h => (by rw [h] at hr; cases hr), fun j hj => ?_⟩
    by_cases hji : j = i
    · subst hji; exact hy.wpOp hi H
    · have h1 := H.2.2 j (ready_mono hj hji)
      obtain ⟨hjun, oj, hoj, hall⟩ := mem_ready.1 hj
      have un : ∀ k, listed.getD k true = false → listed.getD k false = false := fun k h0 => by
        rcases Nat.lt_or_ge k listed.size with h' | h'
        · simp [h'] at h0 ⊢; exact h0
        · simp [Array.getElem?_eq_none h']
      have hnD : ¬ D j := fun hd => by
        obtain ⟨oj', hoj', e, he, hb, hor⟩ := hD j hd
        rw [hoj] at hoj'
        cases hoj'
        have h2 := hall e he hb
        rcases hor with h3 | h3
        · rw [h3, un i (mem_ready.1 hr).1] at h2; cases h2
        · rw [un _ (hU _ h3).2] at h2; cases h2
      obtain ⟨hap, hro⟩ := hfree j oj hoj hji hjun hnD
      have h2 := wpOp_putAt hoj hap hro (fun cs b => hsel i oi cs b hi) (fun cs b => hsel j oj cs b hoj) hQ hy h1
      have hfree' : ∀ k ok, ops[k]? = some ok → k ≠ i → (listed.setIfInBounds j true).getD k true = false → ¬ D k → oi.apart ops ok = true ∧ roB ok.op = true := fun k ok hk hki hun hno => by
        refine hfree k ok hk hki ?_ hno
        by_cases hjk : j = k
        · subst hjk; exact hjun
        · rw [getD_set_ne true hjk] at hun; exact hun
      have hU' : ∀ k, D k → k ≠ i ∧ (listed.setIfInBounds j true).getD k true = false := fun k hk => by
        refine ⟨(hU k hk).1, ?_⟩
        rw [getD_set_ne true (show j ≠ k from fun e => by subst e; exact hnD hk)]
        exact (hU k hk).2
      refine wpOp_mono (fun a' w' h3 => ?_) h2
      obtain ⟨rfl, h4, h5⟩ := h3
      refine ih (listed.setIfInBounds j true) a' w' hU' hfree' (ready_mono hr (Ne.symm hji)) h4 ?_
      rw [Array.setIfInBounds_comm _ _ hji]
      exact h5
end
/-! ### The judgement -/
structure Draw (C : Ctx) (Lk : List Hp) (ops : Array Oper) (fuel : Nat) (ds : List Nat) (ks : List Kont) (E : Env) (Ls : List Hp) : Prop where
  mk :: (out : ∀ a w, Fits E C.fn.ntmps a → Goes C.w0 C.L0 w Ls.flatten → wpG C Lk.flatten ops (after C ks) fuel (doneArr ops.size ds) a w)
def DrawK (C : Ctx) (Lk : List Hp) (ops : Array Oper) (fuel : Nat) (ds : List Nat) (ks : List Kont) : Act → World → Prop := fun a w => wpG C Lk.flatten ops (after C ks) fuel (doneArr ops.size ds) a w
/-- What an operation yields, as long as the blocks Lk stay. -/
structure ValS (C : Ctx) (Lk : List Hp) (E : Env) (o : Oper) (v : Value) : Prop where
  mk :: (out : ∀ a w L, Fits E C.fn.ntmps a → Goes C.w0 C.L0 w (Lk.flatten ++ L) → (execOp a.eval o).run C.P w = .ok (.value v) w)
theorem Val.s {C : Ctx} {Lk : List Hp} {E : Env} {o : Oper} {v : Value} (h : Val C E o v) : ValS C Lk E o v := ⟨fun a w L f g => h.out a f w⟩
theorem ValAt.s {C : Ctx} {Lk : List Hp} {E : Env} {o : Oper} {v : Value} (h : ValAt C E Lk o v) : ValS C Lk E o v := ⟨fun a w L f g => h.out a w f (g.le ⟨L, List.Perm.refl _⟩)⟩
/-- An operation that is not wanted: its guard is off, or was itself not reckoned. -/
def offG (ops : Array Oper) (E : Env) (j : Nat) (b : Bool) : Bool :=
  match ((ops[j]?).bind (·.dst)).bind E.find with
  | some (.bool c) => !(c == b)
  | some (.tuple _) => true
  | _ => false
def offOk (ops : Array Oper) (E : Env) (o : Oper) : Bool :=
  match o.guard with
  | none => false
  | some (j, b) => offG ops E j b
theorem offOk_spec {ops : Array Oper} {E : Env} {o : Oper} {a : Act} {n : Nat} (f : Fits E n a) (h : offOk ops E o = true) : Region.wanted o (yielded ops a.tmps) = false := by
  unfold offOk at h
  unfold Region.wanted
  cases hg : o.guard with
  | none => rw [hg] at h; cases h
  | some jb =>
    obtain ⟨j, b⟩ := jb
    rw [hg] at h
    simp only [offG] at h ⊢
    unfold yielded
    cases ht : (ops[j]?).bind (·.dst) with
    | none => rw [ht] at h; simp at h
    | some t =>
      rw [ht] at h
      simp only [Option.bind_some] at h ⊢
      cases hf : E.find t with
      | none => rw [hf] at h; simp at h
      | some v =>
        rw [hf] at h
        rw [f.val t v hf]
        cases v <;> simp at h ⊢
        simpa using h
def stabOk (ops : Array Oper) (ds : List Nat) (i : Nat) : Bool :=
  Region.noSelect ops && Region.free .any ops (doneArr ops.size ds) i && (Region.ready .any ops (doneArr ops.size ds)).contains i
def lateD (ops : Array Oper) (ds : List Nat) (i : Nat) : Bool :=
  Region.noSelect ops && lateOk .any ops (doneArr ops.size ds) i (lateOf .any ops i) && freeD ops (doneArr ops.size ds) i (lateOf .any ops i) && (Region.ready .any ops (doneArr ops.size ds)).contains i
section
variable {C : Ctx} {Lk : List Hp} {ks : List Kont} {E : Env} {Ls : List Hp} {ops : Array Oper} {fuel : Nat} {ds : List Nat}
theorem inv_of {w : World} (g : Goes C.w0 C.L0 w Ls.flatten) (hk : Le Lk.flatten Ls.flatten) : ∃ L, Goes C.w0 C.L0 w (Lk.flatten ++ L) := by
  obtain ⟨R, hp⟩ := hk
  exact ⟨R, g.le (.of_perm hp)⟩
theorem run_drawS {id : Nat} (Lk : List Hp) (hm : C.P.follows .mixedOrders = true) (h : Draw C Lk ops ops.size [] ks E Ls) : Run C (.region id ops true) ks E Ls :=
  ⟨fun a w f g => wp_region_any hm (by
    rw [← doneArr_nil]
    exact wpG_any _ _ _ _ (h.out a { w with drawn := w.drawn + 1 } f ⟨g.os, g.tape, g.output, g.size, g.keep, ⟨g.now.nd, g.now.here⟩, g.new⟩))⟩
theorem dr_stab (i : Nat) {o : Oper} {v : Value} (hi : opAt ops.toList i = some o) (hw : wantOk ops E o true = true) (hv : ValS C Lk E o v) (hc : stabOk ops ds i = true)
    {d : Nat} (hd : o.dst = some d) (hn : Nat.blt d C.fn.ntmps = true) (h : Draw C Lk ops fuel (i :: ds) ks ((d, v) :: E) Ls) : Draw C Lk ops (fuel + 1) ds ks E Ls := by
  simp only [stabOk, Bool.and_eq_true] at hc
  refine ⟨fun a w f g => wpG_first (opAt_get hi) (Region.noSelect_spec hc.1.1) (panic_put ks _ v) fuel _ a w (Region.free_spec (opAt_get hi) hc.1.2) (by simpa using hc.2) (fun w L g => .inl ⟨wantOk_spec f hw, hv.out a w L f g⟩) ?_⟩
  rw [doneArr_set, hd]
  exact h.out _ w (f.put _ (Nat.lt_of_succ_le (by simpa [Nat.blt] using hn))) g
theorem dr_off (i : Nat) {o : Oper} (hi : opAt ops.toList i = some o) (hw : offOk ops E o = true) (hc : stabOk ops ds i = true)
    {d : Nat} (hd : o.dst = some d) (hn : Nat.blt d C.fn.ntmps = true) (h : Draw C Lk ops fuel (i :: ds) ks ((d, undef) :: E) Ls) : Draw C Lk ops (fuel + 1) ds ks E Ls := by
  simp only [stabOk, Bool.and_eq_true] at hc
  refine ⟨fun a w f g => wpG_first (opAt_get hi) (Region.noSelect_spec hc.1.1) (panic_put ks _ undef) fuel _ a w (Region.free_spec (opAt_get hi) hc.1.2) (by simpa using hc.2) (fun w L g => .inr ⟨offOk_spec f hw, rfl⟩) ?_⟩
  rw [doneArr_set, hd]
  exact h.out _ w (f.put _ (Nat.lt_of_succ_le (by simpa [Nat.blt] using hn))) g
theorem dr_off0 (i : Nat) {o : Oper} (hi : opAt ops.toList i = some o) (hw : offOk ops E o = true) (hc : stabOk ops ds i = true)
    (hd : o.dst = none) (h : Draw C Lk ops fuel (i :: ds) ks E Ls) : Draw C Lk ops (fuel + 1) ds ks E Ls := by
  simp only [stabOk, Bool.and_eq_true] at hc
  refine ⟨fun a w f g => wpG_first (opAt_get hi) (Region.noSelect_spec hc.1.1) (panic_put ks _ undef) fuel _ a w (Region.free_spec (opAt_get hi) hc.1.2) (by simpa using hc.2) (fun w L g => .inr ⟨offOk_spec f hw, rfl⟩) ?_⟩
  rw [doneArr_set, hd]
  exact h.out _ w f g
/-- A read of memory that the region changes later. -/
theorem dr_read (i : Nat) {o : Oper} {v : Value} (hi : opAt ops.toList i = some o) (hw : wantOk ops E o true = true) (hv : ValAt C E Ls o v) (hc : lateD ops ds i = true)
    {d : Nat} (hd : o.dst = some d) (hn : Nat.blt d C.fn.ntmps = true) (h : Draw C Lk ops fuel (i :: ds) ks ((d, v) :: E) Ls) : Draw C Lk ops (fuel + 1) ds ks E Ls := by
  simp only [lateD, Bool.and_eq_true] at hc
  obtain ⟨⟨⟨hs, hl⟩, hf⟩, hr⟩ := hc
  generalize lateOf .any ops i = D at hl hf
  refine ⟨fun a w f g => wpG_firstD (opAt_get hi) (Region.noSelect_spec hs) (panic_put ks _ v) (fun j => j ∈ D) ?_ fuel _ a w ?_ ?_ (by simpa using hr) (.inl ⟨wantOk_spec f hw, hv.out a w f g⟩) (by rw [doneArr_set]; rw [hd]; exact h.out _ w (f.put _ (Nat.lt_of_succ_le (by simpa [Nat.blt] using hn))) g)⟩
  · intro j hj
    have h1 := List.all_eq_true.1 hl j hj
    simp only [Bool.and_eq_true] at h1
    obtain ⟨_, h2⟩ := h1
    cases ho : ops[j]? with
    | none => rw [ho] at h2; cases h2
    | some oj =>
      rw [ho] at h2
      obtain ⟨e, he, hb⟩ := Array.any_eq_true'.1 h2
      simp only [Bool.and_eq_true, Bool.or_eq_true, List.any_eq_true] at hb
      refine ⟨oj, rfl, e, he, hb.1, ?_⟩
      rcases hb.2 with h3 | ⟨x, hx, h3⟩
      · exact .inl (Nat.eq_of_beq_eq_true h3)
      · exact .inr (by rw [Nat.eq_of_beq_eq_true h3]; exact hx)
  · intro j hj
    have h1 := List.all_eq_true.1 hl j hj
    simp only [Bool.and_eq_true, Bool.not_eq_true'] at h1
    refine ⟨fun e => ?_, h1.1.2⟩
    have := h1.1.1
    subst e
    simp at this
  · intro j oj hj hne hun hno
    simp only [freeD, opAt_get hi, List.all_eq_true, List.mem_range] at hf
    have h1 := hf j (Array.getElem?_eq_some_iff.1 hj).1
    have hne' : Nat.beq j i = false := by cases hb : Nat.beq j i with
      | false => rfl
      | true => exact absurd (Nat.eq_of_beq_eq_true hb) hne
    have hD' : D.any (Nat.beq j) = false := by
      cases hb : D.any (Nat.beq j) with
      | false => rfl
      | true =>
        obtain ⟨x, hx, h3⟩ := List.any_eq_true.1 hb
        exact absurd (Nat.eq_of_beq_eq_true h3 ▸ hx) hno
    simp only [hj, hne', hun, hD', Bool.or_false, Bool.false_or] at h1
    simpa using h1
theorem dr_done (hr : (Region.ready .any ops (doneArr ops.size ds)).isEmpty = true) (hk : Le Lk.flatten Ls.flatten) (h : Fin C .normal ks E Ls) : Draw C Lk ops fuel ds ks E Ls := by
  have hr' := List.isEmpty_iff.1 hr
  refine ⟨fun a w f g => ?_⟩
  cases fuel with
  | zero => exact ⟨inv_of g hk, hr', h.out a w f g⟩
  | succ n => exact ⟨inv_of g hk, fun _ => h.out a w f g, by rw [hr']; simp⟩
theorem dr_one (i : Nat) {o : Oper} (hi : opAt ops.toList i = some o) (hr : (Region.ready .any ops (doneArr ops.size ds) == [i]) = true) (hk : Le Lk.flatten Ls.flatten)
    (h : Ops C ops [o] (.inv (DrawK C Lk ops fuel (i :: ds) ks) :: ks) E Ls) : Draw C Lk ops (fuel + 1) ds ks E Ls := by
  have hr' : Region.ready .any ops (doneArr ops.size ds) = [i] := by simpa using hr
  refine ⟨fun a w f g => ⟨inv_of g hk, fun h0 => (by rw [h0] at hr'; cases hr'), ?_⟩⟩
  rw [hr']
  intro j hj
  obtain rfl := List.mem_singleton.1 hj
  rw [doneArr_set]
  exact wpOp_of_list (opAt_get hi) (h.out a w f g)
/-- One of two comes first. -/
theorem dr_two (i j : Nat) {o o' : Oper} (hi : opAt ops.toList i = some o) (hj : opAt ops.toList j = some o') (hr : (Region.ready .any ops (doneArr ops.size ds) == [i, j]) = true) (hk : Le Lk.flatten Ls.flatten)
    (h : Ops C ops [o] (.inv (DrawK C Lk ops fuel (i :: ds) ks) :: ks) E Ls) (h' : Ops C ops [o'] (.inv (DrawK C Lk ops fuel (j :: ds) ks) :: ks) E Ls) : Draw C Lk ops (fuel + 1) ds ks E Ls := by
  have hr' : Region.ready .any ops (doneArr ops.size ds) = [i, j] := by simpa using hr
  refine ⟨fun a w f g => ⟨inv_of g hk, fun h0 => (by rw [h0] at hr'; cases hr'), ?_⟩⟩
  rw [hr']
  intro k hk'
  rw [doneArr_set]
  rcases List.mem_cons.1 hk' with rfl | hk'
  · exact wpOp_of_list (opAt_get hi) (h.out a w f g)
  · obtain rfl := List.mem_singleton.1 hk'
    exact wpOp_of_list (opAt_get hj) (h'.out a w f g)
/-- One of three comes first. -/
theorem dr_three (i j l : Nat) {o o' o'' : Oper} (hi : opAt ops.toList i = some o) (hj : opAt ops.toList j = some o') (hl : opAt ops.toList l = some o'') (hr : (Region.ready .any ops (doneArr ops.size ds) == [i, j, l]) = true) (hk : Le Lk.flatten Ls.flatten)
    (h : Ops C ops [o] (.inv (DrawK C Lk ops fuel (i :: ds) ks) :: ks) E Ls) (h' : Ops C ops [o'] (.inv (DrawK C Lk ops fuel (j :: ds) ks) :: ks) E Ls) (h'' : Ops C ops [o''] (.inv (DrawK C Lk ops fuel (l :: ds) ks) :: ks) E Ls) : Draw C Lk ops (fuel + 1) ds ks E Ls := by
  have hr' : Region.ready .any ops (doneArr ops.size ds) = [i, j, l] := by simpa using hr
  refine ⟨fun a w f g => ⟨inv_of g hk, fun h0 => (by rw [h0] at hr'; cases hr'), ?_⟩⟩
  rw [hr']
  intro k hk'
  rw [doneArr_set]
  rcases List.mem_cons.1 hk' with rfl | hk'
  · exact wpOp_of_list (opAt_get hi) (h.out a w f g)
  · rcases List.mem_cons.1 hk' with rfl | hk'
    · exact wpOp_of_list (opAt_get hj) (h'.out a w f g)
    · obtain rfl := List.mem_singleton.1 hk'
      exact wpOp_of_list (opAt_get hl) (h''.out a w f g)
theorem fin_draw (h : Draw C Lk ops fuel ds ks E Ls) : Fin C .normal (.inv (DrawK C Lk ops fuel ds ks) :: ks) E Ls := ⟨fun a w f g => h.out a w f g⟩
theorem draw_join {α : Type} (E' : α → Env) (H' : α → List Hp) (φ : α → Prop) (K : ∀ x, φ x → Fin C .normal ks (E' x) (H' x))
    (h : (∀ x, φ x → ∀ E Ls, Sub (E' x) E → Le (H' x).flatten Ls.flatten → Fin C .normal ks E Ls) → Draw C Lk ops fuel ds ks E Ls) : Draw C Lk ops fuel ds ks E Ls :=
  h fun x hx E Ls hE hL => (K x hx).weaken hE hL
end
end Go.Proofs.Eng
