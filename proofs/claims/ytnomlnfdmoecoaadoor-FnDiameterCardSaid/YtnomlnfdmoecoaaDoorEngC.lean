/- The engine, part C: stores, new blocks, slices, calls. -/
import Derived.Test.YtnomlnfdmoecoaaDoorEngB
set_option linter.unusedVariables false
namespace Go.Proofs.Eng
open Go.RowKit

section
variable {C : Ctx} {ks : List Kont} {E : Env} {Ls Ls' : List Hp} {ops : Array Oper} {rest : List Oper}
variable {ty : Nat} {pos : String} {af : Array Edge} {d : Nat}

theorem heap_set_self {w : World} {g t : Nat} {cs : Array Value} {o : Nat} {v : Value} (h : w.heap[g]? = some (.cells cs t (0, 0))) : (w.setCell ⟨g, o, none⟩ v).heap[g]? = some (.cells (cs.setIfInBounds o v) t (0, 0)) := by
  simp [World.setCell, Array.getElem?_modify, h]
theorem goes_setCell {w : World} {g t o : Nat} {cs : Array Value} {v : Value} (h : w.heap[g]? = some (.cells cs t (0, 0))) :
    Goes w [⟨g, .cells cs t (0, 0)⟩] (w.setCell ⟨g, o, none⟩ v) [⟨g, .cells (cs.setIfInBounds o v) t (0, 0)⟩] := by
  refine ⟨rfl, rfl, rfl, by simp [World.setCell], fun k hk hn => Below.heap_setCell _ _ _ _ (by simpa [ids] using hn), ⟨by simp [ids], ?_⟩, fun k hk => .inl (by simpa [ids] using hk)⟩
  intro x hx
  obtain rfl := List.mem_singleton.1 hx
  exact heap_set_self h
theorem goes_new (w : World) (o : Obj) : Goes w [] (w.alloc o) [⟨w.heap.size, o⟩] := by
  refine ⟨rfl, rfl, rfl, by simp, fun k hk _ => Below.heap_alloc w o k hk, ⟨by simp [ids], ?_⟩, fun k hk => .inr (by simp [ids] at hk; omega)⟩
  intro x hx
  obtain rfl := List.mem_singleton.1 hx
  exact heap_alloc_new w _

theorem op_store {x y : Operand} {g o t : Nat} {cs : Array Value} {v : Value} {lt : Nat} [TOne C.P lt] (hx : ev E x = some (.pointer (some ⟨g, o, none⟩))) (hy : ev E y = some v) (h1 : v.oneCell' = true)
    (hs : Swap Ls [⟨g, .cells cs t (0, 0)⟩] [⟨g, .cells (cs.setIfInBounds o v) t (0, 0)⟩] Ls') (ho : o < cs.size) (k : Ops C ops rest ks E Ls') : Ops C ops (⟨none, .store lt x y, ty, pos, af, none⟩ :: rest) ks E Ls :=
  ops_skip (fun a w f gs => by
    obtain ⟨R, p1, p2⟩ := hs.perm
    have gs' := gs.le (L' := [⟨g, .cells cs t (0, 0)⟩] ++ R) (.of_perm p1)
    have hh := gs'.now.here ⟨g, .cells cs t (0, 0)⟩ (by simp)
    refine ⟨w.setCell ⟨g, o, none⟩ v, ?_, (gs'.frame (goes_setCell (o := o) (v := v) hh)).le (.of_perm p2.symm)⟩
    have hc : v.cells = #[v] := by cases v <;> simp_all [Value.cells, Value.oneCell']
    have hcell : w.cell? ⟨g, o, none⟩ = some cs[o] := by rw [cell_of_heap hh]; simp [ho]
    have hfr : w.frozen? ⟨g, o, none⟩ = false := by simp [World.frozen?, hh]
    simp [execOp, f.ev hx, f.ev hy, Instr.storeAt, Instr.sureAddr, storeVar, hc, sizeOf_one, storeCells, add_addr, run_store _ _ _ _ _ h1, hcell, hfr]) k

theorem op_box {x : Operand} {v : Value} (hn : Nat.blt d C.fn.ntmps = true) (hx : ev E x = some v) {el : Nat}
    (k : ∀ g, C.w0.heap.size ≤ g → Ops C ops rest ks ((d, .pointer (some ⟨g, 0, none⟩)) :: E) ([⟨g, .cells v.cells el (0, 0)⟩] :: Ls)) : Ops C ops (⟨some d, .box el x, ty, pos, af, none⟩ :: rest) ks E Ls := by
  refine ⟨fun a w f gs => ?_⟩
  refine wpList_plain rfl fun K hK => ?_
  unfold Oper.wp
  have : (execOp a.eval ⟨some d, .box el x, ty, pos, af, none⟩).run C.P w = .ok (.value (.pointer (some ⟨w.heap.size, 0, none⟩))) (w.alloc (.cells v.cells el (0, 0))) := by
    simp [execOp, f.ev hx, Instr.box, newVar, newRow]
  rw [this]
  refine hK _ _ ((k _ gs.size).out _ _ (f.put _ (Nat.lt_of_succ_le (by simpa [Nat.blt] using hn))) ?_)
  exact Goes.frame (Lc := []) gs (goes_new w _)
theorem op_alloc {el : Nat} {z : Value} [c : TZero C.P el z] (hn : Nat.blt d C.fn.ntmps = true)
    (k : ∀ g, C.w0.heap.size ≤ g → Ops C ops rest ks ((d, .pointer (some ⟨g, 0, none⟩)) :: E) ([⟨g, .cells z.cells el (0, 0)⟩] :: Ls)) : Ops C ops (⟨some d, .alloc el, ty, pos, af, none⟩ :: rest) ks E Ls := by
  refine ⟨fun a w f gs => ?_⟩
  refine wpList_plain rfl fun K hK => ?_
  unfold Oper.wp
  have hz : (zeroValue el).run C.P w = .ok z w := by
    have := c.h
    cases hi : C.P.info? el with
    | none => simp [hi] at this
    | some i => simp [hi] at this; simp [zeroValue, typeInfo, hi, this]
  have : (execOp a.eval ⟨some d, .alloc el, ty, pos, af, none⟩).run C.P w = .ok (.value (.pointer (some ⟨w.heap.size, 0, none⟩))) (w.alloc (.cells z.cells el (0, 0))) := by
    simp [execOp, Instr.alloc, hz, newVar, newRow]
  rw [this]
  refine hK _ _ ((k _ gs.size).out _ _ (f.put _ (Nat.lt_of_succ_le (by simpa [Nat.blt] using hn))) ?_)
  exact Goes.frame (Lc := []) gs (goes_new w _)

/-! ### Calls -/
theorem run_callFunc {P : Program} {w : World} {f : Nat} {args : Array Value} [c : TFn P f] : (callFunc f args).run P w = .ok (.enter f args) w := by
  have := c.h
  unfold callFunc
  cases hf : P.funcs[f]? with
  | none => simp [hf] at this
  | some fn =>
    simp [hf] at this
    simp [hf]
    have h2 : fn.body ≠ none := by intro e; simp [e] at this
    simp [this.1, h2]
/-- A call: the callee takes some of the known blocks, and leaves others in their place. -/
theorem call_wp {α : Type} {f : Nat} [TFn C.P f] {args : Array Operand} {ats : Array Nat} {vs : List Value} {ls R : List Hp} {ret : α → Value} {L' : α → List Hp} {φ : α → Prop} {dd : Option Nat}
    (hx : evs E args.toList = some vs) (hp : Picks Ls ls R)
    (hc : ∀ w, Goes C.w0 C.L0 w (ls ++ R).flatten → At w ls.flatten → Calls C.P f vs.toArray w (Post w ls.flatten ret (fun x => (L' x).flatten) φ))
    {a : Act} {w : World} (ft : Fits E C.fn.ntmps a) (gs : Goes C.w0 C.L0 w Ls.flatten) {K : Act → World → Prop} {Q : Exit → Act → World → Prop}
    (k : ∀ x, φ x → ∀ w', Goes C.w0 C.L0 w' (L' x ++ R).flatten → K (a.put dd (ret x)) w') : Oper.wp C.P ⟨dd, .call { callee := .value (.func f), args := args, argTypes := ats }, ty, pos, af, none⟩ a w K Q := by
  unfold Oper.wp
  have gs' : Goes C.w0 C.L0 w (ls.flatten ++ R.flatten) := gs.le (.of_perm hp.perm)
  have hat : At w ls.flatten := ⟨by have := gs'.now.nd; rw [ids_append, List.nodup_append] at this; exact this.1, fun x hx => gs'.now.here x (List.mem_append.2 (.inl hx))⟩
  have e : args.map a.eval = vs.toArray := by
    apply Array.ext'
    simp [ft.evs hx]
  have : (execOp a.eval ⟨dd, .call { callee := .value (.func f), args := args, argTypes := ats }, ty, pos, af, none⟩).run C.P w = .ok (.enter f vs.toArray) w := by
    simp only [execOp, resolve, Act.eval, Deferred.ofValue, e, Sem.run_bind, Sem.run_pure, Result.andThen_ok, invoke, Array.append_empty, Array.empty_append, run_callFunc]
  rw [this]
  refine (hc w (by simpa using gs') hat).mono ?_
  rintro e' w' ⟨x, hφ, rfl, hg⟩
  exact k x hφ w' (by simpa using gs'.frame hg)
theorem op_call {α : Type} {f : Nat} [TFn C.P f] {args : Array Operand} {ats : Array Nat} {vs : List Value} {ls R : List Hp} {ret : α → Value} {L' : α → List Hp} {φ : α → Prop}
    (hn : Nat.blt d C.fn.ntmps = true) (hx : evs E args.toList = some vs) (hp : Picks Ls ls R)
    (hc : ∀ w, Goes C.w0 C.L0 w (ls ++ R).flatten → At w ls.flatten → Calls C.P f vs.toArray w (Post w ls.flatten ret (fun x => (L' x).flatten) φ))
    (k : ∀ x, φ x → Ops C ops rest ks ((d, ret x) :: E) (L' x ++ R)) : Ops C ops (⟨some d, .call { callee := .value (.func f), args := args, argTypes := ats }, ty, pos, af, none⟩ :: rest) ks E Ls := by
  refine ⟨fun a w ft gs => wpList_plain rfl fun K hK => call_wp hx hp hc ft gs fun x hφ w' h2 => ?_⟩
  exact hK _ _ ((k x hφ).out _ _ (ft.put _ (Nat.lt_of_succ_le (by simpa [Nat.blt] using hn))) h2)
theorem op_call0 {α : Type} {f : Nat} [TFn C.P f] {args : Array Operand} {ats : Array Nat} {vs : List Value} {ls R : List Hp} {ret : α → Value} {L' : α → List Hp} {φ : α → Prop}
    (hx : evs E args.toList = some vs) (hp : Picks Ls ls R)
    (hc : ∀ w, Goes C.w0 C.L0 w (ls ++ R).flatten → At w ls.flatten → Calls C.P f vs.toArray w (Post w ls.flatten ret (fun x => (L' x).flatten) φ))
    (k : ∀ x, φ x → Ops C ops rest ks E (L' x ++ R)) : Ops C ops (⟨none, .call { callee := .value (.func f), args := args, argTypes := ats }, ty, pos, af, none⟩ :: rest) ks E Ls := by
  refine ⟨fun a w ft gs => wpList_plain rfl fun K hK => call_wp hx hp hc ft gs fun x hφ w' h2 => ?_⟩
  exact hK _ _ ((k x hφ).out _ _ ft h2)
end

theorem infoParts {P : Program} {e : Nat} {z : Value} {size bytes : Nat} (h : (P.info? e).map (fun i => (i.zero, i.size, i.bytes)) = some (some z, size, bytes)) : ∃ i, P.info? e = some i ∧ i.zero = some z ∧ i.size = size ∧ i.bytes = bytes := by
  cases hi : P.info? e with
  | none => simp [hi] at h
  | some i => simp [hi] at h; exact ⟨i, rfl, h⟩

/-! ### Slices -/
/-- A row of the call's own: v is a slice value of n elements of type e (size cells each), in the blocks l (one, or none), its cells are xs. -/
def Own (e size : Nat) (v : Value) (n : Nat) (xs : List Value) (l : Hp) : Prop :=
  xs.length = n * size ∧
  ((v = .slice none 0 0 ∧ n = 0 ∧ l = []) ∨
   ∃ g cap cur, v = .slice (some ⟨g, 0, none⟩) n cap ∧ l = [⟨g, .cells cur e (0, 0)⟩] ∧ n ≤ cap ∧ cap ≤ maxLen ∧ cur.size = cap * size ∧ cur.toList.take (n * size) = xs)
theorem Own.nil (e size : Nat) : Own e size (.slice none 0 0) 0 [] [] := ⟨by simp, .inl ⟨rfl, rfl, rfl⟩⟩
theorem Own.owns {e size n : Nat} {v : Value} {xs : List Value} {l : Hp} {w : World} (h : Own e size v n xs l) (hw : At w l) : w.ownsRow 0 e size v n xs := by
  refine ⟨h.1, ?_⟩
  rcases h.2 with ⟨rfl, rfl, rfl⟩ | ⟨g, cap, cur, rfl, rfl, h1, h2, h3, h4⟩
  · exact .inl ⟨rfl, rfl⟩
  · exact .inr ⟨g, cap, cur, rfl, Nat.zero_le _, hw.here ⟨g, .cells cur e (0, 0)⟩ (by simp), h1, h2, h3, h4⟩
theorem Own.cell {e n : Nat} {v : Value} {xs : List Value} {l : Hp} (h : Own e 1 v n xs l) {i : Nat} {u : Value} (hi : xs[i]? = some u) :
    ∃ g cap cur, v = .slice (some ⟨g, 0, none⟩) n cap ∧ l = [⟨g, .cells cur e (0, 0)⟩] ∧ cur[i]? = some u := by
  rcases h.2 with ⟨rfl, rfl, rfl⟩ | ⟨g, cap, cur, rfl, rfl, h1, h2, h3, h4⟩
  · have := h.1
    simp at this
    subst this
    simp at hi
  · refine ⟨g, cap, cur, rfl, rfl, ?_⟩
    rw [← h4, List.getElem?_take] at hi
    split at hi
    · simpa using hi
    · cases hi
theorem own_of_owns {e size n m : Nat} {v v' : Value} {xs ys : List Value} {l : Hp} {w w' : World} (h : Own e size v n xs l) (hw : At w l)
    (h' : w'.ownsRow 0 e size v' m ys) (hg : w.grownBy w' v.ownBlock) (hat : v'.ownBlock = v.ownBlock ∨ v'.ownBlock = some w.heap.size) : ∃ l', Own e size v' m ys l' ∧ Goes w l w' l' := by
  have hkeep : ∀ k, k < w.heap.size → k ∉ ids l → w'.heap[k]? = w.heap[k]? := by
    intro k hk hn
    refine hg.block k hk (fun e => hn ?_)
    rcases h.2 with ⟨rfl, rfl, rfl⟩ | ⟨g, cap, cur, rfl, rfl, _⟩
    · simp [Value.ownBlock] at e
    · simp [Value.ownBlock] at e
      simp [ids, e]
  rcases h'.2 with ⟨rfl, rfl⟩ | ⟨g', cap', cur', rfl, _, hh, h1, h2, h3, h4⟩
  · exact ⟨[], ⟨h'.1, .inl ⟨rfl, rfl, rfl⟩⟩, hg.os, hg.tape, hg.output, hg.size, hkeep, At.nil _, by simp [ids]⟩
  · refine ⟨[⟨g', .cells cur' e (0, 0)⟩], ⟨h'.1, .inr ⟨g', cap', cur', rfl, rfl, h1, h2, h3, h4⟩⟩, hg.os, hg.tape, hg.output, hg.size, hkeep, ⟨by simp [ids], ?_⟩, ?_⟩
    · intro x hx
      obtain rfl := List.mem_singleton.1 hx
      exact hh
    · intro k hk
      simp [ids] at hk
      subst hk
      rcases hat with e | e
      · left
        rcases h.2 with ⟨rfl, rfl, rfl⟩ | ⟨g, cap, cur, rfl, rfl, _⟩
        · simp [Value.ownBlock] at e
        · simp [Value.ownBlock] at e
          simp [ids, e]
      · right
        simp [Value.ownBlock] at e
        omega

section
variable {C : Ctx} {ks : List Kont} {E : Env} {Ls Ls' : List Hp} {ops : Array Oper} {rest : List Oper}
variable {ty : Nat} {pos : String} {af : Array Edge} {d : Nat}

/-- append to a row of the call's own; what is appended are m elements, the cells 'news' at address ad. -/
theorem op_append {x y : Operand} {t t' e size bytes : Nat} {z : Value} [c : TSlice C.P t e size bytes z] {v : Value} {n : Nat} {xs : List Value} {l : Hp} {R : List Hp} {ad : Addr} {m cp : Nat} {news : List Value}
    (hn : Nat.blt d C.fn.ntmps = true) (hx : ev E x = some v) (hy : ev E y = some (.slice (some ad) m cp)) (ho : Own e size v n xs l) (hp : Pick Ls l R)
    (hl : news.length = m * size) (h1 : ∀ u ∈ news, u.oneCell' = true) (hs : ∀ j u, news[j]? = some u → Cell C Ls (ad.add j) u)
    (h63 : n + m ≤ maxLen) (hb : (n + m) * bytes ≤ 140737488355328) (ht' : t' = t)
    (k : ∀ v' l', Own e size v' (n + m) (xs ++ news) l' → Ops C ops rest ks ((d, v') :: E) (l' :: R)) : Ops C ops (⟨some d, .call { callee := .builtin .append, args := #[x, y], argTypes := #[t, t'] }, ty, pos, af, none⟩ :: rest) ks E Ls := by
  subst ht'
  refine ⟨fun a w f gs => ?_⟩
  refine wpList_plain rfl fun K hK => ?_
  have gs' := gs.le (L' := l ++ R.flatten) (.of_perm hp.perm)
  have hat : At w l := ⟨by have := gs'.now.nd; rw [ids_append, List.nodup_append] at this; exact this.1, fun x hx => gs'.now.here x (List.mem_append.2 (.inl hx))⟩
  obtain ⟨i, hi, hz0, hz1, hz2⟩ := infoParts c.h2
  obtain ⟨v', w', hrun, h2, h3, _, h5⟩ := run_append_own_at (P := C.P) w 0 t' ty e i z size bytes c.h1 hi hz0 hz1 hz2 c.h3 c.h4 v n xs (ho.owns hat) ad m cp news hl (fun j u hu => hs j u hu w gs) h1 h63 hb (Nat.zero_le _)
  obtain ⟨l', ho', hg'⟩ := own_of_owns ho hat h2 h3 h5
  unfold Oper.wp
  have : (execOp a.eval ⟨some d, .call { callee := .builtin .append, args := #[x, y], argTypes := #[t', t'] }, ty, pos, af, none⟩).run C.P w = .ok (.value v') w' := by
    simp only [execOp, resolve, invoke, builtin, Sem.run_bind, Sem.run_pure, Result.andThen_ok, List.map_toArray, List.map_cons, List.map_nil, f.ev hx, f.ev hy, hrun]
  rw [this]
  exact hK _ _ ((k v' l' ho').out _ _ (f.put _ (Nat.lt_of_succ_le (by simpa [Nat.blt] using hn))) (gs'.frame hg'))

/-- The address of an element. -/
theorem op_index {x y : Operand} {t e size bytes : Nat} {z : Value} [c : TSlice C.P t e size bytes z] {g o off len cap : Nat} {ik : IntKind} {i : Int}
    (hn : Nat.blt d C.fn.ntmps = true) (hx : ev E x = some (.slice (some ⟨g, o, none⟩) len cap)) (hy : ev E y = some (.int ik i)) (hb : 0 ≤ i ∧ i < len) (ho : o + i.toNat * size = off)
    (k : Ops C ops rest ks ((d, .pointer (some ⟨g, off, none⟩)) :: E) Ls) : Ops C ops (⟨some d, .indexAddr t x y, ty, pos, af, none⟩ :: rest) ks E Ls :=
  ops_pure hn (fun a w f gs => by
    obtain ⟨ii, hi, hz0, hz1, hz2⟩ := infoParts c.h2
    simp [execOp, f.ev hx, f.ev hy, Instr.indexAt, asIntOf, underlying, c.h1, sizeOf, typeInfo, hi, hz1, hb.1, hb.2, add_addr, ho]) k
theorem op_len {x : Operand} {t e size bytes : Nat} {z : Value} [c : TSlice C.P t e size bytes z] {A : Option Addr} {len cap : Nat}
    (hn : Nat.blt d C.fn.ntmps = true) (hx : ev E x = some (.slice A len cap))
    (k : Ops C ops rest ks ((d, .int .i64 len) :: E) Ls) : Ops C ops (⟨some d, .call { callee := .builtin .len, args := #[x], argTypes := #[t] }, ty, pos, af, none⟩ :: rest) ks E Ls :=
  ops_pure hn (fun a w f gs => by
    simp [execOp, f.ev hx, resolve, invoke, builtin, Builtin.len_, underlying, c.h1, goInt]) k
theorem op_cap {x : Operand} {t e size bytes : Nat} {z : Value} [c : TSlice C.P t e size bytes z] {A : Option Addr} {len cap : Nat}
    (hn : Nat.blt d C.fn.ntmps = true) (hx : ev E x = some (.slice A len cap))
    (k : Ops C ops rest ks ((d, .int .i64 cap) :: E) Ls) : Ops C ops (⟨some d, .call { callee := .builtin .cap, args := #[x], argTypes := #[t] }, ty, pos, af, none⟩ :: rest) ks E Ls :=
  ops_pure hn (fun a w f gs => by
    simp [execOp, f.ev hx, resolve, invoke, builtin, Builtin.cap_, underlying, c.h1, goInt]) k
/-- make([]T, n): a block of zeros. -/
theorem op_make {x y : Operand} {t e size bytes : Nat} {z : Value} [c : TSlice C.P t e size bytes z] {ik ik' : IntKind} {n : Nat}
    (hn : Nat.blt d C.fn.ntmps = true) (hx : ev E x = some (.int ik n)) (hy : ev E y = some (.int ik' n)) (hb : n * bytes ≤ 281474976710656) (hb2 : n ≤ 9223372036854775807)
    (k : ∀ g, C.w0.heap.size ≤ g → Ops C ops rest ks ((d, .slice (some ⟨g, 0, none⟩) n n) :: E) ([⟨g, .cells ((Array.range (n * size)).map (fun i => z.cells[i % size]!)) e (0, 0)⟩] :: Ls)) :
    Ops C ops (⟨some d, .makeSlice t x y, ty, pos, af, none⟩ :: rest) ks E Ls := by
  refine ⟨fun a w f gs => ?_⟩
  refine wpList_plain rfl fun K hK => ?_
  unfold Oper.wp
  obtain ⟨ii, hi, hz0, hz1, hz2⟩ := infoParts c.h2
  have : (execOp a.eval ⟨some d, .makeSlice t x y, ty, pos, af, none⟩).run C.P w = .ok (.value (.slice (some ⟨w.heap.size, 0, none⟩) n n)) (w.alloc (.cells ((Array.range (n * size)).map (fun i => z.cells[i % size]!)) e (0, 0))) := by
    have hw : IntKind.i64.wrap (n : Int) = n := wrap_in (by simp only [kLo]; omega) (by simp only [kHi]; omega)
    have hl : ¬ ((n : Int) < 0) := by omega
    have hb' : ¬ ((bytes : Int) * n > 2 ^ 48) := by
      have : (bytes : Int) * n = ((n * bytes : Nat) : Int) := by rw [Int.natCast_mul, Int.mul_comm]
      rw [this]; omega
    have hb'' : ¬ (281474976710656 < (bytes : Int) * n) := by simpa using hb'
    have hsz := c.h3
    rcases Nat.eq_zero_or_pos (n * size) with h0 | h0
    · simp [execOp, f.ev hx, f.ev hy, Instr.makeSlice, asInt, asIntOf, underlying, c.h1, typeInfo, sizeOf, hi, hz1, hz2, hw, hl, hb'', h0, newRow]
      have e0 : Array.range 0 = #[] := by apply Array.ext'; simp
      simp [e0]
    · simp [execOp, f.ev hx, f.ev hy, Instr.makeSlice, asInt, asIntOf, underlying, c.h1, typeInfo, sizeOf, zeroValue, hi, hz0, hz1, hz2, hw, hl, hb'', Nat.ne_of_gt h0, newRow, hsz]
  rw [this]
  refine hK _ _ ((k _ gs.size).out _ _ (f.put _ (Nat.lt_of_succ_le (by simpa [Nat.blt] using hn))) ?_)
  exact Goes.frame (Lc := []) gs (goes_new w _)

/-! ### Literals -/
/-- A struct's (or an array's) zero, cell by cell, and where each part of one cell lies. -/
class TBuild (P : Program) (t : Nat) (offs : outParam (List (Option Nat))) (zero : outParam (List Value)) : Prop where
  hz : (P.info? t).map (fun i => i.zero) = some (some (.agg zero.toArray))
  hp : (match P.underlying t with
    | some (.struct fs) => (fs.toList.map fun f => match P.info? f.type with | some i => if i.size = 1 then some f.offset else none | none => none) == offs && fs.toList.all (fun f => (P.info? f.type).isSome)
    | _ => false) = true
  hl : offs.all (fun o => match o with | some o => decide (o < zero.length) | none => true) = true
def bld (offs : List (Option Nat)) : List Value → List (Nat × Value) → Option (List Value)
  | cs, [] => some cs
  | cs, (i, v) :: r => match offs[i]? with
    | some (some off) => bld offs (cs.set off v) r
    | _ => none
theorem fill_bld {offs : List (Option Nat)} {place : Nat → Option (Nat × Nat)} (hpl : ∀ (i off : Nat), offs[i]? = some (some off) → place i = some (off, 1)) :
    ∀ (ps : List (Nat × Value)) (cs cs' : List Value), (∀ p ∈ ps, p.2.cells = #[p.2]) → (∀ (i off : Nat), offs[i]? = some (some off) → off < cs.length) → bld offs cs ps = some cs' → Instr.fill place cs.toArray ps = some cs'.toArray
  | [], cs, cs', _, _, h => by
    simp only [bld, Option.some.injEq] at h
    simp [Instr.fill, h]
  | (i, v) :: r, cs, cs', h1, hb, h => by
    simp only [bld] at h
    cases ho : offs[i]? with
    | none => rw [ho] at h; cases h
    | some oo =>
      cases oo with
      | none => rw [ho] at h; cases h
      | some off =>
        rw [ho] at h
        have hv := h1 (i, v) (by simp)
        have hlt := hb i off ho
        simp only at hv
        have ih := fill_bld hpl r (cs.set off v) cs' (fun p hp => h1 p (by simp [hp])) (fun j o hj => by simpa using hb j o hj) h
        simp only [Instr.fill, hpl i off ho, hv]
        have hc : (decide ((#[v] : Array Value).size ≠ 1) || decide (off + (#[v] : Array Value).size > cs.toArray.size)) = false := by simp; omega
        simp only [hc, Bool.false_eq_true, if_false]
        simpa using ih
theorem run_build {P : Program} {w : World} {t : Nat} {offs : List (Option Nat)} {zero : List Value} [c : TBuild P t offs zero] {ps : List (Nat × Value)} {cs : List Value} (h1 : ∀ p ∈ ps, p.2.cells = #[p.2]) (h : bld offs zero ps = some cs) :
    (Instr.build t ps.toArray).run P w = .ok (.agg cs.toArray) w := by
  have hz := c.hz
  have hp := c.hp
  have hl := c.hl
  cases hi : P.info? t with
  | none => simp [hi] at hz
  | some i =>
    simp [hi] at hz
    cases hu : P.underlying t with
    | none => simp [hu] at hp
    | some dd =>
      cases dd <;> simp [hu] at hp
      rename_i fs
      obtain ⟨hp1, hp2⟩ := hp
      have hmap : ∀ (l : List Field), (∀ f ∈ l, (P.info? f.type).isSome) → (List.mapM (fun f : Field => (do pure (f.offset, ← sizeOf f.type) : Sem (Nat × Nat))) l).run P w = .ok (l.map fun f => (f.offset, P.cellsOf f.type)) w := by
        intro l
        induction l with
        | nil => intro _; simp
        | cons f r ih =>
          intro hf
          have hf0 := hf f (by simp)
          cases hif : P.info? f.type with
          | none => simp [hif] at hf0
          | some j =>
            have := ih (fun f hfr => hf f (by simp [hfr]))
            simp [List.mapM_cons, sizeOf, typeInfo, hif, Program.cellsOf]
            simp [sizeOf, typeInfo] at this
            simp [this]
            intro a _; rfl
      have hmapA : (Array.mapM (fun f : Field => (do pure (f.offset, ← sizeOf f.type) : Sem (Nat × Nat))) fs).run P w = .ok (fs.map fun f => (f.offset, P.cellsOf f.type)) w := by
        rw [Array.mapM_eq_mapM_toList]
        rw [Sem.run_map, hmap fs.toList (fun f hf => by
          obtain ⟨j, hj, rfl⟩ := Array.mem_iff_getElem.1 (Array.mem_toList_iff.1 hf)
          exact hp2 j hj)]
        simp
        apply Array.ext'
        simp
      have hfill := fill_bld (offs := offs) (place := fun i => (fs.map fun f => (f.offset, P.cellsOf f.type))[i]?) (by
        intro j off hj
        rw [← hp1] at hj
        simp only [List.getElem?_map, Option.map_eq_some_iff] at hj
        obtain ⟨f, hf, hfo⟩ := hj
        have hfj : fs[j]? = some f := by simpa using hf
        cases hif : P.info? f.type with
        | none => rw [hif] at hfo; cases hfo
        | some jj =>
          rw [hif] at hfo
          by_cases h1 : jj.size = 1
          · simp [h1] at hfo
            simp [hfj, Program.cellsOf, hif, h1, hfo]
          · simp [h1] at hfo) ps zero cs h1 (by
        intro j off hj
        simp only [List.all_eq_true] at hl
        have := hl _ (List.mem_of_getElem? hj)
        simpa using this) h
      simp only [Instr.build, zeroValue, typeInfo, underlying, Sem.run_bind, run_program, Result.andThen_ok, hi, hz, hu, Sem.run_pure, Value.cells]
      rw [hmapA]
      simp only [Result.andThen_ok]
      rw [hfill]
      simp
theorem op_build {t : Nat} {offs : List (Option Nat)} {zero : List Value} [c : TBuild C.P t offs zero] {ps : Array (Nat × Operand)} {is : List Nat} {vs : List Value} {cs : List Value}
    (hn : Nat.blt d C.fn.ntmps = true) (hi : ps.toList.map (·.1) = is) (hx : evs E (ps.toList.map (·.2)) = some vs) (h1 : ∀ v ∈ vs, v.cells = #[v]) (hb : bld offs zero (is.zip vs) = some cs)
    (k : Ops C ops rest ks ((d, .agg cs.toArray) :: E) Ls) : Ops C ops (⟨some d, .build t ps, ty, pos, af, none⟩ :: rest) ks E Ls :=
  ops_pure hn (fun a w f gs => by
    have e : (ps.map fun (i, x) => (i, a.eval x)) = (is.zip vs).toArray := by
      apply Array.ext'
      simp only [Array.toList_map]
      rw [← hi, ← f.evs hx]
      induction ps.toList with
      | nil => rfl
      | cons p r ih => simpa using ih
    simp only [execOp, e, Sem.run_bind, run_build (ps := is.zip vs) (fun p hp => h1 p.2 (List.of_mem_zip hp).2) hb, Result.andThen_ok, Sem.run_pure]) k
/-- A slice literal of one element. -/
theorem op_slice1 {x : Operand} {t e size bytes : Nat} {z : Value} [c : TSlice C.P t e size bytes z] {v : Value} (hn : Nat.blt d C.fn.ntmps = true) (hx : ev E x = some v) (hv : v.cells.size = size) (hs : size ≤ 1000000)
    (k : ∀ g, C.w0.heap.size ≤ g → Ops C ops rest ks ((d, .slice (some ⟨g, 0, none⟩) 1 1) :: E) ([⟨g, .cells v.cells e (0, 0)⟩] :: Ls)) : Ops C ops (⟨some d, .buildSlice t 1 #[(0, x)], ty, pos, af, none⟩ :: rest) ks E Ls := by
  refine ⟨fun a w f gs => ?_⟩
  refine wpList_plain rfl fun K hK => ?_
  unfold Oper.wp
  obtain ⟨ii, hi, hz0, hz1, hz2⟩ := infoParts c.h2
  have hsz := c.h3
  have h0 := c.h4
  have hfill : Instr.fill (fun i => some (i * size, size)) ((Array.range (1 * size)).map (z.cells[· % z.cells.size]!)) [(0, v)] = some v.cells := by
    simp only [Instr.fill, Nat.zero_mul, Nat.zero_add, Nat.one_mul, hv, Array.size_map, Array.size_range]
    simp only [ne_eq, not_true_eq_false, decide_false, Nat.lt_irrefl, decide_false, Bool.or_self, Bool.false_eq_true, if_false, gt_iff_lt]
    congr 1
    have key : ∀ (l : List Value) (k : Nat) (pre cs : List Value), pre.length = k → cs.length = l.length → (l.zipIdx k).foldl (fun (cs : Array Value) (p : Value × Nat) => cs.setIfInBounds p.2 p.1) (pre ++ cs).toArray = (pre ++ l).toArray := by
      intro l
      induction l with
      | nil => intro k pre cs _ hc; simp at hc; simp [hc]
      | cons x r ih =>
        intro k pre cs hk hc
        cases cs with
        | nil => simp at hc
        | cons c cs' =>
          simp only [List.zipIdx_cons, List.foldl_cons]
          have : (pre ++ c :: cs').toArray.setIfInBounds k x = (pre ++ [x] ++ cs').toArray := by
            subst hk; simp
          rw [this, ih (k + 1) (pre ++ [x]) cs' (by simp [hk]) (by simpa using hc)]
          simp
    have := key v.cells.toList 0 [] ((Array.range size).map (z.cells[· % z.cells.size]!)).toList rfl (by simp [hv])
    simp only [List.nil_append, Array.toArray_toList] at this
    rw [← Array.foldl_toList]
    simpa using this
  have : (execOp a.eval ⟨some d, .buildSlice t 1 #[(0, x)], ty, pos, af, none⟩).run C.P w = .ok (.value (.slice (some ⟨w.heap.size, 0, none⟩) 1 1)) (w.alloc (.cells v.cells e (0, 0))) := by
    have h2 : ¬ (1 * size > 2 ^ 24) := by omega
    have h3 : ¬ (1 * size = 0) := by omega
    simp only [execOp, Instr.buildSlice, underlying, Sem.run_bind, run_program, Result.andThen_ok, c.h1, Sem.run_pure, sizeOf, typeInfo, hi, hz1, if_neg h2, if_neg h3, zeroValue, hz0, List.map_toArray, List.map_cons, List.map_nil, f.ev hx, hfill, newRow, run_newObj]
    rfl
  rw [this]
  refine hK _ _ ((k _ gs.size).out _ _ (f.put _ (Nat.lt_of_succ_le (by simpa [Nat.blt] using hn))) ?_)
  exact Goes.frame (Lc := []) gs (goes_new w _)

/-- append of one element, by way of the block that the literal made. -/
theorem op_append1 {x y : Operand} {t t' e size bytes : Nat} {z : Value} [c : TSlice C.P t e size bytes z] {v : Value} {n : Nat} {xs : List Value} {l : Hp} {R : List Hp} {g e0 : Nat} {fr : Nat × Nat} {vs : Array Value}
    (hn : Nat.blt d C.fn.ntmps = true) (hx : ev E x = some v) (hy : ev E y = some (.slice (some ⟨g, 0, none⟩) 1 1)) (ho : Own e size v n xs l) (hp : Pick Ls l R)
    (hh : Has Ls g (.cells vs e0 fr)) (hl : vs.size = size) (h1 : ∀ u ∈ vs.toList, u.oneCell' = true)
    (h63 : n + 1 ≤ 9223372036854775807) (hb : (n + 1) * bytes ≤ 140737488355328) (ht' : t' = t)
    (k : ∀ v' l', Own e size v' (n + 1) (xs ++ vs.toList) l' → Ops C ops rest ks ((d, v') :: E) (l' :: R)) : Ops C ops (⟨some d, .call { callee := .builtin .append, args := #[x, y], argTypes := #[t, t'] }, ty, pos, af, none⟩ :: rest) ks E Ls :=
  op_append hn hx hy ho hp (by simp [hl]) h1 (fun j u hu => by
    rw [add_addr]
    refine cell_of_has (o := 0 + j) hh ?_
    rw [aget_eq]
    simpa using hu) h63 hb ht' k

/-! ### Structs in memory, as a whole -/
theorem op_loadA {x : Operand} {g o n : Nat} {vs : List Value} {lt : Nat} [TAgg C.P lt n] (hn : Nat.blt d C.fn.ntmps = true) (hx : ev E x = some (.pointer (some ⟨g, o, none⟩))) (hl : vs.length = n)
    (hs : ∀ (j : Nat) v, vs[j]? = some v → Cell C Ls ⟨g, o + j, none⟩ v) (k : Ops C ops rest ks ((d, .agg vs.toArray) :: E) Ls) : Ops C ops (⟨some d, .load lt x, ty, pos, af, none⟩ :: rest) ks E Ls :=
  ops_pure hn (fun a w f gs => by
    have : (loadCells ⟨g, o, none⟩ n).run C.P w = .ok vs.toArray w := by
      have hl' := run_loadCells_list (P := C.P) (w := w) ⟨g, o, none⟩ vs (fun j v hv => by
        rw [add_addr]; exact hs j v hv w gs)
      rw [hl] at hl'
      exact hl'
    simp [execOp, f.ev hx, Instr.loadAt, Instr.sureAddr, loadVar, isAgg_agg, sizeOf_agg, this]) k
theorem setRow_heap {w : World} {g t : Nat} {cs vs : Array Value} (h : w.heap[g]? = some (.cells cs t (0, 0))) : (w.setRow g vs).heap[g]? = some (.cells vs t (0, 0)) := by
  simp [World.setRow, Array.getElem?_modify, h]
theorem goes_setRow {w : World} {g t : Nat} {cs vs : Array Value} (h : w.heap[g]? = some (.cells cs t (0, 0))) :
    Goes w [⟨g, .cells cs t (0, 0)⟩] (w.setRow g vs) [⟨g, .cells vs t (0, 0)⟩] := by
  refine ⟨rfl, rfl, rfl, by simp [World.setRow], fun k hk hn => ?_, ⟨by simp [ids], ?_⟩, fun k hk => .inl (by simpa [ids] using hk)⟩
  · have : k ≠ g := by simpa [ids] using hn
    simp only [World.setRow, Array.getElem?_modify]
    rw [if_neg (fun e => this e.symm)]
  · intro x hx
    obtain rfl := List.mem_singleton.1 hx
    exact setRow_heap h
/-- A store of several cells. -/
theorem op_storeN {x y : Operand} {g o t n : Nat} {cs vs : Array Value} {lt : Nat} [c : TAgg C.P lt n] (hx : ev E x = some (.pointer (some ⟨g, o, none⟩))) (hy : ev E y = some (.agg vs)) (hl : vs.size = n) (h1 : ∀ v ∈ vs.toList, v.oneCell' = true)
    (hs : Swap Ls [⟨g, .cells cs t (0, 0)⟩] [⟨g, .cells (cs.toList.take o ++ vs.toList ++ cs.toList.drop (o + vs.size)).toArray t (0, 0)⟩] Ls') (ho : o + vs.size ≤ cs.size) (k : Ops C ops rest ks E Ls') : Ops C ops (⟨none, .store lt x y, ty, pos, af, none⟩ :: rest) ks E Ls :=
  ops_skip (fun a w f gs => by
    obtain ⟨R, p1, p2⟩ := hs.perm
    have gs' := gs.le (L' := [⟨g, .cells cs t (0, 0)⟩] ++ R) (.of_perm p1)
    have hh := gs'.now.here ⟨g, .cells cs t (0, 0)⟩ (by simp)
    have hst := run_storeCells_at (P := C.P) g o t vs.toList 0 cs w hh (by simpa using ho) h1
    refine ⟨_, ?_, (gs'.frame (goes_setRow (vs := (cs.toList.take o ++ vs.toList ++ cs.toList.drop (o + vs.size)).toArray) hh)).le (.of_perm p2.symm)⟩
    have hsz : ¬ (vs.size ≠ n) := by omega
    simp only [execOp, f.ev hx, f.ev hy, Instr.storeAt, Instr.sureAddr, storeVar, Value.cells, Sem.run_bind, Sem.run_pure, Result.andThen_ok, sizeOf_agg, if_neg hsz, hst]
    simp) k
/-- A store of a whole variable. -/
theorem op_storeAll {x y : Operand} {g t n : Nat} {cs vs : Array Value} {lt : Nat} [c : TAgg C.P lt n] (hx : ev E x = some (.pointer (some ⟨g, 0, none⟩))) (hy : ev E y = some (.agg vs)) (hl : vs.size = n) (h1 : ∀ v ∈ vs.toList, v.oneCell' = true)
    (hs : Swap Ls [⟨g, .cells cs t (0, 0)⟩] [⟨g, .cells vs t (0, 0)⟩] Ls') (ho : cs.size = n) (k : Ops C ops rest ks E Ls') : Ops C ops (⟨none, .store lt x y, ty, pos, af, none⟩ :: rest) ks E Ls :=
  op_storeN hx hy hl h1 (by
    have : (cs.toList.take 0 ++ vs.toList ++ cs.toList.drop (0 + vs.size)).toArray = vs := by
      rw [List.drop_of_length_le (by simp; omega)]; simp
    rw [this]; exact hs) (by omega) k
end
end Go.Proofs.Eng
