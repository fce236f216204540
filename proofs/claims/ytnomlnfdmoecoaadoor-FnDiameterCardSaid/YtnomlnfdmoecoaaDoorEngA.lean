/- The engine, part A: judgements about what a function's code does, with known blocks of memory apart from the rest. -/
import Derived.Tactics
import Derived.Below
import Derived.Deep.Quiet
import Derived.KernelRfl
import Derived.Laws.Sem
set_option linter.unusedVariables false
namespace Go.Proofs.Eng
open Go.RowKit

/-- A block: its number and what it holds. -/
structure Blk where
  id : Nat
  ob : Obj
abbrev Hp := List Blk
def ids (L : Hp) : List Nat := L.map Blk.id
theorem ids_append (a b : Hp) : ids (a ++ b) = ids a ++ ids b := by simp [ids]
theorem ids_cons (x : Blk) (b : Hp) : ids (x :: b) = x.id :: ids b := by simp [ids]

structure At (w : World) (L : Hp) : Prop where
  nd : (ids L).Nodup
  here : ∀ x ∈ L, w.heap[x.id]? = some x.ob

theorem At.lt {w : World} {L : Hp} (h : At w L) {k : Nat} (hk : k ∈ ids L) : k < w.heap.size := by
  obtain ⟨x, hx, rfl⟩ := List.mem_map.1 hk
  have := h.here x hx
  rcases Nat.lt_or_ge x.id w.heap.size with h1 | h1
  · exact h1
  · rw [Array.getElem?_eq_none h1] at this; cases this
theorem At.nil (w : World) : At w [] := ⟨by simp [ids], by simp⟩

/-- From w, of which the blocks L are known, to w', of which the blocks L' are: all other old blocks are as they were. -/
structure Goes (w : World) (L : Hp) (w' : World) (L' : Hp) : Prop where
  os : w'.os = w.os
  tape : w'.tape = w.tape
  output : w'.output = w.output
  size : w.heap.size ≤ w'.heap.size
  keep : ∀ k, k < w.heap.size → k ∉ ids L → w'.heap[k]? = w.heap[k]?
  now : At w' L'
  new : ∀ k ∈ ids L', k ∈ ids L ∨ w.heap.size ≤ k

theorem Goes.refl {w : World} {L : Hp} (h : At w L) : Goes w L w L := ⟨rfl, rfl, rfl, Nat.le_refl _, fun _ _ _ => rfl, h, fun _ h => .inl h⟩

/-- The frame rule. -/
theorem Goes.frame {w0 w w' : World} {L0 Lc R Lc' : Hp} (h : Goes w0 L0 w (Lc ++ R)) (g : Goes w Lc w' Lc') : Goes w0 L0 w' (Lc' ++ R) := by
  have hn := h.now.nd
  rw [ids_append, List.nodup_append] at hn
  obtain ⟨n1, n2, n3⟩ := hn
  have hR : ∀ x ∈ R, x.id < w.heap.size := fun x hx => h.now.lt (by rw [ids_append]; exact List.mem_append.2 (.inr (List.mem_map.2 ⟨x, hx, rfl⟩)))
  refine ⟨g.os.trans h.os, g.tape.trans h.tape, g.output.trans h.output, Nat.le_trans h.size g.size, ?_, ⟨?_, ?_⟩, ?_⟩
  · intro k hk hn
    rw [g.keep k (Nat.lt_of_lt_of_le hk h.size) ?_, h.keep k hk hn]
    intro hc
    rcases h.new k (by rw [ids_append]; exact List.mem_append.2 (.inl hc)) with e | e
    · exact hn e
    · omega
  · rw [ids_append, List.nodup_append]
    refine ⟨g.now.nd, n2, fun a ha b hb e => ?_⟩
    subst e
    rcases g.new a ha with e | e
    · exact n3 a e a hb rfl
    · obtain ⟨x, hx, rfl⟩ := List.mem_map.1 hb
      have := hR x hx
      omega
  · intro x hx
    rcases List.mem_append.1 hx with hx | hx
    · exact g.now.here x hx
    · rw [g.keep x.id (hR x hx) (fun hc => n3 _ hc _ (List.mem_map.2 ⟨x, hx, rfl⟩) rfl)]
      exact h.now.here x (List.mem_append.2 (.inr hx))
  · intro k hk
    rw [ids_append] at hk
    rcases List.mem_append.1 hk with hk | hk
    · rcases g.new k hk with e | e
      · exact h.new k (by rw [ids_append]; exact List.mem_append.2 (.inl e))
      · exact .inr (Nat.le_trans h.size e)
    · exact h.new k (by rw [ids_append]; exact List.mem_append.2 (.inr hk))

/-- L' is a part of L. -/
def Le (L' L : Hp) : Prop := ∃ R, L.Perm (L' ++ R)
theorem Le.refl (L : Hp) : Le L L := ⟨[], by simp⟩
theorem Le.of_perm {L' L : Hp} (h : L.Perm L') : Le L' L := ⟨[], by simpa using h⟩
theorem Le.trans {a b c : Hp} (h : Le a b) (g : Le b c) : Le a c := by
  obtain ⟨r, hr⟩ := h
  obtain ⟨s, hs⟩ := g
  exact ⟨r ++ s, hs.trans (by rw [← List.append_assoc]; exact hr.append_right s)⟩
theorem Goes.le {w0 w : World} {L0 L L' : Hp} (h : Goes w0 L0 w L) (hl : Le L' L) : Goes w0 L0 w L' := by
  obtain ⟨R, hp⟩ := hl
  have hm : ∀ x ∈ L', x ∈ L := fun x hx => hp.mem_iff.2 (List.mem_append.2 (.inl hx))
  refine ⟨h.os, h.tape, h.output, h.size, h.keep, ⟨?_, fun x hx => h.now.here x (hm x hx)⟩, fun k hk => ?_⟩
  · have : (ids (L' ++ R)).Nodup := (hp.map Blk.id).nodup_iff.1 h.now.nd
    rw [ids_append, List.nodup_append] at this
    exact this.1
  · obtain ⟨x, hx, rfl⟩ := List.mem_map.1 hk
    exact h.new _ (List.mem_map.2 ⟨x, hm x hx, rfl⟩)
theorem Goes.trans {w0 w w' : World} {L0 L L' : Hp} (h : Goes w0 L0 w L) (g : Goes w L w' L') : Goes w0 L0 w' L' := by
  have := Goes.frame (R := []) (by simpa using h) g
  simpa using this
/-- Blocks of which nothing is said have not changed: as the kit says it. -/
theorem Goes.below {w w' : World} {L L' : Hp} {B : Nat} (h : Goes w L w' L') (hB : B ≤ w.heap.size) (hL : ∀ k ∈ ids L, B ≤ k) : Below B w w' :=
  ⟨h.os, h.tape, h.output, h.size, fun k hk => h.keep k (by omega) (fun hc => by have := hL k hc; omega)⟩
theorem Goes.below0 {w w' : World} {L' : Hp} (h : Goes w [] w' L') : Below w.heap.size w w' := h.below (Nat.le_refl _) (by simp [ids])

/-! ### The frame's slots -/
abbrev Env := List (Nat × Value)
def Env.find : Env → Nat → Option Value
  | [], _ => none
  | (k, v) :: r, t => bif Nat.beq k t then some v else Env.find r t
def ev (E : Env) : Operand → Option Value
  | .tmp t => E.find t
  | .const v => some v
  | .global g => some (.pointer (some ⟨g, 0, none⟩))
  | .func f => some (.func (.func f) #[] #[])
def evs (E : Env) : List Operand → Option (List Value)
  | [] => some []
  | x :: r => match ev E x, evs E r with
    | some v, some vs => some (v :: vs)
    | _, _ => none

structure Fits (E : Env) (n : Nat) (a : Act) : Prop where
  d : a.defers = []
  sz : a.tmps.size = n
  val : ∀ t v, E.find t = some v → a.tmps[t]? = some v
theorem Fits.getD {E : Env} {n : Nat} {a : Act} (h : Fits E n a) {t : Nat} {v : Value} (hv : E.find t = some v) : a.tmps.getD t undef = v := by
  have := h.val t v hv
  rw [Array.getD_eq_getD_getElem?, this]; rfl
theorem Fits.ev {E : Env} {n : Nat} {a : Act} (h : Fits E n a) {x : Operand} {v : Value} (hv : Eng.ev E x = some v) : a.eval x = v := by
  cases x with
  | tmp t => exact h.getD hv
  | const c => simpa [Eng.ev, Act.eval] using hv
  | global g => simpa [Eng.ev, Act.eval] using hv
  | func f => simpa [Eng.ev, Act.eval] using hv
theorem Fits.evs {E : Env} {n : Nat} {a : Act} (h : Fits E n a) : ∀ {xs : List Operand} {vs : List Value}, Eng.evs E xs = some vs → xs.map a.eval = vs
  | [], vs, hv => by simp [Eng.evs] at hv; simp [← hv]
  | x :: r, vs, hv => by
    simp only [Eng.evs] at hv
    split at hv
    · rename_i v ws h1 h2
      obtain rfl := Option.some.inj hv
      simp [h.ev h1, h.evs h2]
    · cases hv
theorem find_cons (k t : Nat) (v : Value) (E : Env) : Env.find ((k, v) :: E) t = if k = t then some v else Env.find E t := by
  simp only [Env.find]
  by_cases h : k = t
  · subst h; simp
  · rw [if_neg h]
    have : Nat.beq k t = false := by
      cases hb : Nat.beq k t with
      | false => rfl
      | true => exact absurd (Nat.eq_of_beq_eq_true hb) h
    rw [this]; rfl
theorem Fits.put {E : Env} {n : Nat} {a : Act} (h : Fits E n a) {d : Nat} (v : Value) (hd : d < n) : Fits ((d, v) :: E) n (a.put (some d) v) := by
  refine ⟨h.d, by simp [Act.put, h.sz], fun t u hu => ?_⟩
  rw [find_cons] at hu
  simp only [Act.put]
  by_cases e : d = t
  · subst e
    rw [if_pos rfl] at hu
    obtain rfl := Option.some.inj hu
    rw [Array.getElem?_setIfInBounds_self_of_lt (by rw [h.sz]; exact hd)]
  · rw [if_neg e] at hu
    rw [Array.getElem?_setIfInBounds_ne e]
    exact h.val t u hu
/-- What E' says, E says, too. -/
def Sub (E' E : Env) : Prop := ∀ t v, E'.find t = some v → E.find t = some v
theorem Fits.sub {E E' : Env} {n : Nat} {a : Act} (h : Fits E n a) (hs : Sub E' E) : Fits E' n a := ⟨h.d, h.sz, fun t v hv => h.val t v (hs t v hv)⟩
theorem Sub.nil (E : Env) : Sub [] E := fun t v h => by simp [Env.find] at h
theorem Sub.cons {E E' : Env} {k : Nat} {v : Value} (h : E.find k = some v) (hs : Sub E' E) : Sub ((k, v) :: E') E := fun t u hu => by
  rw [find_cons] at hu
  by_cases e : k = t
  · subst e; rw [if_pos rfl] at hu; rw [← hu]; exact h
  · rw [if_neg e] at hu; exact hs t u hu
theorem Sub.refl (E : Env) : Sub E E := fun _ _ h => h
def argEnv : Nat → List Value → Env
  | _, [] => []
  | k, v :: r => (k, v) :: argEnv (k + 1) r
theorem argEnv_find : ∀ (l : List Value) (k t : Nat) (v : Value), (argEnv k l).find t = some v → k ≤ t ∧ l[t - k]? = some v
  | [], _, _, _, h => by simp [argEnv, Env.find] at h
  | x :: r, k, t, v, h => by
    rw [argEnv, find_cons] at h
    by_cases e : k = t
    · subst e; rw [if_pos rfl] at h; exact ⟨Nat.le_refl _, by simpa using h⟩
    · rw [if_neg e] at h
      obtain ⟨h1, h2⟩ := argEnv_find r (k + 1) t v h
      refine ⟨by omega, ?_⟩
      have : t - k = (t - (k + 1)) + 1 := by omega
      rw [this]; simpa using h2

theorem exists_leastMu {p : Nat → Prop} (h : ∃ n, p n) : ∃ n, p n ∧ ∀ m, p m → n ≤ m := by
  obtain ⟨n, hn⟩ := h
  induction n using Nat.strongRecOn with
  | _ n ih =>
    by_cases hm : ∃ m, m < n ∧ p m
    · obtain ⟨m, hlt, hp⟩ := hm
      exact ih m hlt hp
    · exact ⟨n, hn, fun m hp => Nat.le_of_not_lt fun hlt => hm ⟨m, hlt, hp⟩⟩
open Classical in
noncomputable def leastMu (p : Nat → Prop) : Nat := if h : ∃ n, p n then Classical.choose (exists_leastMu h) else 0
theorem leastMu_spec {p : Nat → Prop} (h : ∃ n, p n) : p (leastMu p) ∧ ∀ m, p m → leastMu p ≤ m := by
  unfold leastMu
  rw [dif_pos h]
  exact Classical.choose_spec (exists_leastMu h)

/-! ### The judgements -/
structure Ctx where
  P : Program
  fn : Func
  R : Ending → World → Prop
  w0 : World
  L0 : Hp
inductive Kont
  | code (c : Code)
  | block (id : Nat)
  | inv (J : Act → World → Prop)
def after (C : Ctx) : List Kont → Exit → Act → World → Prop
  | [] => bodyPost C.P C.fn C.R
  | .code c :: ks => Exit.then (fun a w => c.wp C.P (after C ks) a w) (after C ks)
  | .block id :: ks => Exit.inBlock id (after C ks)
  | .inv J :: ks => Exit.then J (after C ks)

structure Run (C : Ctx) (c : Code) (ks : List Kont) (E : Env) (Ls : List Hp) : Prop where
  mk :: (out : ∀ a w, Fits E C.fn.ntmps a → Goes C.w0 C.L0 w Ls.flatten → c.wp C.P (after C ks) a w)
structure Fin (C : Ctx) (e : Exit) (ks : List Kont) (E : Env) (Ls : List Hp) : Prop where
  mk :: (out : ∀ a w, Fits E C.fn.ntmps a → Goes C.w0 C.L0 w Ls.flatten → after C ks e a w)
structure Ops (C : Ctx) (ops : Array Oper) (rest : List Oper) (ks : List Kont) (E : Env) (Ls : List Hp) : Prop where
  mk :: (out : ∀ a w, Fits E C.fn.ntmps a → Goes C.w0 C.L0 w Ls.flatten → wpList C.P ops (after C ks) rest a w)

section
variable {C : Ctx} {ks : List Kont} {E : Env} {Ls : List Hp}
theorem run_skip (h : Fin C .normal ks E Ls) : Run C .skip ks E Ls := ⟨fun a w f g => wp_skip (h.out a w f g)⟩
theorem run_seq {x y : Code} (h : Run C x (.code y :: ks) E Ls) : Run C (.seq x y) ks E Ls := ⟨fun a w f g => wp_seq (h.out a w f g)⟩
theorem run_block {id : Nat} {c : Code} (h : Run C c (.block id :: ks) E Ls) : Run C (.block id c) ks E Ls := ⟨fun a w f g => wp_block (h.out a w f g)⟩
theorem run_exit {id : Nat} (h : Fin C (.exit id) ks E Ls) : Run C (.exit id) ks E Ls := ⟨fun a w f g => wp_exit (h.out a w f g)⟩
theorem run_ret (h : Fin C .ret ks E Ls) : Run C .ret ks E Ls := ⟨fun a w f g => wp_ret (h.out a w f g)⟩
theorem run_region {id : Nat} {ops : Array Oper} {l : List Oper} (hl : ops.toList = l) (h : Ops C ops l ks E Ls) : Run C (.region id ops false) ks E Ls := ⟨fun a w f g => wp_region_list (by rw [hl]; exact h.out a w f g)⟩
theorem run_cond_t {c : Operand} {x y : Code} (hc : ev E c = some (.bool true)) (h : Run C x ks E Ls) : Run C (.cond c x y) ks E Ls := ⟨fun a w f g => wp_cond_true (f.ev hc) (h.out a w f g)⟩
theorem run_cond_f {c : Operand} {x y : Code} (hc : ev E c = some (.bool false)) (h : Run C y ks E Ls) : Run C (.cond c x y) ks E Ls := ⟨fun a w f g => wp_cond_false (f.ev hc) (h.out a w f g)⟩
theorem run_cond {c : Operand} {x y : Code} {b : Bool} (hc : ev E c = some (.bool b)) (h1 : b = true → Run C x ks E Ls) (h2 : b = false → Run C y ks E Ls) : Run C (.cond c x y) ks E Ls := ⟨fun a w f g => wp_cond_split (f.ev hc) (fun e => (h1 e).out a w f g) (fun e => (h2 e).out a w f g)⟩

theorem fin_code {c : Code} (h : Run C c ks E Ls) : Fin C .normal (.code c :: ks) E Ls := ⟨fun a w f g => h.out a w f g⟩
theorem fin_block {id : Nat} (h : Fin C .normal ks E Ls) : Fin C .normal (.block id :: ks) E Ls := ⟨fun a w f g => h.out a w f g⟩
theorem fin_inv {J : Act → World → Prop} (h : ∀ a w, Fits E C.fn.ntmps a → Goes C.w0 C.L0 w Ls.flatten → J a w) : Fin C .normal (.inv J :: ks) E Ls := ⟨h⟩
theorem fin_exit_code {id : Nat} {c : Code} (h : Fin C (.exit id) ks E Ls) : Fin C (.exit id) (.code c :: ks) E Ls := ⟨fun a w f g => h.out a w f g⟩
theorem fin_exit_inv {id : Nat} {J : Act → World → Prop} (h : Fin C (.exit id) ks E Ls) : Fin C (.exit id) (.inv J :: ks) E Ls := ⟨fun a w f g => h.out a w f g⟩
theorem fin_exit_here {id : Nat} (h : Fin C .normal ks E Ls) : Fin C (.exit id) (.block id :: ks) E Ls := ⟨fun a w f g => by
  show Exit.inBlock id (after C ks) (.exit id) a w
  simp only [Exit.inBlock, if_true]
  exact h.out a w f g⟩
theorem fin_exit_past {id id' : Nat} (hne : Nat.beq id id' = false) (h : Fin C (.exit id) ks E Ls) : Fin C (.exit id) (.block id' :: ks) E Ls := ⟨fun a w f g => by
  show Exit.inBlock id' (after C ks) (.exit id) a w
  simp only [Exit.inBlock]
  rw [if_neg (by intro e; subst e; simp at hne)]
  exact h.out a w f g⟩
theorem fin_ret_code {c : Code} (h : Fin C .ret ks E Ls) : Fin C .ret (.code c :: ks) E Ls := ⟨fun a w f g => h.out a w f g⟩
theorem fin_ret_inv {J : Act → World → Prop} (h : Fin C .ret ks E Ls) : Fin C .ret (.inv J :: ks) E Ls := ⟨fun a w f g => h.out a w f g⟩
theorem fin_ret_block {id : Nat} (h : Fin C .ret ks E Ls) : Fin C .ret (.block id :: ks) E Ls := ⟨fun a w f g => h.out a w f g⟩

/-- What is known is made less, or told in another order. -/
theorem Run.weaken {c : Code} {E' : Env} {Ls' : List Hp} (h : Run C c ks E' Ls') (hE : Sub E' E) (hL : Le Ls'.flatten Ls.flatten) : Run C c ks E Ls := ⟨fun a w f g => h.out a w (f.sub hE) (g.le hL)⟩
theorem Fin.weaken {e : Exit} {E' : Env} {Ls' : List Hp} (h : Fin C e ks E' Ls') (hE : Sub E' E) (hL : Le Ls'.flatten Ls.flatten) : Fin C e ks E Ls := ⟨fun a w f g => h.out a w (f.sub hE) (g.le hL)⟩
theorem Ops.weaken {ops : Array Oper} {rest : List Oper} {E' : Env} {Ls' : List Hp} (h : Ops C ops rest ks E' Ls') (hE : Sub E' E) (hL : Le Ls'.flatten Ls.flatten) : Ops C ops rest ks E Ls := ⟨fun a w f g => h.out a w (f.sub hE) (g.le hL)⟩

/-- What a round of a loop must hand on. -/
def Inv (C : Ctx) {α : Type} (E0 : α → Env) (H0 : α → List Hp) (φ : α → Prop) (μ : α → Nat) (n : Nat) : Act → World → Prop :=
  fun a w => ∃ x, φ x ∧ μ x < n ∧ Fits (E0 x) C.fn.ntmps a ∧ Goes C.w0 C.L0 w (H0 x).flatten
theorem run_loop {α : Type} (E0 : α → Env) (H0 : α → List Hp) (φ : α → Prop) (μ : α → Nat) {body : Code} (x0 : α) (h0 : φ x0) (hE : Sub (E0 x0) E) (hL : Le (H0 x0).flatten Ls.flatten)
    (round : ∀ x, φ x → Run C body (.inv (Inv C E0 H0 φ μ (μ x)) :: ks) (E0 x) (H0 x)) : Run C (.loop body) ks E Ls := by
  refine ⟨fun a w f g => ?_⟩
  have key : ∀ n x a w, μ x = n → φ x → Fits (E0 x) C.fn.ntmps a → Goes C.w0 C.L0 w (H0 x).flatten → (Code.loop body).wp C.P (after C ks) a w := by
    intro n x a w hn hx f g
    refine wp_loop (fun a w => ∃ x, φ x ∧ Fits (E0 x) C.fn.ntmps a ∧ Goes C.w0 C.L0 w (H0 x).flatten) (fun a w => leastMu (fun m => ∃ x, μ x = m ∧ φ x ∧ Fits (E0 x) C.fn.ntmps a ∧ Goes C.w0 C.L0 w (H0 x).flatten)) ⟨x, hx, f, g⟩ ?_
    intro a w hI
    obtain ⟨x1, h1, h2, h3⟩ := hI
    obtain ⟨⟨x, hm, hx, f, g⟩, _⟩ := leastMu_spec (p := fun m => ∃ x, μ x = m ∧ φ x ∧ Fits (E0 x) C.fn.ntmps a ∧ Goes C.w0 C.L0 w (H0 x).flatten) ⟨μ x1, x1, rfl, h1, h2, h3⟩
    refine Code.wp_mono ?_ ((round x hx).out a w f g)
    intro e a' w' hq
    cases e with
    | normal =>
      obtain ⟨x', hx', hlt, f', g'⟩ := hq
      refine ⟨⟨x', hx', f', g'⟩, ?_⟩
      rw [← hm]
      exact Nat.lt_of_le_of_lt ((leastMu_spec (p := fun m => ∃ x, μ x = m ∧ φ x ∧ Fits (E0 x) C.fn.ntmps a' ∧ Goes C.w0 C.L0 w' (H0 x).flatten) ⟨_, x', rfl, hx', f', g'⟩).2 _ ⟨x', rfl, hx', f', g'⟩) hlt
    | exit id => exact hq
    | goto l => exact hq
    | ret => exact hq
    | panic ch => exact hq
    | outgrown => exact hq
  exact key _ x0 a w rfl h0 (f.sub hE) (g.le hL)
theorem fin_round {α : Type} {E0 : α → Env} {H0 : α → List Hp} {φ : α → Prop} {μ : α → Nat} {n : Nat} (x : α) (hμ : μ x < n) (hE : Sub (E0 x) E) (hL : Le (H0 x).flatten Ls.flatten) (hx : φ x) :
    Fin C .normal (.inv (Inv C E0 H0 φ μ n) :: ks) E Ls := ⟨fun a w f g => ⟨x, hx, hμ, f.sub hE, g.le hL⟩⟩
end

/-- What a call comes to. -/
def Post {α : Type} (w : World) (L : Hp) (ret : α → Value) (L' : α → Hp) (φ : α → Prop) : Ending → World → Prop :=
  fun e w' => ∃ x, φ x ∧ e = .returned (ret x) ∧ Goes w L w' (L' x)

theorem enter {P : Program} {f : FuncId} {fn : Func} {c : Code} {args : Array Value} {w : World} {L0 : Hp} {R : Ending → World → Prop} (Ls : List Hp)
    (hf : P.funcs[f]? = some fn) (hb : fn.body = some c) (hn : Nat.ble args.size fn.ntmps = true) (hw : At w L0) (hL : Le Ls.flatten L0)
    (h : ∀ R' : Ending → World → Prop, (∀ e w', R e w' → R' e w') → Run ⟨P, fn, R', w, L0⟩ c [] (argEnv 0 args.toList) Ls) : Calls P f args w R := by
  have hn' : args.size ≤ fn.ntmps := Nat.le_of_ble_eq_true hn
  replace h := h R (fun _ _ h => h)
  refine calls_of_wp hf hb (h.out _ _ ⟨rfl, by simp; omega, fun t v hv => ?_⟩ ((Goes.refl hw).le hL))
  obtain ⟨_, h2⟩ := argEnv_find _ _ _ _ hv
  simp only [Nat.sub_zero] at h2
  have hlt : t < args.size := by
    rcases Nat.lt_or_ge t args.size with h | h
    · exact h
    · rw [List.getElem?_eq_none (by simpa using h)] at h2; cases h2
  show (args ++ Array.replicate (fn.ntmps - args.size) undef)[t]? = some v
  rw [Array.getElem?_append_left hlt]
  simpa using h2

section
variable {C : Ctx} {E : Env} {Ls : List Hp}
theorem fin_ret0 {r : Exit} (hr : r = .ret ∨ r = .normal) (hres : C.fn.results = #[]) (h : ∀ w, Goes C.w0 C.L0 w Ls.flatten → C.R (.returned (.tuple #[])) w) : Fin C r [] E Ls := by
  refine ⟨fun a w f g => ?_⟩
  have : ∃ v, (results C.fn a.tmps).run C.P w = .ok v w ∧ C.R (.returned v) w := ⟨.tuple #[], by simp [results, hres], h w g⟩
  rcases hr with rfl | rfl <;> exact ⟨f.d, this⟩
theorem fin_ret1 {t : Tmp} {v : Value} (hres : C.fn.results = #[.tmp t]) (hv : E.find t = some v) (h : ∀ w, Goes C.w0 C.L0 w Ls.flatten → C.R (.returned v) w) : Fin C .ret [] E Ls := by
  refine ⟨fun a w f g => ?_⟩
  exact ⟨f.d, v, by simp [results, hres, ← f.getD hv], h w g⟩
theorem fin_ret2 {t u : Tmp} {v v2 : Value} (hres : C.fn.results = #[.tmp t, .tmp u]) (hv : E.find t = some v) (hv2 : E.find u = some v2) (h : ∀ w, Goes C.w0 C.L0 w Ls.flatten → C.R (.returned (.tuple #[v, v2])) w) : Fin C .ret [] E Ls := by
  refine ⟨fun a w f g => ?_⟩
  exact ⟨f.d, .tuple #[v, v2], by simp [results, hres, ← f.getD hv, ← f.getD hv2], h w g⟩
theorem fin_ret3 {t u s : Tmp} {v v2 v3 : Value} (hres : C.fn.results = #[.tmp t, .tmp u, .tmp s]) (hv : E.find t = some v) (hv2 : E.find u = some v2) (hv3 : E.find s = some v3) (h : ∀ w, Goes C.w0 C.L0 w Ls.flatten → C.R (.returned (.tuple #[v, v2, v3])) w) : Fin C .ret [] E Ls := by
  refine ⟨fun a w f g => ?_⟩
  exact ⟨f.d, .tuple #[v, v2, v3], by simp [results, hres, ← f.getD hv, ← f.getD hv2, ← f.getD hv3], h w g⟩
/-- The result, where the call's post is of the form Post. -/
theorem post_of {α : Type} {w0 : World} {L0 : Hp} {ret : α → Value} {L' : α → Hp} {φ : α → Prop} {L : Hp} {v : Value} {w : World} (g : Goes w0 L0 w L) (x : α) (hx : φ x) (hv : v = ret x) (hL : Le (L' x) L) : Post w0 L0 ret L' φ (.returned v) w :=
  ⟨x, hx, by rw [hv], g.le hL⟩
end
end Go.Proofs.Eng
