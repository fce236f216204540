/- A part of the proof: what functions of the program do, step by step. -/
import Derived.Test.YtolnpkdgnekcnaaQ9
set_option linter.unusedVariables false
set_option linter.unusedSimpArgs false
namespace Go.Proofs.Eng
open Go.RowKit
/-- The first that p holds of is pulled out. -/
def pull (p : Nat → Bool) : List Nat → Option (Nat × List Nat)
  | [] => none
  | x :: r => if p x then some (x, r) else match pull p r with
    | some (y, r') => some (y, x :: r')
    | none => none
theorem pull_hit (p : Nat → Bool) : ∀ (A : List Nat) (f : Nat) (B : List Nat), (∀ x ∈ A, p x = false) → p f = true → pull p (A ++ f :: B) = some (f, A ++ B)
  | [], f, B, _, hf => by simp [pull, hf]
  | a :: A, f, B, hA, hf => by
    have h1 := hA a (by simp)
    have h2 := pull_hit p A f B (fun x hx => hA x (by simp [hx])) hf
    simp [pull, h1, h2]
theorem pull_miss (p : Nat → Bool) : ∀ (A : List Nat), (∀ x ∈ A, p x = false) → pull p A = none
  | [], _ => rfl
  | a :: A, hA => by
    have h1 := hA a (by simp)
    have h2 := pull_miss p A (fun x hx => hA x (by simp [hx]))
    simp [pull, h1, h2]
noncomputable def rowStep (st : Nat → St) (mru : Nat) (old : List Nat) (i : Nat) : Int × List Nat :=
  match pull (fun j => same (st j) (st i)) old with
  | some (f, rest) => ((f : Int), f :: rest)
  | none => (-1, (i :: old).take mru)
/-- What a registry keeps, and has told, behind so many states. -/
noncomputable def runK (st : Nat → St) (at_ : Nat → Nat) (mru : Nat) : Nat → (Nat → List Nat) × List Int
  | 0 => (fun _ => [], [])
  | n + 1 => (fun c => if c = at_ n then (rowStep st mru ((runK st at_ mru n).1 (at_ n)) n).2 else (runK st at_ mru n).1 c, (runK st at_ mru n).2 ++ [(rowStep st mru ((runK st at_ mru n).1 (at_ n)) n).1])
theorem runK_len (st : Nat → St) (at_ : Nat → Nat) (mru n : Nat) : (runK st at_ mru n).2.length = n := by
  induction n with
  | zero => rfl
  | succ n ih => simp [runK, ih]
theorem same_iff {a b : St} : same a b = true ↔ a = b := by simp [same]
theorem pull_mem (p : Nat → Bool) : ∀ (A : List Nat) (f : Nat) (B : List Nat), pull p A = some (f, B) → (∀ x, x ∈ f :: B ↔ x ∈ A) ∧ B.length + 1 = A.length
  | [], f, B, h => by simp [pull] at h
  | a :: A, f, B, h => by
    simp only [pull] at h
    split at h
    · simp only [Option.some.injEq, Prod.mk.injEq] at h
      obtain ⟨rfl, rfl⟩ := h
      exact ⟨fun x => Iff.rfl, rfl⟩
    · split at h
      · rename_i y r' hr
        simp only [Option.some.injEq, Prod.mk.injEq] at h
        obtain ⟨rfl, rfl⟩ := h
        obtain ⟨h1, h2⟩ := pull_mem p A y r' hr
        refine ⟨fun x => ?_, by simp [← h2]⟩
        have := h1 x
        simp only [List.mem_cons] at this ⊢
        constructor
        · rintro (rfl | rfl | h3)
          · exact .inr (this.1 (.inl rfl))
          · exact .inl rfl
          · exact .inr (this.1 (.inr h3))
        · rintro (rfl | h3)
          · exact .inr (.inl rfl)
          · rcases this.2 h3 with rfl | h4
            · exact .inl rfl
            · exact .inr (.inr h4)
      · cases h
theorem rowStep_lt {st : Nat → St} {mru : Nat} {old : List Nat} {i : Nat} (h : ∀ x ∈ old, x < i) : ∀ x ∈ (rowStep st mru old i).2, x < i + 1 := by
  intro x hx
  unfold rowStep at hx
  split at hx
  · rename_i f rest hp
    have := ((pull_mem _ _ _ _ hp).1 x).1 hx
    have := h x this
    omega
  · have := List.mem_of_mem_take hx
    rcases List.mem_cons.1 this with rfl | h2
    · omega
    · have := h x h2
      omega
theorem runK_lt (st : Nat → St) (at_ : Nat → Nat) (mru n : Nat) : ∀ c, ∀ x ∈ (runK st at_ mru n).1 c, x < n := by
  induction n with
  | zero => intro c x hx; simp [runK] at hx
  | succ n ih =>
    intro c x hx
    simp only [runK] at hx
    split at hx
    · exact rowStep_lt (ih _) x hx
    · have := ih c x hx
      omega
theorem rowStep_len {st : Nat → St} {mru : Nat} {old : List Nat} {i : Nat} (h : old.length ≤ mru) : (rowStep st mru old i).2.length ≤ mru := by
  unfold rowStep
  split
  · rename_i f rest hp
    have := (pull_mem _ _ _ _ hp).2
    simp only [List.length_cons]
    omega
  · rw [List.length_take]; omega
theorem runK_short (st : Nat → St) (at_ : Nat → Nat) (mru n : Nat) : ∀ c, ((runK st at_ mru n).1 c).length ≤ mru := by
  induction n with
  | zero => intro c; simp [runK]
  | succ n ih =>
    intro c
    simp only [runK]
    split
    · exact rowStep_len (ih _)
    · exact ih c
def rowOf (nd : Nat → Nd) (mru : Nat) (K : List Nat) : List Ent := K.map (fun j => (((j : Nat) : Int), some (nd j))) ++ List.replicate (mru - K.length) (0, none)
def NdOk (st : Nat → St) (nd : Nat → Nd) (K : List Nat) : Prop := ∀ j ∈ K, (nd j).st = st j ∧ IsNd (nd j) (.pointer none) ∧ (nd j).st.arcs.length ≤ 2147483647
/-- A row of the table holds what is kept. -/
def RowRel (st : Nat → St) (mru : Nat) (R : List Ent) (K : List Nat) : Prop := K.length ≤ mru ∧ ∃ nd, R = rowOf nd mru K ∧ NdOk st nd K
theorem RowRel.len {st : Nat → St} {mru : Nat} {R : List Ent} {K : List Nat} (h : RowRel st mru R K) : R.length = mru := by
  obtain ⟨h1, nd, rfl, _⟩ := h
  simp [rowOf]; omega
theorem RowRel.ok {st : Nat → St} {mru : Nat} {R : List Ent} {K : List Nat} (h : RowRel st mru R K) : OkE R := by
  obtain ⟨h1, nd, rfl, h2⟩ := h
  intro e he d hd
  rcases List.mem_append.1 he with he | he
  · obtain ⟨j, hj, rfl⟩ := List.mem_map.1 he
    obtain rfl := Option.some.inj hd
    exact (h2 j hj).2
  · obtain rfl := List.eq_of_mem_replicate he
    cases hd
theorem RowRel.nil (st : Nat → St) (mru : Nat) : RowRel st mru (List.replicate mru (0, none)) [] :=
  ⟨Nat.zero_le _, fun _ => ⟨⟨false, 0, []⟩, 0, []⟩, by simp [rowOf], fun j hj => by cases hj⟩
theorem matchE_some {s : St} {a : Int} {d : Nd} : matchE s (a, some d) = same d.st s := rfl
theorem matchE_none {s : St} {a : Int} : matchE s (a, none) = false := rfl
theorem rowStep_rel {st : Nat → St} {mru : Nat} (hm : 0 < mru) {R R' : List Ent} {K : List Nat} {k : Nd} {i : Nat} {fb : Bool} {a : Int} (h : RowRel st mru R K) (hk : k.st = st i) (hnd : IsNd k (.pointer none)) (hkl : k.st.arcs.length ≤ 2147483647) (hi : ∀ x ∈ K, x < i)
    (hL : Look2 R k i fb a R') : RowRel st mru R' (rowStep st mru K i).2 ∧ (if fb then a else -1) = (rowStep st mru K i).1 := by
  obtain ⟨hKl, nd, rfl, hnk⟩ := h
  rcases hL with ⟨R1, e, R2, h1, h2, h3, rfl, rfl, rfl⟩ | ⟨h1, R0, e, h2, rfl, rfl, rfl⟩
  · have hp : R1.length < K.length := by
      rcases Nat.lt_or_ge R1.length K.length with h | h
      · exact h
      · exfalso
        have hg : (rowOf nd mru K)[R1.length]? = some e := by rw [h1]; simp
        unfold rowOf at hg
        rw [List.getElem?_append_right (by simpa using h)] at hg
        obtain rfl := List.eq_of_mem_replicate (List.mem_of_getElem? hg)
        rw [matchE_none] at h2
        cases h2
    have hK : K = K.take R1.length ++ K[R1.length] :: K.drop (R1.length + 1) := by rw [← List.drop_eq_getElem_cons hp, List.take_append_drop]
    generalize K[R1.length] = f at hK
    generalize hA : K.take R1.length = A at hK
    generalize K.drop (R1.length + 1) = B at hK
    have hAl : A.length = R1.length := by rw [← hA, List.length_take]; omega
    subst hK
    have h1' : (A.map (fun j => (((j : Nat) : Int), some (nd j)))) ++ (((f : Nat) : Int), some (nd f)) :: (B.map (fun j => (((j : Nat) : Int), some (nd j))) ++ List.replicate (mru - (A ++ f :: B).length) (0, none)) = R1 ++ e :: R2 := by
      rw [← h1]; simp [rowOf]
    obtain ⟨e1, e2⟩ := List.append_inj h1' (by simpa using hAl)
    injection e2 with e2 e3
    subst e1; subst e2; subst e3
    rw [matchE_some] at h2
    have hf := hnk f (by simp)
    have hpull : pull (fun j => same (st j) (st i)) (A ++ f :: B) = some (f, A ++ B) := by
      apply pull_hit
      · intro x hx
        have h4 := h3 (((x : Nat) : Int), some (nd x)) (List.mem_map.2 ⟨x, hx, rfl⟩)
        rw [matchE_some, (hnk x (by simp [hx])).1, hk] at h4
        exact h4
      · rw [hf.1, hk] at h2; exact h2
    have hstep : rowStep st mru (A ++ f :: B) i = ((f : Int), f :: (A ++ B)) := by simp [rowStep, hpull]
    rw [hstep]
    refine ⟨⟨by simp at hKl ⊢; omega, nd, ?_, ?_⟩, rfl⟩
    · simp [rowOf]
      congr 1
    · intro j hj
      refine hnk j ?_
      simp at hj ⊢
      rcases hj with rfl | h | h
      · exact .inr (.inl rfl)
      · exact .inl h
      · exact .inr (.inr h)
  · have hpull : pull (fun j => same (st j) (st i)) K = none := by
      apply pull_miss
      intro x hx
      have h4 := h1 (((x : Nat) : Int), some (nd x)) (List.mem_append.2 (.inl (List.mem_map.2 ⟨x, hx, rfl⟩)))
      rw [matchE_some, (hnk x hx).1, hk] at h4
      exact h4
    have hstep : rowStep st mru K i = (-1, (i :: K).take mru) := by simp [rowStep, hpull]
    rw [hstep]
    refine ⟨⟨by rw [List.length_take]; omega, fun j => if j = i then k else nd j, ?_, ?_⟩, rfl⟩
    · obtain ⟨m, rfl⟩ : ∃ m, mru = m + 1 := ⟨mru - 1, by omega⟩
      have hl : R0.length = m := by
        have := congrArg List.length h2
        simp [rowOf] at this
        omega
      have hR0 : R0 = (rowOf nd (m + 1) K).take m := by rw [h2, ← hl]; simp
      rw [List.take_succ_cons]
      unfold rowOf
      rw [List.map_cons, List.cons_append]
      simp only [if_true, List.length_cons, List.length_take]
      congr 1
      rw [hR0]
      unfold rowOf
      rw [List.take_append, List.map_take]
      have hmap : K.map (fun j => (((j : Nat) : Int), some (if j = i then k else nd j))) = K.map (fun j => (((j : Nat) : Int), some (nd j))) := by
        apply List.map_congr_left
        intro j hj
        have := hi j hj
        rw [if_neg (by omega)]
      rw [hmap]
      congr 1
      rw [List.take_replicate]
      congr 1
      simp
      omega
    · intro j hj
      dsimp only
      by_cases e1 : j = i
      · subst e1
        rw [if_pos rfl]
        exact ⟨hk, hnd, hkl⟩
      · rw [if_neg e1]
        have := List.mem_of_mem_take hj
        rcases List.mem_cons.1 this with h | h
        · exact absurd h e1
        · exact hnk j h
theorem flat_split (T : List (List Ent)) (b : Nat) (hb : b < T.length) : T.flatten = (T.take b).flatten ++ T[b] ++ (T.drop (b + 1)).flatten := by
  have e : T = T.take b ++ T[b] :: T.drop (b + 1) := by rw [← List.drop_eq_getElem_cons hb, List.take_append_drop]
  have key : ∀ (A : List (List Ent)) (x : List Ent) (B : List (List Ent)), T = A ++ x :: B → T.flatten = A.flatten ++ x ++ B.flatten := by
    intro A x B h
    rw [h]
    simp
  exact key _ _ _ e
theorem flat_set (T : List (List Ent)) (b : Nat) (hb : b < T.length) (x : List Ent) : (T.set b x).flatten = (T.take b).flatten ++ x ++ (T.drop (b + 1)).flatten := by
  rw [List.set_eq_take_append_cons_drop, if_pos hb]
  simp
theorem flatten_len (T : List (List Ent)) (m : Nat) (h : ∀ x ∈ T, x.length = m) : T.flatten.length = m * T.length := by
  induction T with
  | nil => simp
  | cons x r ih =>
    rw [List.flatten_cons, List.length_append, ih (fun y hy => h y (by simp [hy])), h x (by simp), List.length_cons, Nat.mul_add, Nat.mul_one, Nat.add_comm]
end Go.Proofs.Eng
