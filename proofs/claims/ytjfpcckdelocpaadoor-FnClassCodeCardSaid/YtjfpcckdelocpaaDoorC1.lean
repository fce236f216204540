/- A part of the proof: what functions of the program do, step by step. -/
import Derived.Test.YtjfpcckdelocpaaDoorY0
set_option linter.unusedVariables false
set_option linter.unusedSimpArgs false
namespace Go.Proofs.Eng
/-- Where an instruction leads without a byte. -/
def Step (l : List In) (x y : Nat) : Prop := ∃ i, l[x]? = some i ∧ ((i.op = 1 ∧ y = i.to) ∨ (i.op = 2 ∧ (y = i.a ∨ y = i.b)))
inductive Reach (l : List In) : Nat → Nat → Prop
  | refl (x) : Reach l x x
  | step {x y z} : Step l x y → Reach l y z → Reach l x z
/-- From an instruction bytes lead to a match. -/
inductive Acc (l : List In) : Nat → List Nat → Prop
  | fin {x i} : l[x]? = some i → i.op = 0 → Acc l x []
  | eps {x y u} : Step l x y → Acc l y u → Acc l x u
  | byte {x i b u} : l[x]? = some i → i.op = 3 → i.lo ≤ b → b ≤ i.hi → Acc l (x + 1) u → Acc l x (b :: u)
theorem Acc.reach {l : List In} {x y : Nat} {u : List Nat} (h : Reach l x y) (a : Acc l y u) : Acc l x u := by
  induction h with
  | refl => exact a
  | step s _ ih => exact .eps s (ih a)
theorem Acc.out {l : List In} {x : Nat} {u : List Nat} (h : Acc l x u) : ∃ y i, Reach l x y ∧ l[y]? = some i ∧ ((u = [] ∧ i.op = 0) ∨ ∃ b v, u = b :: v ∧ i.op = 3 ∧ i.lo ≤ b ∧ b ≤ i.hi ∧ Acc l (y + 1) v) := by
  induction h with
  | fin h1 h2 => exact ⟨_, _, .refl _, h1, .inl ⟨rfl, h2⟩⟩
  | eps s _ ih =>
    obtain ⟨y, i, h1, h2⟩ := ih
    exact ⟨y, i, .step s h1, h2⟩
  | byte h1 h2 h3 h4 h5 _ => exact ⟨_, _, .refl _, h1, .inr ⟨_, _, rfl, h2, h3, h4, h5⟩⟩
/-- A set of instructions to which bytes lead. -/
def StS (l : List In) (u : List Nat) (set : Nat → Prop) : Prop := ∀ v, (∃ k, set k ∧ Acc l k v) ↔ Acc l 0 (u ++ v)
theorem StS.start (l : List In) : StS l [] (fun k => k = 0) := fun v => ⟨fun ⟨_, h, a⟩ => h ▸ a, fun a => ⟨0, rfl, a⟩⟩
theorem StS.close {l : List In} {u : List Nat} {set set' : Nat → Prop} (h : StS l u set) (h1 : ∀ k, set k → set' k) (h2 : ∀ k, set' k → ∃ x, set x ∧ Reach l x k) : StS l u set' := fun v => by
  rw [← h v]
  constructor
  · rintro ⟨k, hk, a⟩
    obtain ⟨x, hx, hr⟩ := h2 k hk
    exact ⟨x, hx, Acc.reach hr a⟩
  · rintro ⟨k, hk, a⟩
    exact ⟨k, h1 k hk, a⟩
theorem closedR {l : List In} {set : Nat → Prop} (hc : ∀ k, set k → ∀ z, Step l k z → set z) {x y : Nat} (hr : Reach l x y) (hx : set x) : set y := by
  induction hr with
  | refl => exact hx
  | step s _ ih => exact ih (hc _ hx _ s)
theorem StS.next {l : List In} {u : List Nat} {set set' : Nat → Prop} {b : Nat} (h : StS l u set) (hc : ∀ k, set k → ∀ z, Step l k z → set z)
    (hn : ∀ z, set' z ↔ ∃ k i, z = k + 1 ∧ set k ∧ l[k]? = some i ∧ i.op = 3 ∧ i.lo ≤ b ∧ b ≤ i.hi) : StS l (u ++ [b]) set' := fun v => by
  rw [List.append_assoc, List.singleton_append, ← h (b :: v)]
  constructor
  · rintro ⟨z, hz, a⟩
    obtain ⟨k, i, rfl, hk, hi, h1, h2, h3⟩ := (hn z).1 hz
    exact ⟨k, hk, .byte hi h1 h2 h3 a⟩
  · rintro ⟨k, hk, a⟩
    obtain ⟨y, i, hr, hi, ⟨h1, _⟩ | ⟨b', v', h1, h2, h3, h4, a'⟩⟩ := a.out
    · cases h1
    · obtain ⟨rfl, rfl⟩ := List.cons.inj h1
      exact ⟨y + 1, (hn _).2 ⟨y, i, rfl, closedR hc hr hk, hi, h2, h3, h4⟩, a'⟩
theorem StS.fin {l : List In} {u : List Nat} {set : Nat → Prop} (h : StS l u set) (hc : ∀ k, set k → ∀ z, Step l k z → set z) : (∃ k i, set k ∧ l[k]? = some i ∧ i.op = 0) ↔ Acc l 0 u := by
  have := h []
  rw [List.append_nil] at this
  rw [← this]
  constructor
  · rintro ⟨k, i, hk, hi, h0⟩
    exact ⟨k, hk, .fin hi h0⟩
  · rintro ⟨k, hk, a⟩
    obtain ⟨y, i, hr, hi, ⟨_, h1⟩ | ⟨b', v', h1, _⟩⟩ := a.out
    · exact ⟨y, i, closedR hc hr hk, hi, h1⟩
    · cases h1
/-! ### The instructions of sequences -/
def AtP (l : List In) (k : Nat) (P : List In) : Prop := ∀ j x, P[j]? = some x → l[k + j]? = some x
theorem AtP.head {l : List In} {k : Nat} {x : In} {P : List In} (h : AtP l k (x :: P)) : l[k]? = some x := h 0 x rfl
theorem AtP.tail {l : List In} {k : Nat} {x : In} {P : List In} (h : AtP l k (x :: P)) : AtP l (k + 1) P := fun j y hj => by
  rw [show k + 1 + j = k + (j + 1) by omega]
  exact h (j + 1) y (by simpa using hj)
theorem AtP.left {l : List In} {k : Nat} {P Q : List In} (h : AtP l k (P ++ Q)) : AtP l k P := fun j x hj => by
  have := (List.getElem?_eq_some_iff.1 hj).1
  exact h j x (by rw [List.getElem?_append_left this]; exact hj)
theorem AtP.right {l : List In} {k : Nat} {P Q : List In} (h : AtP l k (P ++ Q)) : AtP l (k + P.length) Q := fun j x hj => by
  rw [Nat.add_assoc]
  exact h (P.length + j) x (by rw [List.getElem?_append_right (by omega), Nat.add_sub_cancel_left]; exact hj)
theorem acc_match {l : List In} {x : Nat} {i : In} {u : List Nat} (hi : l[x]? = some i) (h0 : i.op = 0) : Acc l x u ↔ u = [] := by
  constructor
  · intro a
    cases a with
    | fin => rfl
    | eps s _ =>
      obtain ⟨j, hj, h1⟩ := s
      rw [hi] at hj
      cases hj
      omega
    | byte hj h1 =>
      rw [hi] at hj
      cases hj
      omega
  · rintro rfl
    exact .fin hi h0
theorem acc_jump {l : List In} {x E a b lo hi : Nat} {u : List Nat} (hi' : l[x]? = some ⟨1, E, a, b, lo, hi⟩) : Acc l x u ↔ Acc l E u := by
  constructor
  · intro h
    cases h with
    | fin hj h1 => rw [hi'] at hj; cases hj; cases h1
    | eps s h =>
      obtain ⟨j, hj, ⟨_, rfl⟩ | ⟨h1, _⟩⟩ := s
      · rw [hi'] at hj; cases hj; exact h
      · rw [hi'] at hj; cases hj; cases h1
    | byte hj h1 => rw [hi'] at hj; cases hj; cases h1
  · intro h
    exact .eps ⟨_, hi', .inl ⟨rfl, rfl⟩⟩ h
theorem acc_split {l : List In} {x to a b lo hi : Nat} {u : List Nat} (hi' : l[x]? = some ⟨2, to, a, b, lo, hi⟩) : Acc l x u ↔ Acc l a u ∨ Acc l b u := by
  constructor
  · intro h
    cases h with
    | fin hj h1 => rw [hi'] at hj; cases hj; cases h1
    | eps s h =>
      obtain ⟨j, hj, ⟨h1, _⟩ | ⟨_, rfl | rfl⟩⟩ := s
      · rw [hi'] at hj; cases hj; cases h1
      · rw [hi'] at hj; cases hj; exact .inl h
      · rw [hi'] at hj; cases hj; exact .inr h
    | byte hj h1 => rw [hi'] at hj; cases hj; cases h1
  · rintro (h | h)
    · exact .eps ⟨_, hi', .inr ⟨rfl, .inl rfl⟩⟩ h
    · exact .eps ⟨_, hi', .inr ⟨rfl, .inr rfl⟩⟩ h
theorem acc_rng {l : List In} : ∀ (s : List (Nat × Nat)) (k : Nat) (u : List Nat), AtP l k (rng s) → (∀ v, Acc l (k + s.length) v ↔ v = []) → (Acc l k u ↔ covB s u = true)
  | [], k, u, h, he => by
    rw [show k = k + ([] : List (Nat × Nat)).length from rfl, he u]
    cases u <;> simp [covB]
  | q :: s, k, u, h, he => by
    have h0 : l[k]? = some ⟨3, 0, 0, 0, q.1, q.2⟩ := h.head
    have ih := fun u => acc_rng s (k + 1) u h.tail (by rw [show k + 1 + s.length = k + (q :: s).length by simp; omega]; exact he)
    constructor
    · intro a
      cases a with
      | fin hj h1 => rw [h0] at hj; cases hj; cases h1
      | eps st _ =>
        obtain ⟨j, hj, ⟨h1, _⟩ | ⟨h1, _⟩⟩ := st
        · rw [h0] at hj; cases hj; cases h1
        · rw [h0] at hj; cases hj; cases h1
      | byte hj h1 h2 h3 a =>
        rw [h0] at hj
        cases hj
        simp only [covB, Bool.and_eq_true, decide_eq_true_eq]
        exact ⟨⟨h2, h3⟩, (ih _).1 a⟩
    · intro hc
      cases u with
      | nil => simp [covB] at hc
      | cons b u =>
        simp only [covB, Bool.and_eq_true, decide_eq_true_eq] at hc
        exact .byte h0 rfl hc.1.1 hc.1.2 ((ih _).2 hc.2)
theorem acc_prC {l : List In} {E : Nat} (hE : ∀ v, Acc l E v ↔ v = []) : ∀ (S : List (List (Nat × Nat))) (k : Nat) (u : List Nat), S ≠ [] → AtP l k (prC E k S) → k + prLen S = E → (Acc l k u ↔ ∃ s ∈ S, covB s u = true)
  | [], k, u, hne, _, _ => absurd rfl hne
  | [s], k, u, _, h, hl => by
    rw [acc_rng s k u h (by simp only [prLen] at hl; rw [hl]; exact hE)]
    simp
  | s :: t :: S, k, u, _, h, hl => by
    have h0 : l[k]? = some ⟨2, 0, k + 1, k + s.length + 2, 0, 0⟩ := h.head
    have h1 : AtP l (k + 1) (rng s ++ ⟨1, E, 0, 0, 0, 0⟩ :: prC E (k + s.length + 2) (t :: S)) := h.tail
    have h2 := h1.right
    rw [rng_len] at h2
    have h3 : AtP l (k + s.length + 2) (prC E (k + s.length + 2) (t :: S)) := by
      have := h2.tail
      rwa [show k + 1 + s.length + 1 = k + s.length + 2 by omega] at this
    simp only [prLen] at hl
    rw [acc_split h0, acc_rng s (k + 1) u h1.left (fun v => by rw [acc_jump h2.head, hE]), acc_prC hE (t :: S) (k + s.length + 2) u (by simp) h3 (by omega)]
    simp
/-- The whole program of a class. -/
def progC (S : List (List (Nat × Nat))) : List In := prC (prLen S) 0 S ++ [zeroIn]
theorem prC_len (E : Nat) : ∀ (S : List (List (Nat × Nat))) (k : Nat), (prC E k S).length = prLen S
  | [], _ => rfl
  | [s], _ => by simp [prC, prLen, rng_len]
  | s :: t :: S, k => by
    simp only [prC, prLen, List.length_cons, List.length_append, rng_len, prC_len E (t :: S)]
    omega
theorem progC_acc {S : List (List (Nat × Nat))} (hS : S ≠ []) (u : List Nat) : Acc (progC S) 0 u ↔ ∃ s ∈ S, covB s u = true := by
  have hm : (progC S)[prLen S]? = some zeroIn := by
    unfold progC
    rw [List.getElem?_append_right (by rw [prC_len]; exact Nat.le_refl _), prC_len, Nat.sub_self]
    rfl
  refine acc_prC (fun v => acc_match hm rfl) S 0 u hS ?_ (by omega)
  intro j x hj
  have := (List.getElem?_eq_some_iff.1 hj).1
  rw [Nat.zero_add]
  unfold progC
  rw [List.getElem?_append_left this]
  exact hj
theorem prC_mem {E : Nat} : ∀ (S : List (List (Nat × Nat))) (k : Nat), k + prLen S = E → ∀ x ∈ prC E k S, (x.op = 1 ∧ x.to = E) ∨ (x.op = 2 ∧ x.a ≤ E ∧ x.b ≤ E) ∨ x.op = 3
  | [], k, hl, x, hx => by simp [prC] at hx
  | [s], k, hl, x, hx => by
    simp only [prC, rng, List.mem_map] at hx
    obtain ⟨p, _, rfl⟩ := hx
    exact .inr (.inr rfl)
  | s :: t :: S, k, hl, x, hx => by
    simp only [prLen] at hl
    simp only [prC, List.mem_cons, List.mem_append, rng, List.mem_map] at hx
    rcases hx with rfl | ⟨p, _, rfl⟩ | rfl | hx
    · exact .inr (.inl ⟨rfl, by dsimp only; omega, by dsimp only; omega⟩)
    · exact .inr (.inr rfl)
    · exact .inl ⟨rfl, rfl⟩
    · exact prC_mem (t :: S) (k + s.length + 2) (by omega) x hx
/-- What all that the program has leads to is there. -/
structure SoundI (n i : Nat) (x : In) : Prop where
  op : x.op = 0 ∨ x.op = 1 ∨ x.op = 2 ∨ x.op = 3
  to : x.op = 1 → x.to < n
  a : x.op = 2 → x.a < n
  b : x.op = 2 → x.b < n
  nx : x.op = 3 → i + 1 < n
theorem progC_len (S : List (List (Nat × Nat))) : (progC S).length = prLen S + 1 := by
  unfold progC
  rw [List.length_append, prC_len]
  rfl
theorem progC_sound (S : List (List (Nat × Nat))) (i : Nat) (x : In) (h : (progC S)[i]? = some x) : SoundI (progC S).length i x := by
  have hl := progC_len S
  unfold progC at h
  rcases Nat.lt_or_ge i (prLen S) with hi | hi
  · rw [List.getElem?_append_left (by rw [prC_len]; exact hi)] at h
    rcases prC_mem S 0 (by omega) x (List.mem_of_getElem? h) with ⟨h1, h2⟩ | ⟨h1, h2, h3⟩ | h1
    · exact ⟨by omega, by omega, by omega, by omega, by omega⟩
    · exact ⟨by omega, by omega, by omega, by omega, by omega⟩
    · exact ⟨by omega, by omega, by omega, by omega, by omega⟩
  · rw [List.getElem?_append_right (by rw [prC_len]; exact hi), prC_len] at h
    have h0 : i - prLen S = 0 := by
      have := (List.getElem?_eq_some_iff.1 h).1
      simp at this
      omega
    rw [h0] at h
    cases h
    exact ⟨.inl rfl, by simp [zeroIn], by simp [zeroIn], by simp [zeroIn], by simp [zeroIn]⟩
def Sound (l : List In) : Prop := ∀ y z, Step l y z → z < l.length
theorem Sound.of {l : List In} (h : ∀ i x, l[i]? = some x → SoundI l.length i x) : Sound l := by
  rintro y z ⟨i, hi, ⟨h1, rfl⟩ | ⟨h1, rfl | rfl⟩⟩
  · exact (h y i hi).to h1
  · exact (h y i hi).a h1
  · exact (h y i hi).b h1
theorem prLen_le {S : List (List (Nat × Nat))} (h : ∀ s ∈ S, s.length ≤ 4) : prLen S ≤ 6 * S.length := by
  rcases List.eq_nil_or_concat S with rfl | ⟨T, s, rfl⟩
  · simp [prLen]
  · rw [List.concat_eq_append] at h ⊢
    have h1 := cbLen_le (S := T) (fun t ht => h t (by simp [ht]))
    have h2 := h s (by simp)
    rw [prLen_cb, List.length_append, List.length_singleton]
    omega
end Go.Proofs.Eng
