/- A part of the proof: what functions of the program do, step by step. -/
import Derived.Test.YtjfpcckdelocpaaDoorU2
set_option linter.unusedVariables false
set_option linter.unusedSimpArgs false
namespace Go.Proofs.Eng
/-- An instruction. -/
structure In where
  op : Nat
  to : Nat
  a : Nat
  b : Nat
  lo : Nat
  hi : Nat
def zeroIn : In := ⟨0, 0, 0, 0, 0, 0⟩
/-- The instructions of a sequence of ranges. -/
def rng (s : List (Nat × Nat)) : List In := s.map (fun p => ⟨3, 0, 0, 0, p.1, p.2⟩)
/-- The instructions of sequences of which none is the last one: jumps lead to E, the first one stands at k. -/
def cblk (E k : Nat) : List (List (Nat × Nat)) → List In
  | [] => []
  | s :: S => ⟨2, 0, k + 1, k + s.length + 2, 0, 0⟩ :: (rng s ++ ⟨1, E, 0, 0, 0, 0⟩ :: cblk E (k + s.length + 2) S)
def cbLen : List (List (Nat × Nat)) → Nat
  | [] => 0
  | s :: S => s.length + 2 + cbLen S
/-- The instructions of sequences. -/
def prC (E k : Nat) : List (List (Nat × Nat)) → List In
  | [] => []
  | [s] => rng s
  | s :: S => ⟨2, 0, k + 1, k + s.length + 2, 0, 0⟩ :: (rng s ++ ⟨1, E, 0, 0, 0, 0⟩ :: prC E (k + s.length + 2) S)
def prLen : List (List (Nat × Nat)) → Nat
  | [] => 0
  | [s] => s.length
  | s :: S => s.length + 2 + prLen S
/-- Where the jumps stand. -/
def jmpsOf (k : Nat) : List (List (Nat × Nat)) → List Nat
  | [] => []
  | s :: S => (k + s.length + 1) :: jmpsOf (k + s.length + 2) S
theorem rng_len (s : List (Nat × Nat)) : (rng s).length = s.length := by simp [rng]
theorem cb_len (E : Nat) : ∀ (S : List (List (Nat × Nat))) (k : Nat), (cblk E k S).length = cbLen S
  | [], _ => rfl
  | s :: S, k => by simp [cblk, cbLen, cb_len E S, rng_len]; omega
theorem cbLen_append : ∀ (S T : List (List (Nat × Nat))), cbLen (S ++ T) = cbLen S + cbLen T
  | [], T => by simp [cbLen]
  | s :: S, T => by simp [cbLen, cbLen_append S T]; omega
theorem cb_append (E : Nat) : ∀ (S T : List (List (Nat × Nat))) (k : Nat), cblk E k (S ++ T) = cblk E k S ++ cblk E (k + cbLen S) T
  | [], T, k => by simp [cblk, cbLen]
  | s :: S, T, k => by
    simp only [List.cons_append, cblk, cb_append E S T, cbLen, List.append_assoc, List.cons_append]
    rw [show k + s.length + 2 + cbLen S = k + (s.length + 2 + cbLen S) by omega]
theorem cbLen_le {S : List (List (Nat × Nat))} (h : ∀ s ∈ S, s.length ≤ 4) : cbLen S ≤ 6 * S.length := by
  induction S with
  | nil => simp [cbLen]
  | cons s S ih =>
    have h1 := h s (by simp)
    have h2 := ih (fun t ht => h t (by simp [ht]))
    simp only [cbLen, List.length_cons]
    omega
theorem jmpsOf_append : ∀ (S T : List (List (Nat × Nat))) (k : Nat), jmpsOf k (S ++ T) = jmpsOf k S ++ jmpsOf (k + cbLen S) T
  | [], T, k => by simp [jmpsOf, cbLen]
  | s :: S, T, k => by
    simp only [List.cons_append, jmpsOf, jmpsOf_append S T, cbLen]
    rw [show k + s.length + 2 + cbLen S = k + (s.length + 2 + cbLen S) by omega]
theorem prLen_cb (S : List (List (Nat × Nat))) (s : List (Nat × Nat)) : prLen (S ++ [s]) = cbLen S + s.length := by
  induction S with
  | nil => simp [prLen, cbLen]
  | cons t S ih =>
    cases S with
    | nil => simp [prLen, cbLen]
    | cons u S => simp only [List.cons_append, prLen, cbLen] at ih ⊢; omega
theorem prC_cb (E : Nat) (s : List (Nat × Nat)) : ∀ (S : List (List (Nat × Nat))) (k : Nat), prC E k (S ++ [s]) = cblk E k S ++ rng s
  | [], k => by simp [prC, cblk]
  | [t], k => by simp [prC, cblk]
  | t :: u :: S, k => by
    have ih := prC_cb E s (u :: S) (k + t.length + 2)
    simp only [List.cons_append, prC] at ih ⊢
    rw [ih]
    simp [cblk]
theorem cb_set (E : Nat) (s : List (Nat × Nat)) (S : List (List (Nat × Nat))) (P Q : List In) :
    (P ++ cblk 0 P.length (s :: S) ++ Q).set (P.length + s.length + 1) ⟨1, E, 0, 0, 0, 0⟩ = P ++ cblk E P.length [s] ++ cblk 0 (P.length + s.length + 2) S ++ Q := by
  have e : P ++ cblk 0 P.length (s :: S) ++ Q = (P ++ ⟨2, 0, P.length + 1, P.length + s.length + 2, 0, 0⟩ :: rng s) ++ ⟨1, 0, 0, 0, 0, 0⟩ :: (cblk 0 (P.length + s.length + 2) S ++ Q) := by
    simp [cblk]
  have l : (P ++ (⟨2, 0, P.length + 1, P.length + s.length + 2, 0, 0⟩ : In) :: rng s).length = P.length + s.length + 1 := by simp [rng_len]; omega
  rw [e, ← l, List.set_append_right _ _ (Nat.le_refl _), Nat.sub_self]
  simp [cblk]
theorem cb_get (s : List (Nat × Nat)) (S : List (List (Nat × Nat))) (P Q : List In) : (P ++ cblk 0 P.length (s :: S) ++ Q)[P.length + s.length + 1]? = some ⟨1, 0, 0, 0, 0, 0⟩ := by
  have e : P ++ cblk 0 P.length (s :: S) ++ Q = (P ++ ⟨2, 0, P.length + 1, P.length + s.length + 2, 0, 0⟩ :: rng s) ++ ⟨1, 0, 0, 0, 0, 0⟩ :: (cblk 0 (P.length + s.length + 2) S ++ Q) := by
    simp [cblk]
  have l : (P ++ (⟨2, 0, P.length + 1, P.length + s.length + 2, 0, 0⟩ : In) :: rng s).length = P.length + s.length + 1 := by simp [rng_len]; omega
  rw [e, ← l, List.getElem?_append_right (Nat.le_refl _), Nat.sub_self]
  rfl
theorem cb_step (l0 : List In) (s : List (Nat × Nat)) (c : Nat) (h : l0.length = c) :
    (l0 ++ [(⟨2, 0, 0, 0, 0, 0⟩ : In)] ++ rng s ++ [(⟨1, 0, 0, 0, 0, 0⟩ : In)]).set c ⟨2, 0, c + 1, c + s.length + 2, 0, 0⟩ = l0 ++ cblk 0 c [s] := by
  subst h
  rw [List.append_assoc, List.append_assoc, List.set_append_right _ _ (Nat.le_refl _), Nat.sub_self]
  simp [cblk]
theorem jmps_get' : ∀ (T : List (List (Nat × Nat))) (k i : Nat) (h : i < T.length), (jmpsOf k T)[i]? = some (k + cbLen (T.take i) + T[i].length + 1)
  | s :: T, k, 0, h => by simp [jmpsOf, cbLen]
  | s :: T, k, i + 1, h => by
    simp only [jmpsOf, List.getElem?_cons_succ, List.take_succ_cons, cbLen, List.getElem_cons_succ]
    rw [jmps_get' T _ i (by simpa using h)]
    congr 1
    omega
theorem jmps_get {T : List (List (Nat × Nat))} {i : Nat} (h : i < T.length) : (jmpsOf 0 T)[i]? = some (cbLen (T.take i) + T[i].length + 1) := by
  rw [jmps_get' T 0 i h]
  congr 1
  omega
theorem encN_255 {r : Nat} (h : r ≤ 1114111) : ∀ x ∈ encN r, x ≤ 255 := by
  intro x hx
  unfold encN at hx
  split at hx
  · simp at hx; omega
  · split at hx
    · simp at hx; omega
    · split at hx
      · simp at hx; omega
      · simp at hx; omega
theorem seqOf_255 {s e : Nat} (h1 : s ≤ 1114111) (h2 : e ≤ 1114111) : ∀ x ∈ seqOf s e, x.1 ≤ 255 ∧ x.2 ≤ 255 := by
  intro x hx
  obtain ⟨a, b⟩ := x
  have := List.of_mem_zip hx
  exact ⟨encN_255 h1 _ this.1, encN_255 h2 _ this.2⟩
theorem seqOf_len (s e : Nat) : (seqOf s e).length ≤ 4 := by
  unfold seqOf
  rw [List.length_zip, encN_len]
  split
  · omega
  · split
    · omega
    · split <;> omega
end Go.Proofs.Eng
