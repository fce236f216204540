/- A part of the proof: what functions of the program do, step by step. -/
import Derived.Test.YtiadbheejlhimaaVh
set_option linter.unusedVariables false
set_option linter.unusedSimpArgs false
namespace Go.Proofs.Eng
/-- What a state of the automaton over bytes stands for. -/
inductive Role where
  | orig (s : Nat)
  | pred (s k : Nat)
  | mid (s : Nat) (p : List Nat)
deriving DecidableEq
/-- How many bytes follow a letter's first one. -/
def lead (x : Nat) : Nat := if x < 192 then 0 else if x < 224 then 1 else if x < 240 then 2 else 3
/-- Walking bytes. -/
def Bd.run (b : Bd) (f : Nat) : List Nat → Nat
  | [] => f
  | c :: cs => b.run (b.tr f c) cs
theorem run_append (b : Bd) : ∀ (cs ds : List Nat) (f : Nat), b.run f (cs ++ ds) = b.run (b.run f cs) ds
  | [], ds, f => rfl
  | c :: cs, ds, f => by simp only [List.cons_append, Bd.run]; exact run_append b cs ds _
theorem tr_set {b : Bd} {f c t f' c' : Nat} (hc : c < 256) (hc' : c' < 256) (hf : f * 256 + c < b.fl.length) : (b.set f c t).tr f' c' = if f' = f ∧ c' = c then t else b.tr f' c' := by
  unfold Bd.tr Bd.set
  simp only [List.getD_eq_getElem?_getD, List.getElem?_set]
  by_cases h : f' = f ∧ c' = c
  · obtain ⟨rfl, rfl⟩ := h
    simp [hf]
  · rw [if_neg h, if_neg (by omega)]
theorem tr_fill {b : Bd} {o k v f c : Nat} (ho : o + k ≤ b.fl.length) : (b.fill o k v).tr f c = if o ≤ f * 256 + c ∧ f * 256 + c < o + k then v else b.tr f c := by
  unfold Bd.tr Bd.fill
  simp only [List.getD_eq_getElem?_getD]
  rw [fillR_get ho]
  split <;> rfl
theorem trail_run (b : Bd) : ∀ (cs : List Nat) (s i : Nat), i ≤ cs.length → (b.trail s cs).getD i 0 = b.run s (cs.take i)
  | cs, s, 0, _ => by rw [trail_zero]; rfl
  | [], s, i + 1, h => by simp at h
  | c :: cs, s, i + 1, h => by
    rw [Bd.trail, List.getD_cons_succ, List.take_succ_cons]
    exact trail_run b cs _ i (by simpa using h)
theorem lead0 {x : Nat} (h : x < 192) : lead x = 0 := by unfold lead; rw [if_pos h]
theorem lead1 {x : Nat} (h : 192 ≤ x) (h' : x < 224) : lead x = 1 := by unfold lead; rw [if_neg (by omega), if_pos h']
theorem lead2 {x : Nat} (h : 224 ≤ x) (h' : x < 240) : lead x = 2 := by unfold lead; rw [if_neg (by omega), if_neg (by omega), if_pos h']
theorem lead3 {x : Nat} (h : 240 ≤ x) : lead x = 3 := by unfold lead; rw [if_neg (by omega), if_neg (by omega), if_neg (by omega)]
/-- The first bytes of letters tell how many bytes follow. -/
theorem lead_enc {r : Nat} (h : isL r) : ∃ c cs, encN r = c :: cs ∧ cs.length = lead c ∧ c < 256 ∧ ∀ x ∈ cs, x < 256 := by
  have h2 := encN_256 h
  have h1 := h.1
  unfold encN at h2 ⊢
  by_cases h3 : r ≤ 127
  · simp only [if_pos h3] at h2 ⊢
    exact ⟨r, [], rfl, by rw [lead0 (by omega)]; rfl, by omega, by simp⟩
  by_cases h4 : r ≤ 2047
  · simp only [if_neg h3, if_pos h4] at h2 ⊢
    exact ⟨_, _, rfl, by rw [lead1 (by omega) (by omega)]; rfl, h2 _ (.head _), fun x hx => h2 x (.tail _ hx)⟩
  by_cases h5 : r ≤ 65535
  · simp only [if_neg h3, if_neg h4, if_pos h5] at h2 ⊢
    exact ⟨_, _, rfl, by rw [lead2 (by omega) (by omega)]; rfl, h2 _ (.head _), fun x hx => h2 x (.tail _ hx)⟩
  · simp only [if_neg h3, if_neg h4, if_neg h5] at h2 ⊢
    exact ⟨_, _, rfl, by rw [lead3 (by omega)]; rfl, h2 _ (.head _), fun x hx => h2 x (.tail _ hx)⟩
end Go.Proofs.Eng
