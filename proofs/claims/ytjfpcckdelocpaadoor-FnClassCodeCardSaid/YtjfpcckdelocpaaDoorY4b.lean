/- A part of the proof: what functions of the program do, step by step. -/
import Derived.Test.YtjfpcckdelocpaaDoorY4
set_option linter.unusedVariables false
set_option linter.unusedSimpArgs false
namespace Go.Proofs.Eng
open Go.RowKit
/-- An instruction in its block. -/
theorem PoolOk.at {M : List Pool} {r i : Nat} {l : List In} (h : PoolOk M r l) (hi : i < l.length) :
    ∃ M1 g L M2, M = M1 ++ (g, L) :: M2 ∧ L.length = 16 ∧ L[i % 16]? = l[i]? ∧ gAt (M1 ++ (g, L) :: M2) i = g ∧ ∀ x, PoolOk (M1 ++ (g, L.set (i % 16) x) :: M2) r (l.set i x) := by
  have hc := h.count
  have hr := h.r16
  have hk : i / 16 < M.length := by omega
  obtain ⟨p, hp⟩ : ∃ p, p = M[i / 16] := ⟨_, rfl⟩
  obtain ⟨g, L⟩ := p
  have hM : M = M.take (i / 16) ++ (g, L) :: M.drop (i / 16 + 1) := by
    rw [hp, List.getElem_cons_drop, List.take_append_drop]
  have hl1 : (M.take (i / 16)).length = i / 16 := by rw [List.length_take]; omega
  generalize M.take (i / 16) = M1 at hM hl1
  generalize M.drop (i / 16 + 1) = M2 at hM
  clear hp
  subst hM
  have h16 : ∀ x ∈ M1, x.2.length = 16 := fun x hx => h.len x (by simp [hx])
  have hL : L.length = 16 := h.len (g, L) (by simp)
  have hm := h.mem
  have e0 : memL (M1 ++ (g, L) :: M2) = memL M1 ++ (L ++ memL M2) := by simp [memL]
  rw [e0] at hm
  have l1 : (memL M1).length = i / 16 * 16 := by rw [memL_len h16, hl1]
  refine ⟨M1, g, L, M2, rfl, hL, ?_, ?_, ?_⟩
  · have e1 : (memL M1 ++ (L ++ memL M2))[i]? = L[i % 16]? := by
      rw [List.getElem?_append_right (by omega), l1, show i - i / 16 * 16 = i % 16 by omega, List.getElem?_append_left (by omega)]
    rw [← e1, hm, List.getElem?_append_left hi]
  · unfold gAt
    rw [List.getD_eq_getElem?_getD, ← hl1, List.getElem?_append_right (Nat.le_refl _), Nat.sub_self]
    rfl
  · intro x
    refine ⟨?_, hr, by simpa using hc, ?_, by simp⟩
    · intro y hy
      simp only [List.mem_append, List.mem_cons] at hy
      rcases hy with hy | rfl | hy
      · exact h16 y hy
      · simpa using hL
      · exact h.len y (by simp [hy])
    · have e2 : memL (M1 ++ (g, L.set (i % 16) x) :: M2) = memL M1 ++ (L.set (i % 16) x ++ memL M2) := by simp [memL]
      rw [e2, ← List.set_append_left _ _ hi, ← hm, List.set_append_right _ _ (by omega), l1, show i - i / 16 * 16 = i % 16 by omega, List.set_append_left _ _ (by omega)]
end Go.Proofs.Eng
