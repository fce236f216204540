/- Plain facts on the bytes of letters, and on what a reader of one letter tells. -/
import Derived.Test.YtiadbheejlhimaaU1
import Derived.Test.YtiadbheejlhimaaU2
import Derived.Test.YtiadbheejlhimaaEngL
set_option linter.unusedVariables false
set_option linter.unusedSimpArgs false
namespace Go.Proofs.Eng
open Go.RowKit
def u8s (l : List Nat) : List Value := l.map fun (x : Nat) => .int .u8 x
theorem encN_len4 (r : Nat) : (encN r).length ≤ 4 := by
  rw [encN_len]
  split
  · omega
  · split
    · omega
    · split <;> omega
/-- A letter, told of a whole number. -/
def isLI (r : Int) : Prop := 0 ≤ r ∧ r ≤ 1114111 ∧ (r < 55296 ∨ 57343 < r)
theorem u8s_at {b : List Nat} {i : Nat} (h : i < b.length) : (u8s b)[i]? = some (.int .u8 (b[i] : Nat)) := by simp [u8s, h]
theorem u8s_len (b : List Nat) : (u8s b).length = b.length := by simp [u8s]
theorem encN_le (r : Nat) (hr : r ≤ 1114111) : ∀ x ∈ encN r, x ≤ 255 := by
  intro x hx
  unfold encN at hx
  split at hx
  · simp at hx; omega
  · split at hx
    · simp at hx; omega
    · split at hx
      · simp at hx; omega
      · simp at hx; omega
theorem u8s_snoc (l : List Nat) (x : Nat) : u8s (l ++ [x]) = u8s l ++ [.int .u8 (x : Nat)] := by simp [u8s]
/-- What spec.Letter tells of bytes: the letter at their beginning and how many bytes it has; or none. -/
def LetP (b : List Nat) (r n : Nat) : Prop := (n = 0 ∧ r = 0 ∧ ∀ r' t, isL r' → ¬ b = encN r' ++ t) ∨ (isL r ∧ n = (encN r).length ∧ ∃ t, b = encN r ++ t)
theorem enc_facts {c : Nat} {rest t : List Nat} {n r0 r : Nat} (hw : wideN c = (n, r0)) (hL : isL r) (h : c :: rest = encN r ++ t) :
    0 < n ∧ n ≤ rest.length + 1 ∧ (∀ x ∈ rest.take (n - 1), 128 ≤ x ∧ x ≤ 191) ∧ fold64 (r0 : Nat) (rest.take (n - 1)) = (r : Nat) ∧ (encN r).length = n := by
  obtain ⟨c', u, n', r0', h1, h2, h3, h4, h5⟩ := let_enc hL
  rw [h1, List.cons_append, List.cons.injEq] at h
  obtain ⟨rfl, h⟩ := h
  rw [hw, Prod.mk.injEq] at h2
  obtain ⟨rfl, rfl⟩ := h2
  have e : rest.take (n - 1) = u := by rw [h, ← h3]; simp
  rw [e, h1]
  refine ⟨by omega, by rw [h]; simp; omega, h4, h5, by simpa using h3⟩
theorem encN_pre {r r' : Nat} {t t' : List Nat} (h : isL r) (h' : isL r') (e : encN r ++ t = encN r' ++ t') : r = r' ∧ t = t' := by
  obtain ⟨c, u, n, r0, h1, h2, h3, h4, h5⟩ := let_enc h
  have f := enc_facts h2 h (t := t) (rest := u ++ t) (by rw [h1]; rfl)
  have f' := enc_facts h2 h' (t := t') (rest := u ++ t) (by rw [← e, h1]; rfl)
  have : r = r' := by have := f.2.2.2.1.symm.trans f'.2.2.2.1; omega
  subst this
  exact ⟨rfl, List.append_cancel_left e⟩
theorem encN_pos (r : Nat) : 0 < (encN r).length := by
  rw [encN_len]
  split
  · omega
  · split
    · omega
    · split <;> omega
theorem LetP.s {b : List Nat} {r n : Nat} (h : LetP b r n) : LetS b r n := by
  rcases h with ⟨rfl, rfl, h⟩ | ⟨h1, h2, t, h3⟩
  · exact LetS.none (fun r' hL e => h r' [] hL (by simpa using e))
  · refine ⟨fun _ hn => ⟨h1, ?_⟩, fun r' hL e => ?_⟩
    · have hl := congrArg List.length h3
      rw [List.length_append] at hl
      have : t = [] := List.length_eq_zero_iff.1 (by omega)
      rw [h3, this, List.append_nil]
    · have := encN_pre h1 hL (t := t) (t' := []) (by rw [← h3, e, List.append_nil])
      obtain ⟨rfl, rfl⟩ := this
      exact ⟨rfl, by rw [h2, e], by rw [h2]; exact encN_pos r⟩
def bndL (i : Nat) : Nat := if i ≤ 1 then 128 else if i ≤ 2 then 8192 else if i ≤ 3 then 524288 else 33554432
theorem bndL_up {i : Nat} (h1 : 1 ≤ i) (h4 : i < 4) : 64 * bndL i ≤ bndL (i + 1) := by
  have : i = 1 ∨ i = 2 ∨ i = 3 := by omega
  rcases this with rfl | rfl | rfl <;> decide
theorem bndL_le (i : Nat) : bndL i ≤ 33554432 := by
  unfold bndL
  split
  · omega
  · split
    · omega
    · split <;> omega
theorem wideN_lt {c n r0 : Nat} (hw : wideN c = (n, r0)) : r0 + 1 ≤ 128 := by
  unfold wideN at hw
  split at hw
  · cases hw; omega
  · split at hw
    · cases hw; omega
    · split at hw
      · cases hw; omega
      · split at hw
        · cases hw; omega
        · cases hw; omega
end Go.Proofs.Eng
