/- A part of the proof: what functions of the program do, step by step. -/
import Derived.Test.YtjfpcckdelocpaaDoorU2
set_option linter.unusedVariables false
set_option linter.unusedSimpArgs false
namespace Go.Proofs.Eng
def leastN (n : Nat) : Nat := if n = 2 then 128 else if n = 3 then 2048 else if n = 4 then 65536 else 0
def tails (t : List Nat) : Prop := ∀ x ∈ t, 128 ≤ x ∧ x ≤ 191
theorem enc_of {c n r0 r : Nat} {t : List Nat} (hw : wideN c = (n, r0)) (hL : isL r) (h : c :: t = encN r) : t.length + 1 = n ∧ tails t ∧ fold64 (r0 : Nat) t = (r : Nat) ∧ leastN n ≤ r := by
  obtain ⟨c', u, n', r0', h1, h2, h3, h4, h5⟩ := let_enc hL
  have hl := congrArg List.length h
  rw [h1, List.cons.injEq] at h
  obtain ⟨rfl, rfl⟩ := h
  rw [hw, Prod.mk.injEq] at h2
  obtain ⟨rfl, rfl⟩ := h2
  refine ⟨h3, h4, h5, ?_⟩
  rw [encN_len, List.length_cons, h3] at hl
  unfold leastN
  split
  · split at hl
    · omega
    · omega
  · split
    · split at hl
      · omega
      · split at hl <;> omega
    · split
      · split at hl
        · omega
        · split at hl
          · omega
          · split at hl <;> omega
      · omega
theorem rune_none {c n r0 : Nat} {t : List Nat} (hw : wideN c = (n, r0)) (h : t.length + 1 = n → tails t → ∀ r : Nat, isL r → fold64 (r0 : Nat) t = (r : Nat) → leastN n ≤ r → False) : LetS (c :: t) 0 0 :=
  LetS.none (fun r hL e => by
    obtain ⟨h1, h2, h3, h4⟩ := enc_of hw hL e
    exact h h1 h2 r hL h3 h4)
theorem fold64_lt (t : List Nat) (r : Int) (h : tails t) (h0 : 0 ≤ r) : 0 ≤ fold64 r t ∧ fold64 r t < (r + 1) * 64 ^ t.length := by
  induction t generalizing r with
  | nil => rw [fold64_nil]; simp; omega
  | cons x t ih =>
    have hx := h x (by simp)
    have := ih (64 * r + x - 128) (fun y hy => h y (by simp [hy])) (by omega)
    rw [fold64_cons, List.length_cons, Int.pow_succ]
    refine ⟨this.1, Int.lt_of_lt_of_le this.2 ?_⟩
    have hp : (0 : Int) ≤ 64 ^ t.length := Int.pow_nonneg (by omega)
    have h1 : (64 * r + x - 128 + 1) ≤ (r + 1) * 64 := by omega
    have h2 := Int.mul_le_mul_of_nonneg_right h1 hp
    have e : (r + 1) * (64 ^ t.length * 64) = (r + 1) * 64 * 64 ^ t.length := by rw [Int.mul_assoc, Int.mul_comm 64]
    rw [e]
    exact h2
theorem rune_some {c n r0 v : Nat} {t : List Nat} (hw : wideN c = (n, r0)) (hn : 0 < n) (hnl : n ≤ t.length + 1) (ht : tails (t.take (n - 1))) (hv : fold64 (r0 : Nat) (t.take (n - 1)) = (v : Nat)) (hl : leastN n ≤ v) (hL : isL v) : LetS (c :: t) v n := by
  have hb := fold64_lt (t.take (n - 1)) r0 ht (by omega)
  rw [hv, List.length_take, show min (n - 1) t.length = n - 1 by omega] at hb
  constructor
  · intro _ hnl2
    rw [List.length_cons] at hnl2
    have htk : t.take (n - 1) = t := List.take_of_length_le (by omega)
    rw [htk] at ht hv
    refine ⟨hL, let_dec hw hn (by omega) ht hv.symm ?_ hL.1⟩
    have hb2 := hb.2
    rw [encN_len]
    unfold wideN at hw
    unfold leastN at hl
    split at hw
    · simp only [Prod.mk.injEq] at hw
      obtain ⟨rfl, rfl⟩ := hw
      simp at hb2
      rw [if_pos (by omega)]
    · split at hw
      · simp only [Prod.mk.injEq] at hw
        obtain ⟨rfl, rfl⟩ := hw
        simp at hb2 hl
        rw [if_neg (by omega), if_pos (by omega)]
      · split at hw
        · simp only [Prod.mk.injEq] at hw
          obtain ⟨rfl, rfl⟩ := hw
          simp at hb2 hl
          rw [if_neg (by omega), if_neg (by omega), if_pos (by omega)]
        · split at hw
          · simp only [Prod.mk.injEq] at hw
            obtain ⟨rfl, rfl⟩ := hw
            simp at hb2 hl
            rw [if_neg (by omega), if_neg (by omega), if_neg (by omega)]
          · simp only [Prod.mk.injEq] at hw
            omega
  · intro r hL' e
    obtain ⟨h1, h2, h3, h4⟩ := enc_of hw hL' e
    have htk : t.take (n - 1) = t := List.take_of_length_le (by omega)
    rw [htk] at hv
    refine ⟨?_, by simp; omega, hn⟩
    rw [hv] at h3
    omega
end Go.Proofs.Eng
