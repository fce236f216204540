/- A part of the proof: what functions of the program do, step by step. -/
import Init
set_option linter.unusedVariables false
set_option linter.unusedSimpArgs false
namespace Go.Proofs.Eng
/-- A letter. -/
def isL (r : Nat) : Prop := r ≤ 1114111 ∧ (r < 55296 ∨ 57343 < r)
/-- The bytes of a number. -/
def encN (r : Nat) : List Nat :=
  if r ≤ 127 then [r]
  else if r ≤ 2047 then [192 + r / 64, 128 + r % 64]
  else if r ≤ 65535 then [224 + r / 4096, 128 + r / 64 % 64, 128 + r % 64]
  else [240 + r / 262144, 128 + r / 4096 % 64, 128 + r / 64 % 64, 128 + r % 64]
def covB : List (Nat × Nat) → List Nat → Bool
  | [], [] => true
  | q :: qs, b :: bs => decide (q.1 ≤ b) && decide (b ≤ q.2) && covB qs bs
  | _, _ => false
def seqOf (s e : Nat) : List (Nat × Nat) := (encN s).zip (encN e)
/-- A range whose letters have their bytes in ranges, place by place. -/
structure Al (s e : Nat) : Prop where
  le : s ≤ e
  most : e ≤ 1114111
  half : e < 55296 ∨ 57343 < s
  wide : e ≤ 127 ∨ (127 < s ∧ e ≤ 2047) ∨ (2047 < s ∧ e ≤ 65535) ∨ 65535 < s
  a1 : 127 < e → s / 64 = e / 64 ∨ (s % 64 = 0 ∧ e % 64 = 63)
  a2 : 127 < e → s / 4096 = e / 4096 ∨ (s % 4096 = 0 ∧ e % 4096 = 4095)
  a3 : 127 < e → s / 262144 = e / 262144 ∨ (s % 262144 = 0 ∧ e % 262144 = 262143)
theorem encN1 {r : Nat} (h : r ≤ 127) : encN r = [r] := by simp [encN, h]
theorem encN2 {r : Nat} (h : 127 < r) (h2 : r ≤ 2047) : encN r = [192 + r / 64, 128 + r % 64] := by
  simp [encN, show ¬ r ≤ 127 by omega, h2]
theorem encN3 {r : Nat} (h : 2047 < r) (h2 : r ≤ 65535) : encN r = [224 + r / 64 / 64, 128 + r / 64 % 64, 128 + r % 64] := by
  simp [encN, show ¬ r ≤ 127 by omega, show ¬ r ≤ 2047 by omega, h2, Nat.div_div_eq_div_mul]
theorem encN4 {r : Nat} (h : 65535 < r) : encN r = [240 + r / 64 / 64 / 64, 128 + r / 64 / 64 % 64, 128 + r / 64 % 64, 128 + r % 64] := by
  simp [encN, show ¬ r ≤ 127 by omega, show ¬ r ≤ 2047 by omega, show ¬ r ≤ 65535 by omega, Nat.div_div_eq_div_mul]
theorem low {s e r : Nat} (h1 : s ≤ r) (h2 : r ≤ e) (a : s / 64 = e / 64 ∨ (s % 64 = 0 ∧ e % 64 = 63)) : s % 64 ≤ r % 64 ∧ r % 64 ≤ e % 64 ∧ s / 64 ≤ r / 64 ∧ r / 64 ≤ e / 64 := by omega
theorem high {s e q d : Nat} (h1 : s / 64 ≤ q) (h2 : q ≤ e / 64) (h3 : s % 64 ≤ d) (h4 : d ≤ e % 64) : s ≤ q * 64 + d ∧ q * 64 + d ≤ e ∧ (q * 64 + d) / 64 = q ∧ (q * 64 + d) % 64 = d := by omega
theorem up2 {s e : Nat} (a : s / 4096 = e / 4096 ∨ (s % 4096 = 0 ∧ e % 4096 = 4095)) : s / 64 / 64 = e / 64 / 64 ∨ (s / 64 % 64 = 0 ∧ e / 64 % 64 = 63) := by omega
theorem up3 {s e : Nat} (a : s / 262144 = e / 262144 ∨ (s % 262144 = 0 ∧ e % 262144 = 262143)) : s / 64 / 64 / 64 = e / 64 / 64 / 64 ∨ (s / 64 / 64 % 64 = 0 ∧ e / 64 / 64 % 64 = 63) := by omega
/-- Bytes are within the ranges just if they are those of a letter of the range. -/
theorem cov_iff {s e : Nat} (h : Al s e) (b : List Nat) : covB (seqOf s e) b = true ↔ ∃ r, s ≤ r ∧ r ≤ e ∧ b = encN r := by
  obtain ⟨hle, hmost, hhalf, hw, a1, a2, a3⟩ := h
  unfold seqOf
  rcases hw with hw | ⟨hw, hw2⟩ | ⟨hw, hw2⟩ | hw
  · rw [encN1 (by omega), encN1 hw]
    constructor
    · intro hc
      match b with
      | [] => simp [covB] at hc
      | [x] =>
        simp [covB] at hc
        exact ⟨x, hc.1, hc.2, by rw [encN1 (by omega)]⟩
      | x :: y :: r => simp [covB] at hc
    · rintro ⟨r, h1, h2, rfl⟩
      rw [encN1 (by omega)]
      simp [covB]
      omega
  · rw [encN2 hw (by omega), encN2 (by omega) hw2]
    have a1 := a1 (by omega)
    constructor
    · intro hc
      match b with
      | [] => simp [covB] at hc
      | [x] => simp [covB] at hc
      | [x, y] =>
        simp [covB] at hc
        obtain ⟨k1, k2, k3, k4⟩ := high (s := s) (e := e) (q := x - 192) (d := y - 128) (by omega) (by omega) (by omega) (by omega)
        refine ⟨(x - 192) * 64 + (y - 128), k1, k2, ?_⟩
        rw [encN2 (by omega) (by omega), k3, k4]
        simp only [List.cons.injEq, and_true]
        omega
      | x :: y :: z :: r => simp [covB] at hc
    · rintro ⟨r, h1, h2, rfl⟩
      have l1 := low h1 h2 a1
      rw [encN2 (by omega) (by omega)]
      simp [covB]
      omega
  · rw [encN3 hw (by omega), encN3 (by omega) hw2]
    have a1 := a1 (by omega)
    have a2 := up2 (a2 (by omega))
    constructor
    · intro hc
      match b with
      | [] => simp [covB] at hc
      | [x] => simp [covB] at hc
      | [x, y] => simp [covB] at hc
      | [x, y, z] =>
        simp [covB] at hc
        obtain ⟨m1, m2, m3, m4⟩ := high (s := s / 64) (e := e / 64) (q := x - 224) (d := y - 128) (by omega) (by omega) (by omega) (by omega)
        obtain ⟨k1, k2, k3, k4⟩ := high (s := s) (e := e) (q := (x - 224) * 64 + (y - 128)) (d := z - 128) m1 m2 (by omega) (by omega)
        refine ⟨((x - 224) * 64 + (y - 128)) * 64 + (z - 128), k1, k2, ?_⟩
        rw [encN3 (by omega) (by omega), k3, k4, m3, m4]
        simp only [List.cons.injEq, and_true]
        omega
      | x :: y :: z :: u :: r => simp [covB] at hc
    · rintro ⟨r, h1, h2, rfl⟩
      have l1 := low h1 h2 a1
      have l2 := low l1.2.2.1 l1.2.2.2 a2
      rw [encN3 (by omega) (by omega)]
      simp only [List.zip_cons_cons, List.zip_nil_left, covB, Bool.and_eq_true, decide_eq_true_eq, and_true]
      refine ⟨⟨?_, ?_⟩, ⟨?_, ?_⟩, ?_, ?_⟩ <;> omega
  · rw [encN4 hw, encN4 (by omega)]
    have a1 := a1 (by omega)
    have a2 := up2 (a2 (by omega))
    have a3 := up3 (a3 (by omega))
    constructor
    · intro hc
      match b with
      | [] => simp [covB] at hc
      | [x] => simp [covB] at hc
      | [x, y] => simp [covB] at hc
      | [x, y, z] => simp [covB] at hc
      | [x, y, z, u] =>
        simp [covB] at hc
        obtain ⟨⟨c1, c2⟩, ⟨c3, c4⟩, ⟨c5, c6⟩, c7, c8⟩ := hc
        obtain ⟨p1, p2, p3, p4⟩ := high (s := s / 64 / 64) (e := e / 64 / 64) (q := x - 240) (d := y - 128) (by omega) (by omega) (by omega) (by omega)
        obtain ⟨m1, m2, m3, m4⟩ := high (s := s / 64) (e := e / 64) (q := (x - 240) * 64 + (y - 128)) (d := z - 128) p1 p2 (by omega) (by omega)
        obtain ⟨k1, k2, k3, k4⟩ := high (s := s) (e := e) (q := ((x - 240) * 64 + (y - 128)) * 64 + (z - 128)) (d := u - 128) m1 m2 (by omega) (by omega)
        refine ⟨(((x - 240) * 64 + (y - 128)) * 64 + (z - 128)) * 64 + (u - 128), k1, k2, ?_⟩
        rw [encN4 (by omega), k3, k4, m3, m4, p3, p4]
        clear p1 p2 p3 p4 m1 m2 m3 m4 k1 k2 k3 k4 a1 a2 a3
        simp only [List.cons.injEq, and_true]
        omega
      | x :: y :: z :: u :: v :: r => simp [covB] at hc
    · rintro ⟨r, h1, h2, rfl⟩
      have l1 := low h1 h2 a1
      have l2 := low l1.2.2.1 l1.2.2.2 a2
      have l3 := low l2.2.2.1 l2.2.2.2 a3
      rw [encN4 (by omega)]
      clear a1 a2 a3 h1 h2
      simp only [List.zip_cons_cons, List.zip_nil_left, covB, Bool.and_eq_true, decide_eq_true_eq, and_true]
      refine ⟨⟨?_, ?_⟩, ⟨?_, ?_⟩, ⟨?_, ?_⟩, ?_, ?_⟩ <;> omega
theorem encN_len (r : Nat) : (encN r).length = if r ≤ 127 then 1 else if r ≤ 2047 then 2 else if r ≤ 65535 then 3 else 4 := by
  unfold encN
  split
  · rfl
  · split
    · rfl
    · split <;> rfl
theorem encN_len_mono {r s : Nat} (h : r ≤ s) : (encN r).length ≤ (encN s).length := by
  rw [encN_len, encN_len]
  by_cases h1 : r ≤ 127
  · rw [if_pos h1]; split <;> (try split) <;> (try split) <;> omega
  · rw [if_neg h1, if_neg (show ¬ s ≤ 127 by omega)]
    by_cases h2 : r ≤ 2047
    · rw [if_pos h2]; split <;> (try split) <;> omega
    · rw [if_neg h2, if_neg (show ¬ s ≤ 2047 by omega)]
      by_cases h3 : r ≤ 65535
      · rw [if_pos h3]; split <;> omega
      · rw [if_neg h3, if_neg (show ¬ s ≤ 65535 by omega)]; omega
end Go.Proofs.Eng
