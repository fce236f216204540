/- A part of the proof: what functions of the program do, step by step. -/
import Init
set_option linter.unusedVariables false
set_option linter.unusedSimpArgs false
namespace Go.Proofs.Eng
/-- A letter. -/
def isL (r : Nat) : Prop := r ≤ 1114111 ∧ (r < 55296 ∨ 57343 < r)
/-- The bytes of a number. -/
def encN (r : Nat) : List Nat :=
  if r ≤ 127 then [r]
  else if r ≤ 2047 then [192 + r / 64, 128 + r % 64]
  else if r ≤ 65535 then [224 + r / 4096, 128 + r / 64 % 64, 128 + r % 64]
  else [240 + r / 262144, 128 + r / 4096 % 64, 128 + r / 64 % 64, 128 + r % 64]
def covB : List (Nat × Nat) → List Nat → Bool
  | [], [] => true
  | q :: qs, b :: bs => decide (q.1 ≤ b) && decide (b ≤ q.2) && covB qs bs
  | _, _ => false
def seqOf (s e : Nat) : List (Nat × Nat) := (encN s).zip (encN e)
/-- A range whose letters have their bytes in ranges, place by place. -/
structure Al (s e : Nat) : Prop where
  le : s ≤ e
  most : e ≤ 1114111
  half : e < 55296 ∨ 57343 < s
  wide : e ≤ 127 ∨ (127 < s ∧ e ≤ 2047) ∨ (2047 < s ∧ e ≤ 65535) ∨ 65535 < s
  a1 : 127 < e → s / 64 = e / 64 ∨ (s % 64 = 0 ∧ e % 64 = 63)
  a2 : 127 < e → s / 4096 = e / 4096 ∨ (s % 4096 = 0 ∧ e % 4096 = 4095)
  a3 : 127 < e → s / 262144 = e / 262144 ∨ (s % 262144 = 0 ∧ e % 262144 = 262143)
theorem encN1 {r : Nat} (h : r ≤ 127) : encN r = [r] := by simp [encN, h]
theorem encN2 {r : Nat} (h : 127 < r) (h2 : r ≤ 2047) : encN r = [192 + r / 64, 128 + r % 64] := by
  simp [encN, show ¬ r ≤ 127 by omega, h2]
theorem encN3 {r : Nat} (h : 2047 < r) (h2 : r ≤ 65535) : encN r = [224 + r / 64 / 64, 128 + r / 64 % 64, 128 + r % 64] := by
  simp [encN, show ¬ r ≤ 127 by omega, show ¬ r ≤ 2047 by omega, h2, Nat.div_div_eq_div_mul]
theorem encN4 {r : Nat} (h : 65535 < r) : encN r = [240 + r / 64 / 64 / 64, 128 + r / 64 / 64 % 64, 128 + r / 64 % 64, 128 + r % 64] := by
  simp [encN, show ¬ r ≤ 127 by omega, show ¬ r ≤ 2047 by omega, show ¬ r ≤ 65535 by omega, Nat.div_div_eq_div_mul]
theorem low {s e r : Nat} (h1 : s ≤ r) (h2 : r ≤ e) (a : s / 64 = e / 64 ∨ (s % 64 = 0 ∧ e % 64 = 63)) : s % 64 ≤ r % 64 ∧ r % 64 ≤ e % 64 ∧ s / 64 ≤ r / 64 ∧ r / 64 ≤ e / 64 := by omega
theorem high {s e q d : Nat} (h1 : s / 64 ≤ q) (h2 : q ≤ e / 64) (h3 : s % 64 ≤ d) (h4 : d ≤ e % 64) : s ≤ q * 64 + d ∧ q * 64 + d ≤ e ∧ (q * 64 + d) / 64 = q ∧ (q * 64 + d) % 64 = d := by omega
theorem up2 {s e : Nat} (a : s / 4096 = e / 4096 ∨ (s % 4096 = 0 ∧ e % 4096 = 4095)) : s / 64 / 64 = e / 64 / 64 ∨ (s / 64 % 64 = 0 ∧ e / 64 % 64 = 63) := by omega
theorem up3 {s e : Nat} (a : s / 262144 = e / 262144 ∨ (s % 262144 = 0 ∧ e % 262144 = 262143)) : s / 64 / 64 / 64 = e / 64 / 64 / 64 ∨ (s / 64 / 64 % 64 = 0 ∧ e / 64 / 64 % 64 = 63) := by omega
/-- Bytes are within the ranges just if they are those of a letter of the range. -/
theorem cov_iff {s e : Nat} (h : Al s e) (b : List Nat) : covB (seqOf s e) b = true ↔ ∃ r, s ≤ r ∧ r ≤ e ∧ b = encN r := by
  obtain ⟨hle, hmost, hhalf, hw, a1, a2, a3⟩ := h
  unfold seqOf
  rcases hw with hw | ⟨hw, hw2⟩ | ⟨hw, hw2⟩ | hw
  · rw [encN1 (by omega), encN1 hw]
    constructor
    · intro hc
      match b with
      | [] => simp [covB] at hc
      | [x] =>
        simp [covB] at hc
        exact ⟨x, hc.1, hc.2, by rw [encN1 (by omega)]⟩
      | x :: y :: r => simp [covB] at hc
    · rintro ⟨r, h1, h2, rfl⟩
      rw [encN1 (by omega)]
      simp [covB]
      omega
  · rw [encN2 hw (by omega), encN2 (by omega) hw2]
    have a1 := a1 (by omega)
    constructor
    · intro hc
      match b with
      | [] => simp [covB] at hc
      | [x] => simp [covB] at hc
      | [x, y] =>
        simp [covB] at hc
        obtain ⟨k1, k2, k3, k4⟩ := high (s := s) (e := e) (q := x - 192) (d := y - 128) (by omega) (by omega) (by omega) (by omega)
        refine ⟨(x - 192) * 64 + (y - 128), k1, k2, ?_⟩
        rw [encN2 (by omega) (by omega), k3, k4]
        simp only [List.cons.injEq, and_true]
        omega
      | x :: y :: z :: r => simp [covB] at hc
    · rintro ⟨r, h1, h2, rfl⟩
      have l1 := low h1 h2 a1
      rw [encN2 (by omega) (by omega)]
      simp [covB]
      omega
  · rw [encN3 hw (by omega), encN3 (by omega) hw2]
    have a1 := a1 (by omega)
    have a2 := up2 (a2 (by omega))
    constructor
    · intro hc
      match b with
      | [] => simp [covB] at hc
      | [x] => simp [covB] at hc
      | [x, y] => simp [covB] at hc
      | [x, y, z] =>
        simp [covB] at hc
        obtain ⟨m1, m2, m3, m4⟩ := high (s := s / 64) (e := e / 64) (q := x - 224) (d := y - 128) (by omega) (by omega) (by omega) (by omega)
        obtain ⟨k1, k2, k3, k4⟩ := high (s := s) (e := e) (q := (x - 224) * 64 + (y - 128)) (d := z - 128) m1 m2 (by omega) (by omega)
        refine ⟨((x - 224) * 64 + (y - 128)) * 64 + (z - 128), k1, k2, ?_⟩
        rw [encN3 (by omega) (by omega), k3, k4, m3, m4]
        simp only [List.cons.injEq, and_true]
        omega
      | x :: y :: z :: u :: r => simp [covB] at hc
    · rintro ⟨r, h1, h2, rfl⟩
      have l1 := low h1 h2 a1
      have l2 := low l1.2.2.1 l1.2.2.2 a2
      rw [encN3 (by omega) (by omega)]
      simp only [List.zip_cons_cons, List.zip_nil_left, covB, Bool.and_eq_true, decide_eq_true_eq, and_true]
      refine ⟨⟨?_, ?_⟩, ⟨?_, ?_⟩, ?_, ?_⟩ <;> omega
  · rw [encN4 hw, encN4 (by omega)]
    have a1 := a1 (by omega)
    have a2 := up2 (a2 (by omega))
    have a3 := up3 (a3 (by omega))
    constructor
    · intro hc
      match b with
      | [] => simp [covB] at hc
      | [x] => simp [covB] at hc
      | [x, y] => simp [covB] at hc
      | [x, y, z] => simp [covB] at hc
      | [x, y, z, u] =>
        simp [covB] at hc
        obtain ⟨⟨c1, c2⟩, ⟨c3, c4⟩, ⟨c5, c6⟩, c7, c8⟩ := hc
        obtain ⟨p1, p2, p3, p4⟩ := high (s := s / 64 / 64) (e := e / 64 / 64) (q := x - 240) (d := y - 128) (by omega) (by omega) (by omega) (by omega)
        obtain ⟨m1, m2, m3, m4⟩ := high (s := s / 64) (e := e / 64) (q := (x - 240) * 64 + (y - 128)) (d := z - 128) p1 p2 (by omega) (by omega)
        obtain ⟨k1, k2, k3, k4⟩ := high (s := s) (e := e) (q := ((x - 240) * 64 + (y - 128)) * 64 + (z - 128)) (d := u - 128) m1 m2 (by omega) (by omega)
        refine ⟨(((x - 240) * 64 + (y - 128)) * 64 + (z - 128)) * 64 + (u - 128), k1, k2, ?_⟩
        rw [encN4 (by omega), k3, k4, m3, m4, p3, p4]
        clear p1 p2 p3 p4 m1 m2 m3 m4 k1 k2 k3 k4 a1 a2 a3
        simp only [List.cons.injEq, and_true]
        omega
      | x :: y :: z :: u :: v :: r => simp [covB] at hc
    · rintro ⟨r, h1, h2, rfl⟩
      have l1 := low h1 h2 a1
      have l2 := low l1.2.2.1 l1.2.2.2 a2
      have l3 := low l2.2.2.1 l2.2.2.2 a3
      rw [encN4 (by omega)]
      clear a1 a2 a3 h1 h2
      simp only [List.zip_cons_cons, List.zip_nil_left, covB, Bool.and_eq_true, decide_eq_true_eq, and_true]
      refine ⟨⟨?_, ?_⟩, ⟨?_, ?_⟩, ⟨?_, ?_⟩, ?_, ?_⟩ <;> omega
theorem encN_len (r : Nat) : (encN r).length = if r ≤ 127 then 1 else if r ≤ 2047 then 2 else if r ≤ 65535 then 3 else 4 := by
  unfold encN
  split
  · rfl
  · split
    · rfl
    · split <;> rfl
theorem encN_len_mono {r s : Nat} (h : r ≤ s) : (encN r).length ≤ (encN s).length := by
  rw [encN_len, encN_len]
  by_cases h1 : r ≤ 127
  · rw [if_pos h1]; split <;> (try split) <;> (try split) <;> omega
  · rw [if_neg h1, if_neg (show ¬ s ≤ 127 by omega)]
    by_cases h2 : r ≤ 2047
    · rw [if_pos h2]; split <;> (try split) <;> omega
    · rw [if_neg h2, if_neg (show ¬ s ≤ 2047 by omega)]
      by_cases h3 : r ≤ 65535
      · rw [if_pos h3]; split <;> omega
      · rw [if_neg h3, if_neg (show ¬ s ≤ 65535 by omega)]; omega
end Go.Proofs.Eng

set_option linter.unusedVariables false
set_option linter.unusedSimpArgs false
set_option maxRecDepth 10000
namespace Go.Proofs.Eng
/-- What the first byte says: how many bytes, and its share. -/
def wideN (c : Nat) : Nat × Nat :=
  if c ≤ 127 then (1, c) else if 194 ≤ c ∧ c ≤ 223 then (2, c - 192) else if 224 ≤ c ∧ c ≤ 239 then (3, c - 224) else if 240 ≤ c ∧ c ≤ 244 then (4, c - 240) else (0, 0)
def fold64 (r : Int) : List Nat → Int
  | [] => r
  | x :: l => fold64 (64 * r + x - 128) l
theorem fold64_nil (r : Int) : fold64 r [] = r := rfl
theorem fold64_cons (r : Int) (x : Nat) (l : List Nat) : fold64 r (x :: l) = fold64 (64 * r + x - 128) l := rfl
theorem fold64_snoc (l : List Nat) (r : Int) (x : Nat) : fold64 r (l ++ [x]) = 64 * fold64 r l + x - 128 := by
  induction l generalizing r with
  | nil => rfl
  | cons y l ih => exact ih _
theorem wideN_le (c : Nat) : (wideN c).1 ≤ 4 := by
  unfold wideN
  split
  · simp
  · split
    · simp
    · split
      · simp
      · split <;> simp
theorem let_dec {c n r0 r : Nat} {t : List Nat} (hw : wideN c = (n, r0)) (hn : 0 < n) (ht : t.length + 1 = n) (htl : ∀ x ∈ t, 128 ≤ x ∧ x ≤ 191) (hr : (r : Int) = fold64 (r0 : Nat) t) (hl : (encN r).length = n) (hm : r ≤ 1114111) : c :: t = encN r := by
  rw [encN_len] at hl
  unfold wideN at hw
  split at hw
  · simp only [Prod.mk.injEq] at hw
    obtain ⟨rfl, rfl⟩ := hw
    rcases t with _ | ⟨x, u⟩
    · have hr' : (r : Int) = (c : Nat) := hr
      have hr2 : r = c := by omega
      rw [hr2, encN1 (by assumption)]
    · simp only [List.length_cons] at ht; omega
  · split at hw
    · rename_i hc
      simp only [Prod.mk.injEq] at hw
      obtain ⟨rfl, rfl⟩ := hw
      rcases t with _ | ⟨x, _ | ⟨y, u⟩⟩
      · simp only [List.length_nil] at ht; omega
      rotate_left 1
      · simp only [List.length_cons] at ht; omega
      · have h1 := htl x (by simp)
        have hr : (r : Int) = 64 * ((c - 192 : Nat) : Int) + x - 128 := hr
        have hr2 : 127 < r ∧ r ≤ 2047 := by
          constructor <;> omega
        rw [encN2 hr2.1 hr2.2]
        simp only [List.cons.injEq, and_true]
        omega
    · split at hw
      · rename_i hc
        simp only [Prod.mk.injEq] at hw
        obtain ⟨rfl, rfl⟩ := hw
        rcases t with _ | ⟨x, _ | ⟨y, _ | ⟨z, u⟩⟩⟩
        · simp only [List.length_nil] at ht; omega
        · simp only [List.length_cons, List.length_nil] at ht; omega
        rotate_left 1
        · simp only [List.length_cons] at ht; omega
        · have h1 := htl x (by simp)
          have h2 := htl y (by simp)
          have hr : (r : Int) = 64 * (64 * ((c - 224 : Nat) : Int) + x - 128) + y - 128 := hr
          have hr2 : 2047 < r ∧ r ≤ 65535 := by
            by_cases e1 : r ≤ 127
            · rw [if_pos e1] at hl; omega
            · rw [if_neg e1] at hl
              by_cases e2 : r ≤ 2047
              · rw [if_pos e2] at hl; omega
              · rw [if_neg e2] at hl
                by_cases e3 : r ≤ 65535
                · exact ⟨by omega, e3⟩
                · rw [if_neg e3] at hl; omega
          rw [encN3 hr2.1 hr2.2]
          have k1 : r / 64 = 64 * (c - 224) + x - 128 := by omega
          have k2 : r / 64 / 64 = c - 224 := by omega
          simp only [List.cons.injEq, and_true]
          omega
      · split at hw
        · rename_i hc
          simp only [Prod.mk.injEq] at hw
          obtain ⟨rfl, rfl⟩ := hw
          rcases t with _ | ⟨x, _ | ⟨y, _ | ⟨z, _ | ⟨v, u⟩⟩⟩⟩
          · simp only [List.length_nil] at ht; omega
          · simp only [List.length_cons, List.length_nil] at ht; omega
          · simp only [List.length_cons, List.length_nil] at ht; omega
          rotate_left 1
          · simp only [List.length_cons] at ht; omega
          · have h1 := htl x (by simp)
            have h2 := htl y (by simp)
            have h3 := htl z (by simp)
            have hr1 : (r : Int) = 64 * (64 * (64 * ((c - 240 : Nat) : Int) + x - 128) + y - 128) + z - 128 := hr
            have hr : r = 64 * (64 * (64 * (c - 240) + (x - 128)) + (y - 128)) + (z - 128) := by omega
            clear hr1
            have hr2 : 65535 < r := by
              by_cases e1 : r ≤ 127
              · rw [if_pos e1] at hl; omega
              · rw [if_neg e1] at hl
                by_cases e2 : r ≤ 2047
                · rw [if_pos e2] at hl; omega
                · rw [if_neg e2] at hl
                  by_cases e3 : r ≤ 65535
                  · rw [if_pos e3] at hl; omega
                  · omega
            rw [encN4 hr2]
            generalize hq : 64 * (64 * (c - 240) + (x - 128)) + (y - 128) = q at hr
            have k1 : r / 64 = q := by omega
            have k0 : r % 64 = z - 128 := by omega
            generalize hq2 : 64 * (c - 240) + (x - 128) = q2 at hq
            have k2 : q / 64 = q2 := by omega
            have k3 : q % 64 = y - 128 := by omega
            have k4 : q2 / 64 = c - 240 := by omega
            have k5 : q2 % 64 = x - 128 := by omega
            rw [k1, k2, k3, k4, k5, k0]
            simp only [List.cons.injEq, and_true]
            omega
        · simp only [Prod.mk.injEq] at hw
          omega
theorem let_enc {r : Nat} (hL : isL r) : ∃ c t n r0, encN r = c :: t ∧ wideN c = (n, r0) ∧ t.length + 1 = n ∧ (∀ x ∈ t, 128 ≤ x ∧ x ≤ 191) ∧ fold64 (r0 : Nat) t = (r : Nat) := by
  obtain ⟨hm, hh⟩ := hL
  by_cases h1 : r ≤ 127
  · exact ⟨r, [], 1, r, encN1 h1, by simp [wideN, h1], rfl, by simp, rfl⟩
  by_cases h2 : r ≤ 2047
  · refine ⟨_, _, 2, r / 64, encN2 (by omega) h2, ?_, rfl, ?_, ?_⟩
    · unfold wideN
      rw [if_neg (by omega), if_pos (by omega)]
      simp
    · intro x hx
      simp at hx
      omega
    · rw [fold64_cons, fold64_nil]; omega
  by_cases h3 : r ≤ 65535
  · refine ⟨_, _, 3, r / 64 / 64, encN3 (by omega) h3, ?_, rfl, ?_, ?_⟩
    · unfold wideN
      rw [if_neg (by omega), if_neg (by omega), if_pos (by omega)]
      simp
    · intro x hx
      simp at hx
      omega
    · rw [fold64_cons, fold64_cons, fold64_nil]; omega
  · refine ⟨_, _, 4, r / 64 / 64 / 64, encN4 (by omega), ?_, rfl, ?_, ?_⟩
    · unfold wideN
      rw [if_neg (by omega), if_neg (by omega), if_neg (by omega), if_pos (by omega)]
      simp
    · intro x hx
      simp at hx
      omega
    · rw [fold64_cons, fold64_cons, fold64_cons, fold64_nil]
      omega
/-- What a reader of one letter tells. -/
def LetS (b : List Nat) (r n : Nat) : Prop := (0 < n → n = b.length → isL r ∧ b = encN r) ∧ ∀ r', isL r' → b = encN r' → r = r' ∧ n = b.length ∧ 0 < n
theorem LetS.none {b : List Nat} (h : ∀ r', isL r' → ¬ b = encN r') : LetS b 0 0 := ⟨fun h => by omega, fun r' h1 h2 => absurd h2 (h r' h1)⟩
theorem LetS.iff {b : List Nat} {r n lo hi : Nat} (h : LetS b r n) : (0 < n ∧ n = b.length ∧ lo ≤ r ∧ r ≤ hi) ↔ ∃ r', isL r' ∧ lo ≤ r' ∧ r' ≤ hi ∧ b = encN r' := by
  constructor
  · rintro ⟨h1, h2, h3, h4⟩
    obtain ⟨h5, h6⟩ := h.1 h1 h2
    exact ⟨r, h5, h3, h4, h6⟩
  · rintro ⟨r', h1, h2, h3, h4⟩
    obtain ⟨rfl, h6, h7⟩ := h.2 r' h1 h4
    exact ⟨h7, h6, h2, h3⟩
/-! ### The ranges -/
structure GoodL (lo hi : Nat) (L : List (Nat × Nat)) : Prop where
  al : ∀ p ∈ L, Al p.1 p.2 ∧ lo ≤ p.1 ∧ p.2 ≤ hi
  asc : L.Pairwise (fun p q => p.2 < q.1)
  all : ∀ r, isL r → lo ≤ r → r ≤ hi → ∃ p ∈ L, p.1 ≤ r ∧ r ≤ p.2
theorem Al.letter {s e r : Nat} (h : Al s e) (h1 : s ≤ r) (h2 : r ≤ e) : isL r := ⟨by have := h.most; omega, by have := h.half; omega⟩
theorem GoodL.cov {lo hi : Nat} {L : List (Nat × Nat)} (h : GoodL lo hi L) (b : List Nat) : (∃ p ∈ L, covB (seqOf p.1 p.2) b = true) ↔ ∃ r, isL r ∧ lo ≤ r ∧ r ≤ hi ∧ b = encN r := by
  constructor
  · rintro ⟨p, hp, hc⟩
    obtain ⟨ha, hlo, hhi⟩ := h.al p hp
    obtain ⟨r, h1, h2, h3⟩ := (cov_iff ha b).1 hc
    exact ⟨r, ha.letter h1 h2, by omega, by omega, h3⟩
  · rintro ⟨r, hL, h1, h2, h3⟩
    obtain ⟨p, hp, h4, h5⟩ := h.all r hL h1 h2
    exact ⟨p, hp, (cov_iff (h.al p hp).1 b).2 ⟨r, h4, h5, h3⟩⟩
/-- The state of the work: what is done, what is left (the first of it is at work). -/
structure WorkL (lo hi : Nat) (L Q : List (Nat × Nat)) : Prop where
  al : ∀ p ∈ L, Al p.1 p.2
  inn : ∀ p ∈ L ++ Q, lo ≤ p.1 ∧ p.2 ≤ hi ∧ (p.1 ≤ p.2 ∨ 55295 ≤ p.2) ∧ p.1 ≤ 1114111
  asc : (L ++ Q).Pairwise (fun p q => p.2 < q.1)
  all : ∀ r, isL r → lo ≤ r → r ≤ hi → ∃ p ∈ L ++ Q, p.1 ≤ r ∧ r ≤ p.2
def wt (p : Nat × Nat) : Nat := if p.1 ≤ p.2 then 4 * (p.2 + 1 - p.1) - 1 else 1
def wts (Q : List (Nat × Nat)) : Nat := (Q.map wt).sum
theorem WorkL.start {lo hi : Nat} (h : lo ≤ hi) (hm : hi ≤ 1114111) : WorkL lo hi [] [(lo, hi)] :=
  ⟨fun p hp => (by cases hp), fun p hp => (by simp at hp; subst hp; exact ⟨Nat.le_refl _, Nat.le_refl _, .inl h, by dsimp only; omega⟩), (by simp), fun r _ h1 h2 => ⟨(lo, hi), by simp, h1, h2⟩⟩
theorem WorkL.done {lo hi : Nat} {L : List (Nat × Nat)} (h : WorkL lo hi L []) : GoodL lo hi L := by
  obtain ⟨h1, h2, h3, h4⟩ := h
  rw [List.append_nil] at h2 h3 h4
  exact ⟨fun p hp => ⟨h1 p hp, (h2 p hp).1, (h2 p hp).2.1⟩, h3, h4⟩
/-- A range is cut in two. -/
theorem WorkL.cut {lo hi : Nat} {L Q : List (Nat × Nat)} {s e a b : Nat} (h : WorkL lo hi L ((s, e) :: Q)) (h1 : a < b) (h2 : s ≤ b) (h3 : a ≤ e) (h4 : lo ≤ b) (h5 : a ≤ hi)
    (hs : s ≤ a ∨ 55295 ≤ a) (he : b ≤ e ∨ 55295 ≤ e) (hb : b ≤ 1114111) (hall : ∀ r, isL r → s ≤ r → r ≤ e → r ≤ a ∨ b ≤ r) : WorkL lo hi L ((s, a) :: (b, e) :: Q) := by
  have h0 := h.inn (s, e) (by simp)
  dsimp only at h0
  refine ⟨h.al, ?_, ?_, ?_⟩
  · intro p hp
    simp only [List.mem_append, List.mem_cons] at hp
    rcases hp with hp | rfl | rfl | hp
    · exact h.inn p (by simp [hp])
    · exact ⟨h0.1, h5, hs, h0.2.2.2⟩
    · exact ⟨h4, h0.2.1, he, hb⟩
    · exact h.inn p (by simp [hp])
  · have ha := h.asc
    rw [List.pairwise_append] at ha ⊢
    obtain ⟨p1, p2, p3⟩ := ha
    rw [List.pairwise_cons] at p2
    refine ⟨p1, ?_, ?_⟩
    · rw [List.pairwise_cons, List.pairwise_cons]
      refine ⟨?_, ?_, p2.2⟩
      · intro q hq
        rcases List.mem_cons.1 hq with rfl | hq
        · exact h1
        · have := p2.1 q hq; dsimp only at this ⊢; omega
      · intro q hq
        have := p2.1 q hq; dsimp only at this ⊢; omega
    · intro p hp q hq
      have k := p3 p hp (s, e) (by simp)
      dsimp only at k
      simp only [List.mem_cons] at hq
      rcases hq with rfl | rfl | hq
      · exact k
      · dsimp only; omega
      · exact p3 p hp q (by simp [hq])
  · intro r hL k1 k2
    obtain ⟨p, hp, k3, k4⟩ := h.all r hL k1 k2
    simp only [List.mem_append, List.mem_cons] at hp
    rcases hp with hp | rfl | hp
    · exact ⟨p, by simp [hp], k3, k4⟩
    · rcases hall r hL k3 k4 with k5 | k5
      · exact ⟨(s, a), by simp, k3, k5⟩
      · exact ⟨(b, e), by simp, k5, k4⟩
    · exact ⟨p, by simp [hp], k3, k4⟩
/-- A range that holds no letter is left out. -/
theorem WorkL.drop {lo hi : Nat} {L Q : List (Nat × Nat)} {s e : Nat} (h : WorkL lo hi L ((s, e) :: Q)) (h1 : ∀ r, isL r → s ≤ r → ¬ r ≤ e) : WorkL lo hi L Q := by
  refine ⟨h.al, fun p hp => h.inn p (by simp at hp ⊢; rcases hp with h | h <;> simp [h]), ?_, ?_⟩
  · refine h.asc.sublist ?_
    exact List.Sublist.append (List.Sublist.refl _) (List.sublist_cons_self _ _)
  · intro r hL k1 k2
    obtain ⟨p, hp, k3, k4⟩ := h.all r hL k1 k2
    simp only [List.mem_append, List.mem_cons] at hp
    rcases hp with hp | rfl | hp
    · exact ⟨p, by simp [hp], k3, k4⟩
    · exact absurd k4 (h1 r hL k3)
    · exact ⟨p, by simp [hp], k3, k4⟩
/-- A range is done. -/
theorem WorkL.emit {lo hi : Nat} {L Q : List (Nat × Nat)} {s e : Nat} (h : WorkL lo hi L ((s, e) :: Q)) (ha : Al s e) : WorkL lo hi (L ++ [(s, e)]) Q := by
  refine ⟨?_, ?_, ?_, ?_⟩
  · intro p hp
    rcases List.mem_append.1 hp with hp | hp
    · exact h.al p hp
    · simp at hp; subst hp; exact ha
  · simpa using h.inn
  · simpa using h.asc
  · simpa using h.all
theorem wts_cut {Q : List (Nat × Nat)} {s e a b : Nat} (h1 : s ≤ a) (h2 : a + 1 = b) (h3 : b ≤ e) : wts ((s, a) :: (b, e) :: Q) < wts ((s, e) :: Q) := by
  simp only [wts, List.map_cons, List.sum_cons, wt]
  rw [if_pos h1, if_pos h3, if_pos (by omega)]
  omega
theorem wts_half {Q : List (Nat × Nat)} {s e : Nat} (h0 : s ≤ e) (h1 : s < 57344) (h2 : 55295 < e) : wts ((s, 55295) :: (57344, e) :: Q) < wts ((s, e) :: Q) := by
  simp only [wts, List.map_cons, List.sum_cons, wt]
  rw [if_pos h0]
  split <;> split <;> omega
theorem wts_pop {Q : List (Nat × Nat)} {p : Nat × Nat} : wts Q < wts (p :: Q) := by
  simp only [wts, List.map_cons, List.sum_cons, wt]
  split <;> omega
end Go.Proofs.Eng
