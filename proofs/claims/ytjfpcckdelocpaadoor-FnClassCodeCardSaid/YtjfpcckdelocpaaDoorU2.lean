/- A part of the proof: what functions of the program do, step by step. -/
import Derived.Test.YtjfpcckdelocpaaDoorU1
set_option linter.unusedVariables false
set_option linter.unusedSimpArgs false
set_option maxRecDepth 10000
namespace Go.Proofs.Eng
/-- What the first byte says: how many bytes, and its share. -/
def wideN (c : Nat) : Nat × Nat :=
  if c ≤ 127 then (1, c) else if 194 ≤ c ∧ c ≤ 223 then (2, c - 192) else if 224 ≤ c ∧ c ≤ 239 then (3, c - 224) else if 240 ≤ c ∧ c ≤ 244 then (4, c - 240) else (0, 0)
def fold64 (r : Int) : List Nat → Int
  | [] => r
  | x :: l => fold64 (64 * r + x - 128) l
theorem fold64_nil (r : Int) : fold64 r [] = r := rfl
theorem fold64_cons (r : Int) (x : Nat) (l : List Nat) : fold64 r (x :: l) = fold64 (64 * r + x - 128) l := rfl
theorem fold64_snoc (l : List Nat) (r : Int) (x : Nat) : fold64 r (l ++ [x]) = 64 * fold64 r l + x - 128 := by
  induction l generalizing r with
  | nil => rfl
  | cons y l ih => exact ih _
theorem wideN_le (c : Nat) : (wideN c).1 ≤ 4 := by
  unfold wideN
  split
  · simp
  · split
    · simp
    · split
      · simp
      · split <;> simp
theorem let_dec {c n r0 r : Nat} {t : List Nat} (hw : wideN c = (n, r0)) (hn : 0 < n) (ht : t.length + 1 = n) (htl : ∀ x ∈ t, 128 ≤ x ∧ x ≤ 191) (hr : (r : Int) = fold64 (r0 : Nat) t) (hl : (encN r).length = n) (hm : r ≤ 1114111) : c :: t = encN r := by
  rw [encN_len] at hl
  unfold wideN at hw
  split at hw
  · simp only [Prod.mk.injEq] at hw
    obtain ⟨rfl, rfl⟩ := hw
    rcases t with _ | ⟨x, u⟩
    · have hr' : (r : Int) = (c : Nat) := hr
      have hr2 : r = c := by omega
      rw [hr2, encN1 (by assumption)]
    · simp only [List.length_cons] at ht; omega
  · split at hw
    · rename_i hc
      simp only [Prod.mk.injEq] at hw
      obtain ⟨rfl, rfl⟩ := hw
      rcases t with _ | ⟨x, _ | ⟨y, u⟩⟩
      · simp only [List.length_nil] at ht; omega
      rotate_left 1
      · simp only [List.length_cons] at ht; omega
      · have h1 := htl x (by simp)
        have hr : (r : Int) = 64 * ((c - 192 : Nat) : Int) + x - 128 := hr
        have hr2 : 127 < r ∧ r ≤ 2047 := by
          constructor <;> omega
        rw [encN2 hr2.1 hr2.2]
        simp only [List.cons.injEq, and_true]
        omega
    · split at hw
      · rename_i hc
        simp only [Prod.mk.injEq] at hw
        obtain ⟨rfl, rfl⟩ := hw
        rcases t with _ | ⟨x, _ | ⟨y, _ | ⟨z, u⟩⟩⟩
        · simp only [List.length_nil] at ht; omega
        · simp only [List.length_cons, List.length_nil] at ht; omega
        rotate_left 1
        · simp only [List.length_cons] at ht; omega
        · have h1 := htl x (by simp)
          have h2 := htl y (by simp)
          have hr : (r : Int) = 64 * (64 * ((c - 224 : Nat) : Int) + x - 128) + y - 128 := hr
          have hr2 : 2047 < r ∧ r ≤ 65535 := by
            by_cases e1 : r ≤ 127
            · rw [if_pos e1] at hl; omega
            · rw [if_neg e1] at hl
              by_cases e2 : r ≤ 2047
              · rw [if_pos e2] at hl; omega
              · rw [if_neg e2] at hl
                by_cases e3 : r ≤ 65535
                · exact ⟨by omega, e3⟩
                · rw [if_neg e3] at hl; omega
          rw [encN3 hr2.1 hr2.2]
          have k1 : r / 64 = 64 * (c - 224) + x - 128 := by omega
          have k2 : r / 64 / 64 = c - 224 := by omega
          simp only [List.cons.injEq, and_true]
          omega
      · split at hw
        · rename_i hc
          simp only [Prod.mk.injEq] at hw
          obtain ⟨rfl, rfl⟩ := hw
          rcases t with _ | ⟨x, _ | ⟨y, _ | ⟨z, _ | ⟨v, u⟩⟩⟩⟩
          · simp only [List.length_nil] at ht; omega
          · simp only [List.length_cons, List.length_nil] at ht; omega
          · simp only [List.length_cons, List.length_nil] at ht; omega
          rotate_left 1
          · simp only [List.length_cons] at ht; omega
          · have h1 := htl x (by simp)
            have h2 := htl y (by simp)
            have h3 := htl z (by simp)
            have hr1 : (r : Int) = 64 * (64 * (64 * ((c - 240 : Nat) : Int) + x - 128) + y - 128) + z - 128 := hr
            have hr : r = 64 * (64 * (64 * (c - 240) + (x - 128)) + (y - 128)) + (z - 128) := by omega
            clear hr1
            have hr2 : 65535 < r := by
              by_cases e1 : r ≤ 127
              · rw [if_pos e1] at hl; omega
              · rw [if_neg e1] at hl
                by_cases e2 : r ≤ 2047
                · rw [if_pos e2] at hl; omega
                · rw [if_neg e2] at hl
                  by_cases e3 : r ≤ 65535
                  · rw [if_pos e3] at hl; omega
                  · omega
            rw [encN4 hr2]
            generalize hq : 64 * (64 * (c - 240) + (x - 128)) + (y - 128) = q at hr
            have k1 : r / 64 = q := by omega
            have k0 : r % 64 = z - 128 := by omega
            generalize hq2 : 64 * (c - 240) + (x - 128) = q2 at hq
            have k2 : q / 64 = q2 := by omega
            have k3 : q % 64 = y - 128 := by omega
            have k4 : q2 / 64 = c - 240 := by omega
            have k5 : q2 % 64 = x - 128 := by omega
            rw [k1, k2, k3, k4, k5, k0]
            simp only [List.cons.injEq, and_true]
            omega
        · simp only [Prod.mk.injEq] at hw
          omega
theorem let_enc {r : Nat} (hL : isL r) : ∃ c t n r0, encN r = c :: t ∧ wideN c = (n, r0) ∧ t.length + 1 = n ∧ (∀ x ∈ t, 128 ≤ x ∧ x ≤ 191) ∧ fold64 (r0 : Nat) t = (r : Nat) := by
  obtain ⟨hm, hh⟩ := hL
  by_cases h1 : r ≤ 127
  · exact ⟨r, [], 1, r, encN1 h1, by simp [wideN, h1], rfl, by simp, rfl⟩
  by_cases h2 : r ≤ 2047
  · refine ⟨_, _, 2, r / 64, encN2 (by omega) h2, ?_, rfl, ?_, ?_⟩
    · unfold wideN
      rw [if_neg (by omega), if_pos (by omega)]
      simp
    · intro x hx
      simp at hx
      omega
    · rw [fold64_cons, fold64_nil]; omega
  by_cases h3 : r ≤ 65535
  · refine ⟨_, _, 3, r / 64 / 64, encN3 (by omega) h3, ?_, rfl, ?_, ?_⟩
    · unfold wideN
      rw [if_neg (by omega), if_neg (by omega), if_pos (by omega)]
      simp
    · intro x hx
      simp at hx
      omega
    · rw [fold64_cons, fold64_cons, fold64_nil]; omega
  · refine ⟨_, _, 4, r / 64 / 64 / 64, encN4 (by omega), ?_, rfl, ?_, ?_⟩
    · unfold wideN
      rw [if_neg (by omega), if_neg (by omega), if_neg (by omega), if_pos (by omega)]
      simp
    · intro x hx
      simp at hx
      omega
    · rw [fold64_cons, fold64_cons, fold64_cons, fold64_nil]
      omega
/-- What a reader of one letter tells. -/
def LetS (b : List Nat) (r n : Nat) : Prop := (0 < n → n = b.length → isL r ∧ b = encN r) ∧ ∀ r', isL r' → b = encN r' → r = r' ∧ n = b.length ∧ 0 < n
theorem LetS.none {b : List Nat} (h : ∀ r', isL r' → ¬ b = encN r') : LetS b 0 0 := ⟨fun h => by omega, fun r' h1 h2 => absurd h2 (h r' h1)⟩
theorem LetS.iff {b : List Nat} {r n lo hi : Nat} (h : LetS b r n) : (0 < n ∧ n = b.length ∧ lo ≤ r ∧ r ≤ hi) ↔ ∃ r', isL r' ∧ lo ≤ r' ∧ r' ≤ hi ∧ b = encN r' := by
  constructor
  · rintro ⟨h1, h2, h3, h4⟩
    obtain ⟨h5, h6⟩ := h.1 h1 h2
    exact ⟨r, h5, h3, h4, h6⟩
  · rintro ⟨r', h1, h2, h3, h4⟩
    obtain ⟨rfl, h6, h7⟩ := h.2 r' h1 h4
    exact ⟨h7, h6, h2, h3⟩
/-! ### The ranges -/
structure GoodL (lo hi : Nat) (L : List (Nat × Nat)) : Prop where
  al : ∀ p ∈ L, Al p.1 p.2 ∧ lo ≤ p.1 ∧ p.2 ≤ hi
  asc : L.Pairwise (fun p q => p.2 < q.1)
  all : ∀ r, isL r → lo ≤ r → r ≤ hi → ∃ p ∈ L, p.1 ≤ r ∧ r ≤ p.2
theorem Al.letter {s e r : Nat} (h : Al s e) (h1 : s ≤ r) (h2 : r ≤ e) : isL r := ⟨by have := h.most; omega, by have := h.half; omega⟩
theorem GoodL.cov {lo hi : Nat} {L : List (Nat × Nat)} (h : GoodL lo hi L) (b : List Nat) : (∃ p ∈ L, covB (seqOf p.1 p.2) b = true) ↔ ∃ r, isL r ∧ lo ≤ r ∧ r ≤ hi ∧ b = encN r := by
  constructor
  · rintro ⟨p, hp, hc⟩
    obtain ⟨ha, hlo, hhi⟩ := h.al p hp
    obtain ⟨r, h1, h2, h3⟩ := (cov_iff ha b).1 hc
    exact ⟨r, ha.letter h1 h2, by omega, by omega, h3⟩
  · rintro ⟨r, hL, h1, h2, h3⟩
    obtain ⟨p, hp, h4, h5⟩ := h.all r hL h1 h2
    exact ⟨p, hp, (cov_iff (h.al p hp).1 b).2 ⟨r, h4, h5, h3⟩⟩
/-- The state of the work: what is done, what is left (the first of it is at work). -/
structure WorkL (lo hi : Nat) (L Q : List (Nat × Nat)) : Prop where
  al : ∀ p ∈ L, Al p.1 p.2
  inn : ∀ p ∈ L ++ Q, lo ≤ p.1 ∧ p.2 ≤ hi ∧ (p.1 ≤ p.2 ∨ 55295 ≤ p.2) ∧ p.1 ≤ 1114111
  asc : (L ++ Q).Pairwise (fun p q => p.2 < q.1)
  all : ∀ r, isL r → lo ≤ r → r ≤ hi → ∃ p ∈ L ++ Q, p.1 ≤ r ∧ r ≤ p.2
def wt (p : Nat × Nat) : Nat := if p.1 ≤ p.2 then 4 * (p.2 + 1 - p.1) - 1 else 1
def wts (Q : List (Nat × Nat)) : Nat := (Q.map wt).sum
theorem WorkL.start {lo hi : Nat} (h : lo ≤ hi) (hm : hi ≤ 1114111) : WorkL lo hi [] [(lo, hi)] :=
  ⟨fun p hp => (by cases hp), fun p hp => (by simp at hp; subst hp; exact ⟨Nat.le_refl _, Nat.le_refl _, .inl h, by dsimp only; omega⟩), (by simp), fun r _ h1 h2 => ⟨(lo, hi), by simp, h1, h2⟩⟩
theorem WorkL.done {lo hi : Nat} {L : List (Nat × Nat)} (h : WorkL lo hi L []) : GoodL lo hi L := by
  obtain ⟨h1, h2, h3, h4⟩ := h
  rw [List.append_nil] at h2 h3 h4
  exact ⟨fun p hp => ⟨h1 p hp, (h2 p hp).1, (h2 p hp).2.1⟩, h3, h4⟩
/-- A range is cut in two. -/
theorem WorkL.cut {lo hi : Nat} {L Q : List (Nat × Nat)} {s e a b : Nat} (h : WorkL lo hi L ((s, e) :: Q)) (h1 : a < b) (h2 : s ≤ b) (h3 : a ≤ e) (h4 : lo ≤ b) (h5 : a ≤ hi)
    (hs : s ≤ a ∨ 55295 ≤ a) (he : b ≤ e ∨ 55295 ≤ e) (hb : b ≤ 1114111) (hall : ∀ r, isL r → s ≤ r → r ≤ e → r ≤ a ∨ b ≤ r) : WorkL lo hi L ((s, a) :: (b, e) :: Q) := by
  have h0 := h.inn (s, e) (by simp)
  dsimp only at h0
  refine ⟨h.al, ?_, ?_, ?_⟩
  · intro p hp
    simp only [List.mem_append, List.mem_cons] at hp
    rcases hp with hp | rfl | rfl | hp
    · exact h.inn p (by simp [hp])
    · exact ⟨h0.1, h5, hs, h0.2.2.2⟩
    · exact ⟨h4, h0.2.1, he, hb⟩
    · exact h.inn p (by simp [hp])
  · have ha := h.asc
    rw [List.pairwise_append] at ha ⊢
    obtain ⟨p1, p2, p3⟩ := ha
    rw [List.pairwise_cons] at p2
    refine ⟨p1, ?_, ?_⟩
    · rw [List.pairwise_cons, List.pairwise_cons]
      refine ⟨?_, ?_, p2.2⟩
      · intro q hq
        rcases List.mem_cons.1 hq with rfl | hq
        · exact h1
        · have := p2.1 q hq; dsimp only at this ⊢; omega
      · intro q hq
        have := p2.1 q hq; dsimp only at this ⊢; omega
    · intro p hp q hq
      have k := p3 p hp (s, e) (by simp)
      dsimp only at k
      simp only [List.mem_cons] at hq
      rcases hq with rfl | rfl | hq
      · exact k
      · dsimp only; omega
      · exact p3 p hp q (by simp [hq])
  · intro r hL k1 k2
    obtain ⟨p, hp, k3, k4⟩ := h.all r hL k1 k2
    simp only [List.mem_append, List.mem_cons] at hp
    rcases hp with hp | rfl | hp
    · exact ⟨p, by simp [hp], k3, k4⟩
    · rcases hall r hL k3 k4 with k5 | k5
      · exact ⟨(s, a), by simp, k3, k5⟩
      · exact ⟨(b, e), by simp, k5, k4⟩
    · exact ⟨p, by simp [hp], k3, k4⟩
/-- A range that holds no letter is left out. -/
theorem WorkL.drop {lo hi : Nat} {L Q : List (Nat × Nat)} {s e : Nat} (h : WorkL lo hi L ((s, e) :: Q)) (h1 : ∀ r, isL r → s ≤ r → ¬ r ≤ e) : WorkL lo hi L Q := by
  refine ⟨h.al, fun p hp => h.inn p (by simp at hp ⊢; rcases hp with h | h <;> simp [h]), ?_, ?_⟩
  · refine h.asc.sublist ?_
    exact List.Sublist.append (List.Sublist.refl _) (List.sublist_cons_self _ _)
  · intro r hL k1 k2
    obtain ⟨p, hp, k3, k4⟩ := h.all r hL k1 k2
    simp only [List.mem_append, List.mem_cons] at hp
    rcases hp with hp | rfl | hp
    · exact ⟨p, by simp [hp], k3, k4⟩
    · exact absurd k4 (h1 r hL k3)
    · exact ⟨p, by simp [hp], k3, k4⟩
/-- A range is done. -/
theorem WorkL.emit {lo hi : Nat} {L Q : List (Nat × Nat)} {s e : Nat} (h : WorkL lo hi L ((s, e) :: Q)) (ha : Al s e) : WorkL lo hi (L ++ [(s, e)]) Q := by
  refine ⟨?_, ?_, ?_, ?_⟩
  · intro p hp
    rcases List.mem_append.1 hp with hp | hp
    · exact h.al p hp
    · simp at hp; subst hp; exact ha
  · simpa using h.inn
  · simpa using h.asc
  · simpa using h.all
theorem wts_cut {Q : List (Nat × Nat)} {s e a b : Nat} (h1 : s ≤ a) (h2 : a + 1 = b) (h3 : b ≤ e) : wts ((s, a) :: (b, e) :: Q) < wts ((s, e) :: Q) := by
  simp only [wts, List.map_cons, List.sum_cons, wt]
  rw [if_pos h1, if_pos h3, if_pos (by omega)]
  omega
theorem wts_half {Q : List (Nat × Nat)} {s e : Nat} (h0 : s ≤ e) (h1 : s < 57344) (h2 : 55295 < e) : wts ((s, 55295) :: (57344, e) :: Q) < wts ((s, e) :: Q) := by
  simp only [wts, List.map_cons, List.sum_cons, wt]
  rw [if_pos h0]
  split <;> split <;> omega
theorem wts_pop {Q : List (Nat × Nat)} {p : Nat × Nat} : wts Q < wts (p :: Q) := by
  simp only [wts, List.map_cons, List.sum_cons, wt]
  split <;> omega
end Go.Proofs.Eng
