/- A part of the proof: what functions of the program do, step by step. -/
import Derived.Test.YtiadbheejlhimaaXg
set_option linter.unusedVariables false
set_option linter.unusedSimpArgs false
namespace Go.Proofs.Eng
/-! ### The distance by vectors: the table, with as many letters of the query as one likes -/
def stepD (b : Bool) (x y z : Nat) : Nat := if b = true then min (min x y + 1) z else min (min x y + 1) (z + 1)
def Dd (sw : Bool) (V : Nat → Nat → Bool) : Nat → Nat → Nat
  | 0, k => k
  | i + 1, 0 => i + 1
  | 1, k + 1 => stepD (V 0 k) (Dd sw V 0 (k + 1)) (Dd sw V 1 k) (Dd sw V 0 k)
  | i + 2, 1 => stepD (V (i + 1) 0) (Dd sw V (i + 1) 1) (Dd sw V (i + 2) 0) (Dd sw V (i + 1) 0)
  | i + 2, k + 2 => if (sw && V (i + 1) k && V i (k + 1)) = true then min (stepD (V (i + 1) (k + 1)) (Dd sw V (i + 1) (k + 2)) (Dd sw V (i + 2) (k + 1)) (Dd sw V (i + 1) (k + 1))) (Dd sw V i k + 1)
    else stepD (V (i + 1) (k + 1)) (Dd sw V (i + 1) (k + 2)) (Dd sw V (i + 2) (k + 1)) (Dd sw V (i + 1) (k + 1))
termination_by i k => (i, k)
section
variable {sw : Bool} {V : Nat → Nat → Bool}
theorem D_0 (k : Nat) : Dd sw V 0 k = k := by conv => lhs; rw [Dd]
theorem D_10 (i : Nat) : Dd sw V (i + 1) 0 = i + 1 := by conv => lhs; rw [Dd]
theorem D_11 (k : Nat) : Dd sw V 1 (k + 1) = stepD (V 0 k) (Dd sw V 0 (k + 1)) (Dd sw V 1 k) (Dd sw V 0 k) := by conv => lhs; rw [Dd]
theorem D_21 (i : Nat) : Dd sw V (i + 2) 1 = stepD (V (i + 1) 0) (Dd sw V (i + 1) 1) (Dd sw V (i + 2) 0) (Dd sw V (i + 1) 0) := by conv => lhs; rw [Dd]
theorem D_22 (i k : Nat) : Dd sw V (i + 2) (k + 2) = if (sw && V (i + 1) k && V i (k + 1)) = true then min (stepD (V (i + 1) (k + 1)) (Dd sw V (i + 1) (k + 2)) (Dd sw V (i + 2) (k + 1)) (Dd sw V (i + 1) (k + 1))) (Dd sw V i k + 1)
    else stepD (V (i + 1) (k + 1)) (Dd sw V (i + 1) (k + 2)) (Dd sw V (i + 2) (k + 1)) (Dd sw V (i + 1) (k + 1)) := by conv => lhs; rw [Dd]
theorem D_le (i k : Nat) : Dd sw V (i + 1) (k + 1) ≤ stepD (V i k) (Dd sw V i (k + 1)) (Dd sw V (i + 1) k) (Dd sw V i k) := by
  match i, k with
  | 0, k => rw [D_11]; exact Nat.le_refl _
  | i + 1, 0 => rw [D_21]; exact Nat.le_refl _
  | i + 1, k + 1 =>
    rw [D_22]
    split
    · exact Nat.min_le_left _ _
    · exact Nat.le_refl _
theorem stepD_le (b : Bool) (x y z : Nat) : stepD b x y z ≤ x + 1 ∧ stepD b x y z ≤ y + 1 ∧ stepD b x y z ≤ z + 1 ∧ (b = true → stepD b x y z ≤ z) := by
  unfold stepD
  split
  · refine ⟨by omega, by omega, by omega, fun _ => by omega⟩
  · rename_i h
    exact ⟨by omega, by omega, by omega, fun e => absurd e h⟩
theorem D_ins (i k : Nat) : Dd sw V (i + 1) k ≤ Dd sw V i k + 1 := by
  cases k with
  | zero =>
    rw [D_10]
    cases i with
    | zero => rw [D_0]; omega
    | succ i => rw [D_10]; omega
  | succ k => exact Nat.le_trans (D_le i k) (stepD_le _ _ _ _).1
theorem D_del (i k : Nat) : Dd sw V i (k + 1) ≤ Dd sw V i k + 1 := by
  cases i with
  | zero => rw [D_0, D_0]; omega
  | succ i => exact Nat.le_trans (D_le i k) (stepD_le _ _ _ _).2.1
theorem D_sub (i k : Nat) : Dd sw V (i + 1) (k + 1) ≤ Dd sw V i k + 1 := Nat.le_trans (D_le i k) (stepD_le _ _ _ _).2.2.1
theorem D_match {i k : Nat} (h : V i k = true) : Dd sw V (i + 1) (k + 1) ≤ Dd sw V i k := Nat.le_trans (D_le i k) ((stepD_le _ _ _ _).2.2.2 h)
theorem D_trans {i k : Nat} (hs : sw = true) (h1 : V (i + 1) k = true) (h2 : V i (k + 1) = true) : Dd sw V (i + 2) (k + 2) ≤ Dd sw V i k + 1 := by
  rw [D_22, if_pos (by rw [hs, h1, h2]; rfl)]
  exact Nat.min_le_right _ _
theorem stepD_att (b : Bool) (x y z : Nat) : stepD b x y z = x + 1 ∨ stepD b x y z = y + 1 ∨ (b = true ∧ stepD b x y z = z) ∨ stepD b x y z = z + 1 := by
  unfold stepD
  split
  · rename_i h
    have : min (min x y + 1) z = x + 1 ∨ min (min x y + 1) z = y + 1 ∨ min (min x y + 1) z = z := by omega
    rcases this with e | e | e
    · exact .inl e
    · exact .inr (.inl e)
    · exact .inr (.inr (.inl ⟨h, e⟩))
  · have : min (min x y + 1) (z + 1) = x + 1 ∨ min (min x y + 1) (z + 1) = y + 1 ∨ min (min x y + 1) (z + 1) = z + 1 := by omega
    rcases this with e | e | e
    · exact .inl e
    · exact .inr (.inl e)
    · exact .inr (.inr (.inr e))
theorem D_eq (i k : Nat) : Dd sw V (i + 1) (k + 1) = stepD (V i k) (Dd sw V i (k + 1)) (Dd sw V (i + 1) k) (Dd sw V i k) ∨
    ∃ i' k', i = i' + 1 ∧ k = k' + 1 ∧ sw = true ∧ V (i' + 1) k' = true ∧ V i' (k' + 1) = true ∧ Dd sw V (i + 1) (k + 1) = Dd sw V i' k' + 1 := by
  match i, k with
  | 0, k => exact .inl (D_11 k)
  | i + 1, 0 => exact .inl (D_21 i)
  | i + 1, k + 1 =>
    by_cases hc : (sw && V (i + 1) k && V i (k + 1)) = true
    · have e := D_22 (sw := sw) (V := V) i k
      rw [if_pos hc] at e
      rcases Nat.le_total (stepD (V (i + 1) (k + 1)) (Dd sw V (i + 1) (k + 2)) (Dd sw V (i + 2) (k + 1)) (Dd sw V (i + 1) (k + 1))) (Dd sw V i k + 1) with h | h
      · rw [Nat.min_eq_left h] at e
        exact .inl e
      · rw [Nat.min_eq_right h] at e
        simp only [Bool.and_eq_true] at hc
        exact .inr ⟨i, k, rfl, rfl, hc.1.1, hc.1.2, hc.2, e⟩
    · have e := D_22 (sw := sw) (V := V) i k
      rw [if_neg hc] at e
      exact .inl e
/-- By which way a distance comes. -/
theorem D_att (i k : Nat) : Dd sw V (i + 1) (k + 1) = Dd sw V i (k + 1) + 1 ∨ Dd sw V (i + 1) (k + 1) = Dd sw V (i + 1) k + 1 ∨ (V i k = true ∧ Dd sw V (i + 1) (k + 1) = Dd sw V i k) ∨ Dd sw V (i + 1) (k + 1) = Dd sw V i k + 1 ∨
    ∃ i' k', i = i' + 1 ∧ k = k' + 1 ∧ sw = true ∧ V (i' + 1) k' = true ∧ V i' (k' + 1) = true ∧ Dd sw V (i + 1) (k + 1) = Dd sw V i' k' + 1 := by
  rcases D_eq (sw := sw) (V := V) i k with e | e
  · rw [e]
    rcases stepD_att (V i k) (Dd sw V i (k + 1)) (Dd sw V (i + 1) k) (Dd sw V i k) with h | h | h | h
    · exact .inl h
    · exact .inr (.inl h)
    · exact .inr (.inr (.inl h))
    · exact .inr (.inr (.inr (.inl h)))
  · exact .inr (.inr (.inr (.inr e)))
theorem D_down : ∀ (i k : Nat), Dd sw V i k ≤ Dd sw V i (k + 1) + 1
  | 0, k => by rw [D_0, D_0]; omega
  | i + 1, k => by
    have h0 := D_ins (sw := sw) (V := V) i k
    rcases D_att (sw := sw) (V := V) i k with e | e | ⟨_, e⟩ | e | ⟨i', k', rfl, rfl, _, _, _, e⟩
    · have := D_down i k
      omega
    · omega
    · omega
    · omega
    · have h1 := D_sub (sw := sw) (V := V) (i' + 1) k'
      have h2 := D_ins (sw := sw) (V := V) i' k'
      omega
def ad (a b : Nat) : Nat := (a - b) + (b - a)
theorem D_lip (i : Nat) : ∀ (n k o : Nat), ad o k ≤ n → Dd sw V i k ≤ Dd sw V i o + ad o k
  | 0, k, o, h => by
    have : o = k := by unfold ad at h; omega
    subst this
    omega
  | n + 1, k, o, h => by
    rcases Nat.lt_trichotomy o k with hlt | rfl | hgt
    · have ih := D_lip i n k (o + 1) (by unfold ad at *; omega)
      have := D_del (sw := sw) (V := V) i o
      unfold ad at *
      omega
    · omega
    · obtain ⟨o, rfl⟩ : ∃ o', o = o' + 1 := ⟨o - 1, by omega⟩
      have ih := D_lip i n k o (by unfold ad at *; omega)
      have := D_down (sw := sw) (V := V) i o
      unfold ad at *
      omega
theorem D_lip' (i k o : Nat) : Dd sw V i k ≤ Dd sw V i o + ad o k := D_lip i _ k o (Nat.le_refl _)
end
/-! ### What places make needless -/
theorem imply_iff (s c : NS) : implyB s c = true ↔ ((s.t = true ∨ c.t = false) ∧ s.d + ad s.o c.o ≤ c.d) ∨ (s.t = false ∧ c.t = true ∧ s.d + ad s.o c.o < c.d) := by
  have e : (if s.o < c.o then c.o - s.o else s.o - c.o) = ad s.o c.o := by
    unfold ad
    split <;> omega
  unfold implyB
  rw [e]
  cases hs : s.t <;> cases hc : c.t <;> simp
theorem ad_tri (a b c : Nat) : ad a c ≤ ad a b + ad b c := by unfold ad; omega
theorem imply_trans {x s c : NS} (h1 : implyB x s = true) (h2 : implyB s c = true) : implyB x c = true := by
  rw [imply_iff] at *
  have := ad_tri x.o s.o c.o
  cases hx : x.t <;> cases hs : s.t <;> cases hc : c.t <;> simp [hx, hs, hc] at h1 h2 ⊢ <;> omega
def cov (L : List NS) (c : NS) : Prop := ∃ s ∈ L, implyB s c = true
theorem addSt_self (l : List NS) (x : NS) : cov (addSt l x) x := by
  unfold addSt
  split
  · rename_i h
    obtain ⟨s, hs, h2⟩ := List.any_eq_true.1 h
    exact ⟨s, hs, h2⟩
  · exact ⟨x, by simp, imply_self x⟩
theorem addSt_cov {l : List NS} {c : NS} (x : NS) (h : cov l c) : cov (addSt l x) c := by
  obtain ⟨s, hs, h2⟩ := h
  unfold addSt
  split
  · exact ⟨s, hs, h2⟩
  · cases hi : implyB x s with
    | true => exact ⟨x, by simp, imply_trans hi h2⟩
    | false => exact ⟨s, by simp [hs, hi], h2⟩
theorem delT_cov {s : NS} {x : Nat} {c : NS} : ∀ (k d : Nat) (l : List NS), cov l c → cov (delT s x k d l) c
  | 0, _, _, h => h
  | k + 1, d, l, h => by
    simp only [delT]
    refine delT_cov k (d + 1) _ ?_
    split
    · exact addSt_cov _ h
    · exact h
theorem delT_self {s : NS} {x : Nat} {m : Nat} (hb : bitN x m = true) : ∀ (k d : Nat) (l : List NS), d ≤ m → m < d + k → cov (delT s x k d l) ⟨s.o + 1 + m, s.d + m, false⟩
  | 0, _, _, h1, h2 => by omega
  | k + 1, d, l, h1, h2 => by
    simp only [delT]
    by_cases e : d = m
    · subst e
      rw [if_pos hb]
      exact delT_cov _ _ _ (addSt_self _ _)
    · exact delT_self hb k (d + 1) _ (by omega) (by omega)
section
variable {md : Nat} {dam : Bool} {s : NS} {x : Nat} {l : List NS}
theorem simp3_cov {c : NS} (h : cov l c) : cov (simp3 s x l) c := by
  unfold simp3
  split
  · exact addSt_cov _ h
  · exact h
theorem simp2_cov {c : NS} (h : cov l c) : cov (simp2 s x l) c := by
  unfold simp2
  split
  · exact addSt_cov _ h
  · exact h
theorem simp1_cov {c : NS} (h : cov l c) : cov (simp1 md dam s x l) c := by
  unfold simp1
  split
  · split
    · exact addSt_cov _ (delT_cov _ _ _ (addSt_cov _ (addSt_cov _ h)))
    · exact delT_cov _ _ _ (addSt_cov _ (addSt_cov _ h))
  · exact h
theorem simpT_cov {c : NS} (h : cov l c) : cov (simpT md dam s x l) c := simp3_cov (simp2_cov (simp1_cov h))
theorem simpT_ins (h : s.d < md) : cov (simpT md dam s x l) ⟨s.o, s.d + 1, false⟩ := by
  refine simp3_cov (simp2_cov ?_)
  unfold simp1
  rw [if_pos h]
  split
  · exact addSt_cov _ (delT_cov _ _ _ (addSt_cov _ (addSt_self _ _)))
  · exact delT_cov _ _ _ (addSt_cov _ (addSt_self _ _))
theorem simpT_sub (h : s.d < md) : cov (simpT md dam s x l) ⟨s.o + 1, s.d + 1, false⟩ := by
  refine simp3_cov (simp2_cov ?_)
  unfold simp1
  rw [if_pos h]
  split
  · exact addSt_cov _ (delT_cov _ _ _ (addSt_self _ _))
  · exact delT_cov _ _ _ (addSt_self _ _)
theorem simpT_del {m : Nat} (hb : bitN x m = true) (h1 : 1 ≤ m) (h2 : s.d + m ≤ md) : cov (simpT md dam s x l) ⟨s.o + 1 + m, s.d + m, false⟩ := by
  refine simp3_cov (simp2_cov ?_)
  unfold simp1
  rw [if_pos (by omega)]
  split
  · exact addSt_cov _ (delT_self hb _ _ _ h1 (by omega))
  · exact delT_self hb _ _ _ h1 (by omega)
theorem simpT_tr (h : s.d < md) (hd : dam = true) (hb : bitN x 1 = true) : cov (simpT md dam s x l) ⟨s.o, s.d + 1, true⟩ := by
  refine simp3_cov (simp2_cov ?_)
  unfold simp1
  rw [if_pos h, if_pos (by rw [hd, hb]; rfl)]
  exact addSt_self _ _
theorem simpT_match (hb : bitN x 0 = true) : cov (simpT md dam s x l) ⟨s.o + 1, s.d, false⟩ := by
  refine simp3_cov ?_
  unfold simp2
  rw [if_pos hb]
  exact addSt_self _ _
theorem simpT_trans (ht : s.t = true) (hb : bitN x 0 = true) : cov (simpT md dam s x l) ⟨s.o + 2, s.d, false⟩ := by
  unfold simpT simp3
  rw [if_pos (by rw [ht, hb]; rfl)]
  exact addSt_self _ _
theorem delT_all {Q : NS → Prop} : ∀ (k d : Nat) (l : List NS), 1 ≤ d → (∀ y ∈ l, Q y) → (∀ m, d ≤ m → m < d + k → bitN x m = true → Q ⟨s.o + 1 + m, s.d + m, false⟩) → ∀ y ∈ delT s x k d l, Q y
  | 0, _, _, _, h, _ => h
  | k + 1, d, l, hd, h, hm => by
    simp only [delT]
    refine delT_all k (d + 1) _ (by omega) ?_ (fun m h1 h2 h3 => hm m (by omega) (by omega) h3)
    split
    · rename_i hb
      exact addSt_ok h (hm d (Nat.le_refl _) (by omega) hb)
    · exact h
theorem simpT_all {Q : NS → Prop} (h : ∀ y ∈ l, Q y) (h1 : s.d < md → Q ⟨s.o, s.d + 1, false⟩) (h2 : s.d < md → Q ⟨s.o + 1, s.d + 1, false⟩) (h3 : ∀ m, 1 ≤ m → s.d + m ≤ md → bitN x m = true → Q ⟨s.o + 1 + m, s.d + m, false⟩)
    (h4 : s.d < md → dam = true → bitN x 1 = true → Q ⟨s.o, s.d + 1, true⟩) (h5 : bitN x 0 = true → Q ⟨s.o + 1, s.d, false⟩) (h6 : s.t = true → bitN x 0 = true → Q ⟨s.o + 2, s.d, false⟩) : ∀ y ∈ simpT md dam s x l, Q y := by
  have a1 : ∀ y ∈ simp1 md dam s x l, Q y := by
    unfold simp1
    split
    · rename_i hlt
      have a2 := delT_all (s := s) (x := x) (md - s.d) 1 _ (Nat.le_refl _) (addSt_ok (addSt_ok h (h1 hlt)) (h2 hlt)) (fun m k1 k2 k3 => h3 m k1 (by omega) k3)
      split
      · rename_i hd
        simp only [Bool.and_eq_true] at hd
        exact addSt_ok a2 (h4 hlt hd.1 hd.2)
      · exact a2
    · exact h
  have a2 : ∀ y ∈ simp2 s x (simp1 md dam s x l), Q y := by
    unfold simp2
    split
    · rename_i hb
      exact addSt_ok a1 (h5 hb)
    · exact a1
  unfold simpT simp3
  split
  · rename_i hb
    simp only [Bool.and_eq_true] at hb
    exact addSt_ok a2 (h6 hb.1 hb.2)
  · exact a2
end
theorem bitN_test (x i : Nat) : bitN x i = x.testBit i := by
  unfold bitN
  rw [Nat.testBit_eq_decide_div_mod_eq]
theorem cvN_bit {md scv o d : Nat} (h : d ≤ 2 * md) : bitN (cvN md scv o) d = bitN scv (o + d) := by
  unfold cvN
  rw [bitN_test, bitN_test, Nat.testBit_mod_two_pow, Nat.testBit_div_two_pow, decide_eq_true (show d < 2 * md + 1 by omega), Bool.true_and]
  congr 1
  try omega
end Go.Proofs.Eng
