/- A part of the proof: what functions of the program do, step by step. -/
import Derived.Test.YtnomlnfdmoecoaaDoorNc
set_option linter.unusedVariables false
set_option linter.unusedSimpArgs false
namespace Go.Proofs.Eng
open Go.RowKit
theorem nsLt_iff (x y : NS) : nsLt x y = true ↔ x.o < y.o ∨ (x.o = y.o ∧ (x.d < y.d ∨ (x.d = y.d ∧ x.t = false ∧ y.t = true))) := by
  unfold nsLt
  by_cases h1 : x.o = y.o
  · by_cases h2 : x.d = y.d
    · simp [h1, h2]
    · simp [h1, h2]
  · simp [h1]
theorem nsLt_f (x y : NS) : nsLt x y = false ↔ ¬ (x.o < y.o ∨ (x.o = y.o ∧ (x.d < y.d ∨ (x.d = y.d ∧ x.t = false ∧ y.t = true)))) := by
  rw [← nsLt_iff]
  simp
theorem nsLt_swo : Sort.SWO nsLt := by
  refine ⟨fun x => ?_, fun x y z h1 h2 => ?_, fun x y z h1 h2 => ?_⟩
  · rw [nsLt_f]
    cases x.t <;> simp
  · rw [nsLt_iff] at *
    cases hx : x.t <;> cases hy : y.t <;> cases hz : z.t <;> simp [hx, hy, hz] at h1 h2 ⊢ <;> omega
  · rw [nsLt_f] at *
    cases hx : x.t <;> cases hy : y.t <;> cases hz : z.t <;> simp [hx, hy, hz] at h1 h2 ⊢ <;> omega
theorem nsLt_anti (x y : NS) (h1 : nsLt x y = false) (h2 : nsLt y x = false) : x = y := by
  rw [nsLt_f] at *
  obtain ⟨xo, xd, xt⟩ := x
  obtain ⟨yo, yd, yt⟩ := y
  cases xt <;> cases yt <;> simp at h1 h2 ⊢ <;> omega
def nsSort (l : List NS) : List NS := l.mergeSort (fun x y => !nsLt y x)
theorem nsSort_of {d d' : Array NS} (h : Sort.PermIn 0 d.size d d') (hs : Sort.SortedIn nsLt 0 d.size d') : d'.toList = nsSort d.toList := Sort.sorted_unique_holds nsLt_swo nsLt_anti d d' h hs
theorem nsSort_mem {l : List NS} {s : NS} : s ∈ nsSort l ↔ s ∈ l := (List.mergeSort_perm l _).mem_iff
theorem nsSort_len (l : List NS) : (nsSort l).length = l.length := List.length_mergeSort _
theorem nsSort_nodup {l : List NS} (h : l.Nodup) : (nsSort l).Nodup := (List.mergeSort_perm l _).nodup_iff.2 h
theorem nsSort_one {l : List NS} (h : l.length ≤ 1) : nsSort l = l := by
  match l, h with
  | [], _ => exact List.mergeSort_nil
  | [x], _ => exact List.mergeSort_singleton x
/-! ### No place twice -/
theorem imply_self (s : NS) : implyB s s = true := by
  unfold implyB
  cases h : s.t <;> simp
theorem addSt_nodup {l : List NS} {x : NS} (h : l.Nodup) : (addSt l x).Nodup := by
  unfold addSt
  split
  · exact h
  · rename_i hn
    rw [List.nodup_append]
    refine ⟨h.filter _, by simp, fun a ha b hb => ?_⟩
    rw [List.mem_singleton.1 hb]
    intro e
    subst e
    exact hn (List.any_eq_true.2 ⟨a, (List.mem_filter.1 ha).1, imply_self a⟩)
theorem delT_nodup (s : NS) (x : Nat) : ∀ (k d : Nat) (l : List NS), l.Nodup → (delT s x k d l).Nodup
  | 0, _, _, h => h
  | k + 1, d, l, h => by
    simp only [delT]
    apply delT_nodup
    split
    · exact addSt_nodup h
    · exact h
theorem simpT_nodup {md : Nat} {dam : Bool} {s : NS} {x : Nat} {l : List NS} (h : l.Nodup) : (simpT md dam s x l).Nodup := by
  have h1 : (simp1 md dam s x l).Nodup := by
    unfold simp1
    split
    · split
      · exact addSt_nodup (delT_nodup _ _ _ _ _ (addSt_nodup (addSt_nodup h)))
      · exact delT_nodup _ _ _ _ _ (addSt_nodup (addSt_nodup h))
    · exact h
  have h2 : (simp2 s x (simp1 md dam s x l)).Nodup := by
    unfold simp2
    split
    · exact addSt_nodup h1
    · exact h1
  unfold simpT simp3
  split
  · exact addSt_nodup h2
  · exact h2
theorem nodup_below : ∀ (n : Nat) (l : List Nat), l.Nodup → (∀ x ∈ l, x < n) → l.length ≤ n
  | 0, l, _, h => by
    cases l with
    | nil => simp
    | cons x r => exact absurd (h x (by simp)) (by omega)
  | n + 1, l, hn, h => by
    by_cases hm : n ∈ l
    · have h1 := nodup_below n (l.erase n) (hn.erase n) (fun x hx => by
        have h2 := (hn.mem_erase_iff.1 hx)
        have := h x h2.2
        have := h2.1
        omega)
      rw [List.length_erase_of_mem hm] at h1
      omega
    · have := nodup_below n l hn (fun x hx => by
        have := h x hx
        have : x ≠ n := fun e => hm (e ▸ hx)
        omega)
      omega
/-- What is not in the set leaves room for itself. -/
theorem bn_len {l : List NS} {N m : Nat} (h : l.Nodup) (hb : ∀ s ∈ l, Bn N m s) : l.length ≤ (N + 1) * (m + 1) * 2 := by
  have h1 := nodup_below ((N + 1) * (m + 1) * 2) (l.map (fun s => (s.o * (m + 1) + s.d) * 2 + (if s.t then 1 else 0))) ?_ ?_
  · simpa using h1
  · rw [List.nodup_iff_pairwise_ne] at *
    rw [List.pairwise_map]
    refine h.imp_of_mem (fun {a b} ha hb' hne e => hne ?_)
    have h1 := hb a ha
    have h2 := hb b hb'
    obtain ⟨ao, ad, at'⟩ := a
    obtain ⟨bo, bd, bt⟩ := b
    unfold Bn at h1 h2
    dsimp only at h1 h2 e
    have key : ∀ (x y p q : Nat), p ≤ m → q ≤ m → x * (m + 1) + p = y * (m + 1) + q → x = y ∧ p = q := by
      intro x y p q hp hq e
      have e1 : (x * (m + 1) + p) / (m + 1) = x := by rw [Nat.mul_comm, Nat.mul_add_div (by omega), Nat.div_eq_of_lt (by omega)]; omega
      have e2 : (y * (m + 1) + q) / (m + 1) = y := by rw [Nat.mul_comm, Nat.mul_add_div (by omega), Nat.div_eq_of_lt (by omega)]; omega
      have e3 : x = y := by rw [← e1, ← e2, e]
      subst e3
      omega
    have e2 : ao * (m + 1) + ad = bo * (m + 1) + bd ∧ at' = bt := by
      generalize ao * (m + 1) = X at *
      generalize bo * (m + 1) = Y at *
      cases at' <;> cases bt <;> simp at e ⊢ <;> omega
    obtain ⟨e3, e4⟩ := key _ _ _ _ h1.2 h2.2 e2.1
    subst e3 e4
    rw [e2.2]
  · intro x hx
    obtain ⟨s, hs, rfl⟩ := List.mem_map.1 hx
    obtain ⟨h1, h2⟩ := hb s hs
    have h3 : s.o * (m + 1) ≤ N * (m + 1) := Nat.mul_le_mul_right _ h1
    have h4 : (N + 1) * (m + 1) = N * (m + 1) + (m + 1) := Nat.succ_mul _ _
    rw [h4]
    generalize s.o * (m + 1) = X at *
    generalize N * (m + 1) = Y at *
    split <;> omega
end Go.Proofs.Eng
