/- A part of the proof: what functions of the program do, step by step. -/
import Derived.Test.YtiadbheejlhimaaV4
import Derived.Test.YtiadbheejlhimaaW0
set_option linter.unusedVariables false
set_option linter.unusedSimpArgs false
namespace Go.Proofs.Eng
open Go.RowKit
theorem enc_list {r : Nat} (h : isL r) : (Utf8.encode (r : Int)).data.toList.map (fun x => x.toNat) = encN r := by
  have hv : Utf8.valid (r : Int) = true := by
    obtain ⟨h1, h2⟩ := h
    simp only [Utf8.valid]
    simp
    omega
  have hm := h.1
  unfold Utf8.encode encN
  simp only [hv, if_true, Int.toNat_natCast]
  by_cases h1 : r ≤ 127
  · rw [if_pos (by omega), if_pos h1]; simp; omega
  · rw [if_neg (by omega), if_neg h1]
    by_cases h2 : r ≤ 2047
    · rw [if_pos (by omega), if_pos h2]; simp; omega
    · rw [if_neg (by omega), if_neg h2]
      by_cases h3 : r ≤ 65535
      · rw [if_pos (by omega), if_pos h3]; simp; omega
      · rw [if_neg (by omega), if_neg h3]; simp; omega
set_option maxRecDepth 1000000 in
theorem enc_size {r : Nat} (h : isL r) : (Utf8.encode (r : Int)).size = (encN r).length := by
  have h := enc_list h
  revert h
  generalize Utf8.encode (r : Int) = e
  intro h
  rw [← h, List.length_map, Array.length_toList]; rfl
set_option maxRecDepth 1000000 in
theorem enc_cells {r : Nat} (h : isL r) : (Utf8.encode (r : Int)).data.map (fun x => Value.int .u8 x.toNat) = (u8s (encN r)).toArray := by
  have h := enc_list h
  revert h
  generalize Utf8.encode (r : Int) = e
  intro h
  apply Array.ext'
  rw [← h]
  simp [u8s]
def Bd.tr (b : Bd) (f c : Nat) : Nat := b.fl.getD (f * 256 + c) 0
/-- The way to a letter's last byte: states that are new where there are only the default ones yet. -/
def Bd.mid (ps : List Nat) : List Nat → Nat → Bd → Nat × Bd
  | [], f, b => (f, b)
  | x :: xs, f, b => if b.tr f x = ps.getD (xs.length + 1) 0 then Bd.mid ps xs b.n ((b.alloc.fill (b.n * 256) 256 (ps.getD xs.length 0)).set f x b.n) else Bd.mid ps xs (b.tr f x) (b.set f x (b.tr f x))
/-- All that transitions lead to is there. -/
def Wt (b : Bd) : Prop := ∀ x ∈ b.fl, x < b.n
theorem Wt.tr {b : Bd} (h : Wt b) {f c : Nat} (hl : f * 256 + c < b.fl.length) : b.tr f c < b.n := by
  refine h _ ?_
  simp [Bd.tr, List.getD_eq_getElem?_getD, hl]
theorem mem_fillR {l : List Nat} {o n v x : Nat} (h : x ∈ fillR l o n v) : x ∈ l ∨ x = v := by
  unfold fillR at h
  simp only [List.mem_append, List.mem_replicate] at h
  rcases h with (h | h) | h
  · exact .inl (List.mem_of_mem_take h)
  · exact .inr h.2
  · exact .inl (List.mem_of_mem_drop h)
theorem Wt.set {b : Bd} (h : Wt b) {f c t : Nat} (ht : t < b.n) : Wt (b.set f c t) := fun x hx => by
  rcases List.mem_or_eq_of_mem_set hx with hx | hx
  · exact h x hx
  · rw [hx]; exact ht
theorem Wt.fill {b : Bd} (h : Wt b) {o n v : Nat} (ht : v < b.n) : Wt (b.fill o n v) := fun x hx => by
  rcases mem_fillR hx with hx | hx
  · exact h x hx
  · rw [hx]; exact ht
theorem Wt.alloc {b : Bd} (h : Wt b) : Wt b.alloc := fun x hx => by
  rcases List.mem_append.1 hx with hx | hx
  · have := h x hx; show x < b.n + 1; omega
  · have := (List.mem_replicate.1 hx).2; show x < b.n + 1; omega
theorem Wf.alloc {b : Bd} (h : Wf b) : Wf b.alloc := fun x hx => by
  rcases h x hx with h | h
  · exact .inl h
  · exact .inr (show x < b.n + 1 by omega)
theorem mid_n (ps : List Nat) : ∀ (xs : List Nat) (f : Nat) (b : Bd), b.n ≤ (Bd.mid ps xs f b).2.n ∧ (Bd.mid ps xs f b).2.n ≤ b.n + xs.length
  | [], f, b => ⟨Nat.le_refl _, Nat.le_refl _⟩
  | x :: xs, f, b => by
    simp only [Bd.mid]
    split
    · have h : b.n + 1 ≤ _ ∧ _ ≤ b.n + 1 + xs.length := mid_n ps xs b.n ((b.alloc.fill (b.n * 256) 256 (ps.getD xs.length 0)).set f x b.n)
      simp only [List.length_cons]; omega
    · have h : b.n ≤ _ ∧ _ ≤ b.n + xs.length := mid_n ps xs (b.tr f x) (b.set f x (b.tr f x))
      simp only [List.length_cons]; omega
end Go.Proofs.Eng
