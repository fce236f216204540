/- A part of the proof: what functions of the program do, step by step. -/
import Derived.Test.YtolnpkdgnekcnaaEngT1
set_option linter.unusedVariables false
set_option linter.unusedSimpArgs false
namespace Go.Proofs.Eng
open Go.RowKit
/-- What came in and is only read: n values, from block below B. -/
def Rd (w : World) (B : Nat) (A : Option Addr) (xs : List Value) : Prop := xs = [] ∨ ∃ g o, A = some ⟨g, o, none⟩ ∧ g < B ∧ ∀ (j : Nat) v, xs[j]? = some v → w.cell? ⟨g, o + j, none⟩ = some v
theorem Rd.goes {w w' : World} {L L' : Hp} {B : Nat} {A : Option Addr} {xs : List Value} (h : Rd w B A xs) (g : Goes w L w' L') (hL : ∀ k ∈ ids L, B ≤ k) : Rd w' B A xs := by
  rcases h with h | ⟨b, o, hA, hb, hc⟩
  · exact .inl h
  · refine .inr ⟨b, o, hA, hb, fun j v hv => ?_⟩
    have h1 := hc j v hv
    have hlt := World.block_lt_of_cell? w _ h1
    rw [← h1]
    exact World.cell?_of_block (w := w) (g.keep b hlt (fun hm => by have := hL b hm; omega))
theorem Rd.cell {C : Ctx} {Ls : List Hp} {B g o : Nat} {xs : List Value} (h : ∀ (j : Nat) v, xs[j]? = some v → C.w0.cell? ⟨g, o + j, none⟩ = some v) (hg : g < B) (hL : ∀ k ∈ ids C.L0, B ≤ k) {j : Nat} {v : Value} (hv : xs[j]? = some v) : Cell C Ls ⟨g, o + j, none⟩ v :=
  cell_of_old (h j v hv) (fun hm => by have := hL g hm; omega)
theorem Rd.now {w0 w : World} {L : Hp} {A : Option Addr} {xs : List Value} (h : Rd w0 w0.heap.size A xs) (g : Goes w0 [] w L) : Rd w w.heap.size A xs := by
  rcases h.goes g (fun k hk => by simp [ids] at hk) with h | ⟨b, o, h1, h2, h3⟩
  · exact .inl h
  · exact .inr ⟨b, o, h1, Nat.lt_of_lt_of_le h2 g.size, h3⟩
theorem Own.rd {w : World} {e size n n' c : Nat} {A : Option Addr} {xs : List Value} {l : Hp} (h : Own e size (.slice A n' c) n xs l) (hw : At w l) : Rd w w.heap.size A xs := by
  rcases h.2 with ⟨h1, h2, h3⟩ | ⟨g, cap, cur, h1, rfl, h2, h3, h4, h5⟩
  · have := h.1
    subst h2
    simp at this
    exact .inl this
  · simp only [Value.slice.injEq] at h1
    refine .inr ⟨g, 0, h1.1, hw.lt (by simp [ids]), fun j v hv => ?_⟩
    have hb := hw.here ⟨g, .cells cur e (0, 0)⟩ (by simp)
    rw [cell_of_heap hb, Nat.zero_add]
    rw [← h5, List.getElem?_take] at hv
    split at hv
    · rw [← Array.getElem?_toList]; exact hv
    · cases hv
theorem At.item {w : World} {Ls R : List Hp} {l : Hp} (h : At w Ls.flatten) (p : Pick Ls l R) : At w l := by
  have hp := p.perm
  refine ⟨?_, fun x hx => h.here x (hp.mem_iff.2 (List.mem_append.2 (.inl hx)))⟩
  have := (hp.map Blk.id).nodup_iff.1 h.nd
  rw [List.map_append, List.nodup_append] at this
  exact this.1
end Go.Proofs.Eng
