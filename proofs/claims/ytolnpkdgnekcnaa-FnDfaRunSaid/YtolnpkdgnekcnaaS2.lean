/- A part of the proof: what functions of the program do, step by step. -/
import Derived.Test.YtolnpkdgnekcnaaS1
set_option linter.unusedVariables false
set_option linter.unusedSimpArgs false
namespace Go.Proofs.Eng
open Go.RowKit

/-- An instruction. -/
structure In where
  op : Nat
  to : Nat
  a : Nat
  b : Nat
  lo : Nat
  hi : Nat
def inCells (i : In) : Array Value := #[.int .i64 i.op, .int .u64 i.to, .int .u64 i.a, .int .u64 i.b, .int .u8 i.lo, .int .u8 i.hi]
def inHp (qs : List Nat) (l : List In) : Hp := (qs.zip l).map fun x => ⟨x.1, .cells (inCells x.2) 103 (0, 0)⟩
theorem inHp_mem {qs : List Nat} {l : List In} {i : Nat} (h1 : i < qs.length) (h2 : i < l.length) : (⟨qs[i], .cells (inCells l[i]) 103 (0, 0)⟩ : Blk) ∈ inHp qs l := by
  refine List.mem_map.2 ⟨(qs[i], l[i]), ?_, rfl⟩
  rw [List.mem_iff_getElem]
  exact ⟨i, by simp; omega, by simp⟩
/-- A program: the row of pointers, the instructions. -/
def ProgHp (p m : Nat) (cur : Array Value) (qs : List Nat) (l : List In) : List Hp := [[⟨p, .cells cur 76 (0, 0)⟩], inHp qs l]
structure IsProg (m cap : Nat) (cur : Array Value) (qs : List Nat) (l : List In) : Prop where
  lq : qs.length = m
  ll : l.length = m
  ptr : ∀ i (h : i < qs.length), aget cur i = some (.pointer (some ⟨qs[i], 0, none⟩))
theorem mem_item {Ls l R} {x : Blk} (h : Pick Ls l R) (hx : x ∈ l) : x ∈ Ls.flatten := h.perm.mem_iff.2 (List.mem_append.2 (.inl hx))
theorem cell_of_mem {C : Ctx} {Ls : List Hp} {g o t : Nat} {cs : Array Value} {fr : Nat × Nat} {v : Value} (h : (⟨g, .cells cs t fr⟩ : Blk) ∈ Ls.flatten) (hv : aget cs o = some v) : Cell C Ls ⟨g, o, none⟩ v :=
  fun w hg => by rw [cell_of_heap (hg.now.here _ h), ← aget_eq, hv]

/-- One step without a byte. -/
def Step (l : List In) (y z : Nat) : Prop := ∃ i, l[y]? = some i ∧ ((i.op = 1 ∧ z = i.to) ∨ (i.op = 2 ∧ (z = i.a ∨ z = i.b)))
inductive Reach (l : List In) : Nat → Nat → Prop
  | refl (x) : Reach l x x
  | step {x y z} : Step l x y → Reach l y z → Reach l x z
/-- All that is led to is there. -/
def Sound (l : List In) : Prop := ∀ y z, Step l y z → z < l.length

structure AddPost (l : List In) (n : Nat) (x : Nat) (D : List Nat) (k : Nat) (D' S' : List Nat) (k' : Nat) : Prop where
  set : IsSet n D' S' k'
  le : k ≤ k'
  same : ∀ i, i < k → D'[i]? = D[i]?
  here : x ∈ D'.take k'
  from_ : ∀ y, y ∈ D'.take k' → y ∈ D.take k ∨ Reach l x y
  closed : ∀ y, y ∈ D'.take k' → y ∈ D.take k ∨ ∀ z, Step l y z → z ∈ D'.take k'
theorem IsSet.mem {n k : Nat} {D S : List Nat} (h : IsSet n D S k) {x : Nat} : x ∈ D.take k ↔ ∃ i, i < k ∧ D[i]? = some x := by
  rw [List.mem_iff_getElem?]
  constructor
  · rintro ⟨i, hi⟩
    rw [List.getElem?_take] at hi
    split at hi
    · exact ⟨i, by assumption, hi⟩
    · cases hi
  · rintro ⟨i, hi, hx⟩
    exact ⟨i, by rw [List.getElem?_take, if_pos hi]; exact hx⟩
theorem IsSet.has {n k : Nat} {D S : List Nat} (h : IsSet n D S k) {x : Nat} (hx : x < n) : hasB D S k x = true ↔ x ∈ D.take k := by
  have h1 := h.lD
  have h2 := h.lS
  have h3 := h.kn
  rw [h.mem]
  unfold hasB
  have e : S.getD x 0 = S[x] := by simp [show x < S.length by omega]
  rw [e]
  constructor
  · intro hb
    simp at hb
    obtain ⟨ha, hb⟩ := hb
    refine ⟨S[x], ha, ?_⟩
    rw [List.getElem?_eq_getElem (by omega)] at hb ⊢
    simpa using hb
  · rintro ⟨i, hi, hd⟩
    obtain ⟨_, hs⟩ := h.at_ i x hi hd
    rw [List.getElem?_eq_getElem (by omega)] at hs
    have e2 : S[x] = i := by simpa using hs
    rw [e2]
    simp [hi, hd]
theorem nodup_length : ∀ (n : Nat) (l : List Nat), l.Nodup → (∀ x ∈ l, x < n) → l.length ≤ n
  | 0, l, _, h => by
    cases l with
    | nil => simp
    | cons x r => exact absurd (h x (by simp)) (by omega)
  | n + 1, l, hn, h => by
    by_cases hm : n ∈ l
    · have h1 := nodup_length n (l.erase n) (hn.erase n) (fun x hx => by
        have h2 := (hn.mem_erase_iff.1 hx)
        have := h x h2.2
        have := h2.1
        omega)
      rw [List.length_erase_of_mem hm] at h1
      omega
    · have := nodup_length n l hn (fun x hx => by
        have := h x hx
        have : x ≠ n := fun e => hm (e ▸ hx)
        omega)
      omega
/-- What is not in the set leaves room for itself. -/
theorem IsSet.room {n k : Nat} {D S : List Nat} (h : IsSet n D S k) {x : Nat} (hx : x < n) (hn : x ∉ D.take k) : k < n := by
  have h1 := h.lD
  have h3 := h.kn
  rcases Nat.lt_or_ge k n with h | hge
  · exact h
  · exfalso
    have hk : k = n := by omega
    subst hk
    -- D lists each number below n once
    have hnd : D.Nodup := by
      rw [List.Nodup, List.pairwise_iff_getElem]
      intro i j hi hj hij e'
      have ei := h.at_ i D[i] (by omega) (List.getElem?_eq_getElem (by omega))
      have ej := h.at_ j D[j] (by omega) (List.getElem?_eq_getElem (by omega))
      rw [e', ej.2] at ei
      simp at ei
      omega
    have hsub : ∀ y ∈ x :: D, y < k := by
      intro y hy
      rcases List.mem_cons.1 hy with rfl | hy
      · exact hx
      · obtain ⟨i, hi, rfl⟩ := List.mem_iff_getElem.1 hy
        exact (h.at_ i D[i] (by omega) (List.getElem?_eq_getElem hi)).1
    have hnd' : (x :: D).Nodup := List.nodup_cons.2 ⟨by rw [List.take_of_length_le (by omega)] at hn; exact hn, hnd⟩
    have := nodup_length k (x :: D) hnd' hsub
    simp at this
    omega
theorem IsSet.put {n k : Nat} {D S : List Nat} (h : IsSet n D S k) {x : Nat} (hx : x < n) (hn : x ∉ D.take k) (hk : k < n) : IsSet n (D.set k x) (S.set x k) (k + 1) := by
  have h1 := h.lD
  have h2 := h.lS
  refine ⟨by simp [h1], by simp [h2], by omega, ?_⟩
  intro i y hi hy
  rw [List.getElem?_set] at hy
  by_cases e : k = i
  · subst e
    simp [show k < D.length by omega] at hy
    subst hy
    refine ⟨hx, ?_⟩
    rw [List.getElem?_set]
    simp [show x < S.length by omega]
  · rw [if_neg e] at hy
    have hik : i < k := by omega
    obtain ⟨ha, hb⟩ := h.at_ i y hik hy
    refine ⟨ha, ?_⟩
    rw [List.getElem?_set, if_neg]
    · exact hb
    · rintro rfl
      exact hn (h.mem.2 ⟨i, hik, hy⟩)
theorem take_put {D : List Nat} {k x : Nat} (hk : k < D.length) : (D.set k x).take (k + 1) = D.take k ++ [x] := by
  rw [List.take_succ_eq_append_getElem (by simpa using hk)]
  simp [List.take_set]
  rw [List.set_eq_of_length_le (by simp; omega)]
end Go.Proofs.Eng
