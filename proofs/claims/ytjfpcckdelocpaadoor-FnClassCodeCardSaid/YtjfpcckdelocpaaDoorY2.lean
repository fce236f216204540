/- A part of the proof: what functions of the program do, step by step. -/
import Derived.Test.YtjfpcckdelocpaaDoorEngM
import Derived.Test.YtjfpcckdelocpaaDoorY0
set_option linter.unusedVariables false
set_option linter.unusedSimpArgs false
namespace Go.Proofs.Eng
open Go.RowKit
def inCells (x : In) : List Value := [.int .i64 x.op, .int .u64 x.to, .int .u64 x.a, .int .u64 x.b, .int .u8 x.lo, .int .u8 x.hi]
def encI (L : List In) : List Value := L.flatMap inCells
/-- A block of sixteen instructions. -/
abbrev Pool := Nat × List In
def poB (p : Pool) : Blk := ⟨p.1, .cells (encI p.2).toArray 107 (0, 0)⟩
def memL (M : List Pool) : List In := M.flatMap (·.2)
/-- What is left of the last block. -/
def restP (M : List Pool) (r : Nat) : Value :=
  match M.getLast? with
  | none => .slice none 0 0
  | some x => if r = 16 then .slice (some ⟨x.1, 90, none⟩) 0 0 else .slice (some ⟨x.1, r * 6, none⟩) (16 - r) (16 - r)
theorem restP_fst {M M' : List Pool} (h : M.map (·.1) = M'.map (·.1)) (r : Nat) : restP M r = restP M' r := by
  have e : (M.getLast?).map (·.1) = (M'.getLast?).map (·.1) := by
    rw [← List.getLast?_map, ← List.getLast?_map, h]
  unfold restP
  cases h1 : M.getLast? with
  | none =>
    cases h2 : M'.getLast? with
    | none => rfl
    | some y => rw [h1, h2] at e; simp at e
  | some x =>
    cases h2 : M'.getLast? with
    | none => rw [h1, h2] at e; simp at e
    | some y =>
      rw [h1, h2] at e
      simp at e
      simp [e]
theorem memL_append (A B : List Pool) : memL (A ++ B) = memL A ++ memL B := by simp [memL]
theorem memL_len {M : List Pool} (h : ∀ x ∈ M, x.2.length = 16) : (memL M).length = M.length * 16 := by
  induction M with
  | nil => rfl
  | cons x M ih =>
    have h1 := h x (by simp)
    have h2 := ih (fun y hy => h y (by simp [hy]))
    simp only [memL, List.flatMap_cons, List.length_append, List.length_cons] at h2 ⊢
    omega
/-- Which block an instruction is in. -/
def gAt (M : List Pool) (k : Nat) : Nat := (M.getD (k / 16) (0, [])).1
def ptrI (M : List Pool) (k : Nat) : Value := .pointer (some ⟨gAt M k, k % 16 * 6, none⟩)
theorem gAt_append {M : List Pool} {x : Pool} {k : Nat} (h : k < M.length * 16) : gAt (M ++ [x]) k = gAt M k := by
  have : k / 16 < M.length := by omega
  unfold gAt
  rw [List.getD_eq_getElem?_getD, List.getD_eq_getElem?_getD, List.getElem?_append_left this]
theorem gAt_last {M : List Pool} {g : Nat} {L : List In} {k : Nat} (h : k / 16 = M.length) : gAt (M ++ [(g, L)]) k = g := by
  unfold gAt
  rw [List.getD_eq_getElem?_getD, h, List.getElem?_append_right (Nat.le_refl _), Nat.sub_self]
  rfl
theorem gAt_fst {M M' : List Pool} (h : M.map (·.1) = M'.map (·.1)) {k : Nat} : gAt M k = gAt M' k := by
  have e : ∀ N : List Pool, gAt N k = ((N.map (·.1))[k / 16]?).getD 0 := by
    intro N
    unfold gAt
    rw [List.getD_eq_getElem?_getD, List.getElem?_map]
    cases N[k / 16]? <;> rfl
  rw [e, e, h]
/-- The blocks of the pool: l is what is taken of them, r is how much of the last one. -/
structure PoolOk (M : List Pool) (r : Nat) (l : List In) : Prop where
  len : ∀ x ∈ M, x.2.length = 16
  r16 : r ≤ 16
  count : M.length * 16 = l.length + (16 - r)
  mem : memL M = l ++ List.replicate (16 - r) zeroIn
  emp : M = [] → r = 16
/-- An instruction is taken: the j-th one of the last block. -/
structure Taken (M0 : List Pool) (g : Nat) (L : List In) (j : Nat) (l : List In) : Prop where
  all : ∀ x ∈ M0, x.2.length = 16
  len : L.length = 16
  j16 : j < 16
  at_ : l.length = M0.length * 16 + j
  mem : memL M0 ++ L = l ++ List.replicate (16 - j) zeroIn
section
variable {M0 : List Pool} {g j : Nat} {L l : List In}
theorem Taken.split (h : Taken M0 g L j l) : memL M0 ++ L.take j = l ∧ L.drop j = List.replicate (16 - j) zeroIn := by
  have e : (memL M0 ++ L.take j) ++ L.drop j = l ++ List.replicate (16 - j) zeroIn := by
    rw [List.append_assoc, List.take_append_drop, h.mem]
  refine List.append_inj e ?_
  have h1 := h.len
  have h2 := h.j16
  have h3 := h.at_
  rw [List.length_append, memL_len h.all, List.length_take]
  omega
theorem Taken.zero (h : Taken M0 g L j l) : L[j]'(by have := h.len; have := h.j16; omega) = zeroIn := by
  have h1 := h.len
  have h2 := h.j16
  have e := h.split.2
  have : (L.drop j)[0]? = some zeroIn := by
    rw [e, show 16 - j = (16 - j - 1) + 1 by omega]
    rfl
  rw [List.getElem?_drop, Nat.add_zero, List.getElem?_eq_getElem (by omega)] at this
  exact Option.some.inj this
theorem Taken.put (h : Taken M0 g L j l) (x : In) : PoolOk (M0 ++ [(g, L.set j x)]) (j + 1) (l ++ [x]) := by
  have h1 := h.len
  have h2 := h.j16
  have h3 := h.at_
  obtain ⟨e1, e2⟩ := h.split
  refine ⟨?_, by omega, ?_, ?_, by simp⟩
  · intro y hy
    rcases List.mem_append.1 hy with hy | hy
    · exact h.all y hy
    · simp at hy; subst hy; simpa using h1
  · simp only [List.length_append, List.length_singleton]; omega
  · rw [memL_append]
    have e3 : L.set j x = L.take j ++ x :: L.drop (j + 1) := by
      rw [List.set_eq_take_append_cons_drop, if_pos (by omega)]
    have e4 : L.drop (j + 1) = List.replicate (16 - (j + 1)) zeroIn := by
      rw [← List.drop_drop, e2, List.drop_replicate]
      congr 1
    show memL M0 ++ memL [(g, L.set j x)] = _
    have e5 : memL [(g, L.set j x)] = L.set j x := by simp [memL]
    rw [e5, e3, e4, ← e1]
    simp
end
theorem encI_len (L : List In) : (encI L).length = L.length * 6 := by
  induction L with
  | nil => rfl
  | cons x L ih =>
    simp only [encI, List.flatMap_cons, List.length_append, List.length_cons] at ih ⊢
    rw [ih]
    simp [inCells]
    omega
theorem encI_split {L : List In} {j : Nat} (h : j < L.length) : encI L = encI (L.take j) ++ (inCells L[j] ++ encI (L.drop (j + 1))) := by
  have e : L = L.take j ++ L[j] :: L.drop (j + 1) := by rw [← List.drop_eq_getElem_cons h, List.take_append_drop]
  refine (congrArg encI e).trans ?_
  simp only [encI, List.flatMap_append, List.flatMap_cons]
theorem encI_set {L : List In} {j f : Nat} {x : In} {v : Value} (h : j < L.length) (hf : f < 6) (e : inCells x = (inCells L[j]).set f v) : (encI L).toArray.setIfInBounds (j * 6 + f) v = (encI (L.set j x)).toArray := by
  have l1 : (encI (L.take j)).length = j * 6 := by rw [encI_len, List.length_take]; congr 1; omega
  have e3 : L.set j x = L.take j ++ x :: L.drop (j + 1) := by
    rw [List.set_eq_take_append_cons_drop, if_pos h]
  rw [List.setIfInBounds_toArray]
  congr 1
  rw [encI_split h, e3, List.set_append_right _ _ (by omega), l1, Nat.add_sub_cancel_left, List.set_append_left _ _ (by simpa [inCells] using hf), ← e]
  simp [encI]
end Go.Proofs.Eng
