/- The builder of automata over bytes: its state in memory; blocks that are filled. -/
import Derived.Test.YtiadbheejlhimaaEngT3
set_option linter.unusedVariables false
set_option linter.unusedSimpArgs false
namespace Go.Proofs.Eng
open Go.RowKit
/-- A part of a block is filled. -/
def setR (cs : Array Value) (o n : Nat) (v : Value) : Array Value := (cs.toList.take o ++ List.replicate n v ++ cs.toList.drop (o + n)).toArray
theorem setR_zero (cs : Array Value) (o : Nat) (v : Value) : setR cs o 0 v = cs := by
  unfold setR
  simp
theorem setR_size {cs : Array Value} {o n : Nat} {v : Value} (h : o + n ≤ cs.size) : (setR cs o n v).size = cs.size := by
  unfold setR
  simp; omega
theorem setR_step {cs : Array Value} {o n : Nat} {v : Value} (h : o + n < cs.size) : (setR cs o n v).setIfInBounds (o + n) v = setR cs o (n + 1) v := by
  apply Array.ext'
  unfold setR
  simp only [Array.toList_setIfInBounds]
  have hd : cs.toList.drop (o + n) = cs.toList[o + n]'(by simpa using h) :: cs.toList.drop (o + n + 1) := List.drop_eq_getElem_cons _
  have hl : (cs.toList.take o ++ List.replicate n v).length = o + n := by simp; omega
  rw [hd, List.set_append_right _ _ (by omega), hl, Nat.sub_self, List.set_cons_zero, List.replicate_succ', ← Nat.add_assoc]
  simp
/-- The same of numbers. -/
def fillR (l : List Nat) (o n v : Nat) : List Nat := l.take o ++ List.replicate n v ++ l.drop (o + n)
theorem fillR_len {l : List Nat} {o n v : Nat} (h : o + n ≤ l.length) : (fillR l o n v).length = l.length := by
  unfold fillR
  simp; omega
theorem fillR_get {l : List Nat} {o n v i : Nat} (h : o + n ≤ l.length) : (fillR l o n v)[i]? = if o ≤ i ∧ i < o + n then some v else l[i]? := by
  unfold fillR
  by_cases h1 : i < o
  · rw [if_neg (by omega), List.getElem?_append_left (by simp; omega), List.getElem?_append_left (by simp; omega), List.getElem?_take, if_pos h1]
  · by_cases h2 : i < o + n
    · rw [if_pos (by omega), List.getElem?_append_left (by simp; omega), List.getElem?_append_right (by simp; omega), List.getElem?_replicate, if_pos (by simp; omega)]
    · rw [if_neg (by omega), List.getElem?_append_right (by simp; omega), List.getElem?_drop]
      congr 1
      simp
      omega
theorem map_fillR (f : Nat → Value) (l : List Nat) (o n v : Nat) : (fillR l o n v).map f = (l.map f).take o ++ List.replicate n (f v) ++ (l.map f).drop (o + n) := by
  unfold fillR
  simp [List.map_take, List.map_drop]
theorem Own.setR {e size n cap g o k x : Nat} {f : Nat → Value} {fl : List Nat} {cur : Array Value} (h : Own e size (.slice (some ⟨g, 0, none⟩) n cap) n (fl.map f) [⟨g, .cells cur e (0, 0)⟩]) (ho : o + k ≤ n * size) :
    Own e size (.slice (some ⟨g, 0, none⟩) n cap) n ((fillR fl o k x).map f) [⟨g, .cells (Eng.setR cur o k (f x)) e (0, 0)⟩] := by
  have hl := h.1
  simp only [List.length_map] at hl
  refine ⟨by rw [List.length_map, fillR_len (by omega)]; exact hl, ?_⟩
  rcases h.2 with ⟨h1, _, _⟩ | ⟨g', cap', cur', h1, h2, h3, h4, h5, h6⟩
  · cases h1
  · simp only [Value.slice.injEq, Option.some.injEq, Addr.mk.injEq, and_true, true_and] at h1
    obtain ⟨rfl, rfl⟩ := h1
    simp only [List.cons.injEq, Blk.mk.injEq, Obj.cells.injEq, and_true, true_and] at h2
    subst h2
    have hle : n * size ≤ cap * size := Nat.mul_le_mul_right _ h3
    refine .inr ⟨g, cap, _, rfl, rfl, h3, h4, by rw [setR_size (by omega)]; exact h5, ?_⟩
    rw [map_fillR, ← h6]
    unfold Eng.setR
    simp only [List.toList_toArray]
    apply List.ext_getElem?
    intro i
    have hcs : cur.toList.length = cap * size := by simpa using h5
    by_cases h1 : i < o
    · rw [List.getElem?_take, if_pos (by omega), List.getElem?_append_left (by simp; omega), List.getElem?_append_left (by simp; omega), List.getElem?_take, if_pos h1,
        List.getElem?_append_left (by simp; omega), List.getElem?_append_left (by simp; omega), List.getElem?_take, if_pos h1, List.getElem?_take, if_pos (by omega)]
    · by_cases h2 : i < o + k
      · rw [List.getElem?_take, if_pos (by omega), List.getElem?_append_left (by simp; omega), List.getElem?_append_right (by simp; omega),
          List.getElem?_append_left (by simp; omega), List.getElem?_append_right (by simp; omega)]
        congr 1
        simp
        omega
      · by_cases h7 : i < n * size
        · rw [List.getElem?_take, if_pos h7, List.getElem?_append_right (by simp; omega), List.getElem?_append_right (by simp; omega), List.getElem?_drop, List.getElem?_drop, List.getElem?_take, if_pos (by simp; omega)]
          congr 1
          simp
          omega
        · rw [List.getElem?_take, if_neg h7, List.getElem?_eq_none]
          simp; omega
theorem Own.set {e size n cap g o : Nat} {v : Value} {xs : List Value} {cur : Array Value} (h : Own e size (.slice (some ⟨g, 0, none⟩) n cap) n xs [⟨g, .cells cur e (0, 0)⟩]) :
    Own e size (.slice (some ⟨g, 0, none⟩) n cap) n (xs.set o v) [⟨g, .cells (cur.setIfInBounds o v) e (0, 0)⟩] := by
  have hl := h.1
  refine ⟨by simpa using hl, ?_⟩
  rcases h.2 with ⟨h1, _, _⟩ | ⟨g', cap', cur', h1, h2, h3, h4, h5, h6⟩
  · cases h1
  · simp only [Value.slice.injEq, Option.some.injEq, Addr.mk.injEq, and_true, true_and] at h1
    obtain ⟨rfl, rfl⟩ := h1
    simp only [List.cons.injEq, Blk.mk.injEq, Obj.cells.injEq, and_true, true_and] at h2
    subst h2
    exact .inr ⟨g, cap, _, rfl, rfl, h3, h4, by simpa using h5, by rw [Array.toList_setIfInBounds, ← h6, List.take_set]⟩
def v32 (x : Nat) : Value := .int .u32 x
def dv (x : Bool × Nat) : Value := .iface (if x.1 then 116 else 117) (.agg #[.int .u8 x.2])
/-- The builder, as numbers: the index of its states, their distances, their transitions (256 each), the first state, how many there are, how many there may be. -/
structure Bd where
  idx : List Nat
  dist : List (Bool × Nat)
  fl : List Nat
  init : Nat
  max : Nat
  n : Nat
/-- Where it lies. -/
structure BdM where
  q : Nat
  gi : Nat
  vd : Value
  vt : Value
  ld : Hp
  lt : Hp
def bdC (b : Bd) (m : BdM) : Array Value := #[.slice (some ⟨m.gi, 0, none⟩) b.idx.length b.idx.length, m.vd, m.vt, .int .u32 b.init, .int .u32 b.n, .int .u32 b.max]
def bdH (b : Bd) (m : BdM) : List Hp := [[⟨m.q, .cells (bdC b m) 132 (0, 0)⟩], [⟨m.gi, .cells (b.idx.map v32).toArray 23 (0, 0)⟩], m.ld, m.lt]
structure BdOk (b : Bd) (m : BdM) : Prop where
  od : Own 77 1 m.vd b.n (b.dist.map dv) m.ld
  ot : Own 121 256 m.vt b.n (b.fl.map v32) m.lt
  few : b.n ≤ 100000000
  idl : b.idx.length ≤ 100000000
theorem BdOk.flen {b : Bd} {m : BdM} (h : BdOk b m) : b.fl.length = b.n * 256 := by have := h.ot.1; simpa using this
def MAX32 : Nat := 4294967295
def Bd.alloc (b : Bd) : Bd := { b with dist := b.dist ++ [(false, 255)], fl := b.fl ++ List.replicate 256 0, n := b.n + 1 }
def Bd.at (b : Bd) (s : Nat) : Nat := b.idx.getD s 0
/-- The state of a number, and what the builder becomes. -/
def Bd.goa (b : Bd) (s : Nat) : Nat × Bd := if b.at s = MAX32 then (b.n, { b.alloc with idx := b.idx.set s b.n }) else (b.at s, b)
end Go.Proofs.Eng
