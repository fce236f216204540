/- A part of the proof: what functions of the program do, step by step. -/
import Derived.Test.YtiadbheejlhimaaWa
set_option linter.unusedVariables false
set_option linter.unusedSimpArgs false
namespace Go.Proofs.Eng
/-- The states of an automaton over letters, turned. -/
def turnI (n b : Nat) (a : Int) : Int := if a < 0 then a else ((a.toNat + b) % n : Nat)
def turnA (n b : Nat) (a : LArc) : LArc := ⟨a.r, ((a.to.toNat + b) % n : Nat)⟩
def turnS (n b : Nat) (s : LSt) : LSt := ⟨turnI n b s.dflt, s.arcs.reverse.map (turnA n b), s.dist, s.ex⟩
theorem turnI_lt {n b : Nat} {a : Int} (hn : 0 < n) (h : -1 ≤ a) : -1 ≤ turnI n b a ∧ turnI n b a < n := by
  unfold turnI
  have := Nat.mod_lt (a.toNat + b) hn
  split <;> omega
theorem turnS_ok {n b : Nat} {s : LSt} (hn : 0 < n) (h : LOk n s) : LOk (n + 1) (turnS n b s) := by
  have h1 := turnI_lt (n := n) (b := b) hn h.d0
  refine ⟨h1.1, by show turnI n b s.dflt < _; omega, by show (s.arcs.reverse.map (turnA n b)).length ≤ 12; simpa using h.few, fun a ha => ?_⟩
  obtain ⟨x, hx, rfl⟩ := List.mem_map.1 ha
  have h2 := h.arcs x (List.mem_reverse.1 hx)
  have h3 := Nat.mod_lt (x.to.toNat + b) hn
  unfold turnA
  dsimp only
  exact ⟨h2.1, h2.2.1, by omega, by omega⟩
theorem turnS_good {n b : Nat} {s : LSt} (hn : 0 < n) (h : LGood n s) : LGood (n + 1) (turnS n b s) := by
  refine ⟨turnS_ok hn h.ok, fun j hj k hk hlt => ?_⟩
  have hj' : j < s.arcs.length := by simpa [turnS] using hj
  have hk' : k < s.arcs.length := by simpa [turnS] using hk
  have e : ∀ i (hi : i < (turnS n b s).arcs.length) (hi' : i < s.arcs.length), (turnS n b s).arcs[i].r = (s.arcs[s.arcs.length - 1 - i]'(by omega)).r := by
    intro i hi hi'
    have hi2 : i < (s.arcs.reverse.map (turnA n b)).length := hi
    show ((s.arcs.reverse.map (turnA n b))[i]'hi2).r = _
    rw [List.getElem_map, List.getElem_reverse]
    rfl
  rw [e j hj hj', e k hk hk']
  exact fun e => h.diff (s.arcs.length - 1 - k) (by omega) (s.arcs.length - 1 - j) (by omega) (by omega) e.symm
theorem turn_next {n b : Nat} {s : LSt} (h : LGood n s) (x : Int) : (turnS n b s).next x = turnI n b (s.next x) := by
  unfold LSt.next
  cases hf : s.arcs.find? (fun a => a.r == x) with
  | none =>
    have : (turnS n b s).arcs.find? (fun a => a.r == x) = none := by
      rw [List.find?_eq_none] at hf ⊢
      intro a ha
      obtain ⟨y, hy, rfl⟩ := List.mem_map.1 ha
      exact hf y (List.mem_reverse.1 hy)
    rw [this]
    rfl
  | some a =>
    have ha := List.mem_of_find?_eq_some hf
    have hb := List.find?_some hf
    have hm : turnA n b a ∈ (turnS n b s).arcs := List.mem_map.2 ⟨a, List.mem_reverse.2 ha, rfl⟩
    have ha2 := h.ok.arcs a ha
    cases hg : (turnS n b s).arcs.find? (fun a => a.r == x) with
    | none =>
      have := List.find?_eq_none.1 hg _ hm
      exact absurd hb this
    | some a' =>
      have ha' := List.mem_of_find?_eq_some hg
      have hb' := List.find?_some hg
      obtain ⟨y, hy, rfl⟩ := List.mem_map.1 ha'
      have e1 : a.r = x := by simpa using hb
      have e2 : y.r = x := by simpa [turnA] using hb'
      have : y = a := arc_uniq h (List.mem_reverse.1 hy) ha (by rw [e1, e2])
      subst this
      show ((y.to.toNat + b) % n : Nat) = turnI n b y.to
      unfold turnI
      rw [if_neg (by omega)]
/-- An automaton and the same with its states turned. -/
structure Turned (n b : Nat) (sts sts' : List LSt) : Prop where
  len : sts.length = n
  good : ∀ s ∈ sts, LGood n s
  at' : ∀ j (h : j < sts.length), sts'[(j + b) % n]? = some (turnS n b sts[j])
theorem Turned.nxt {n b : Nat} {sts sts' : List LSt} (h : Turned n b sts sts') {a : Int} (h1 : a < n) (r : Nat) : Eng.nxt sts' (turnI n b a) r = turnI n b (Eng.nxt sts a r) := by
  by_cases ha : a < 0
  · have e : turnI n b a = a := if_pos ha
    rw [e]
    unfold Eng.nxt
    rw [if_pos ha, if_pos ha]
    rfl
  · have hlt : a.toNat < sts.length := by have := h.len; omega
    have e : turnI n b a = ((a.toNat + b) % n : Nat) := if_neg ha
    rw [e]
    unfold Eng.nxt
    rw [if_neg ha, if_neg (by omega), Int.toNat_natCast, h.at' a.toNat hlt, List.getElem?_eq_getElem hlt]
    exact turn_next (h.good _ (List.getElem_mem hlt)) _
theorem Turned.goS {n b : Nat} {sts sts' : List LSt} (hn : 0 < n) (h : Turned n b sts sts') : ∀ (l : List Nat) (a : Int), -1 ≤ a → a < n → Eng.goS sts' (turnI n b a) l = turnI n b (Eng.goS sts a l)
  | [], a, _, _ => rfl
  | r :: l, a, h1, h2 => by
    show Eng.goS sts' (Eng.nxt sts' (turnI n b a) r) l = turnI n b (Eng.goS sts (Eng.nxt sts a r) l)
    rw [h.nxt h2]
    have hg : ∀ s ∈ sts, LOk sts.length s := fun s hs => by rw [h.len]; exact (h.good s hs).ok
    rcases nxt_ok hg a r with e | e
    · exact Turned.goS hn h l _ e.1 (by have := h.len; omega)
    · exfalso
      subst e
      have := h.len
      simp at this
      subst this
      omega
theorem Turned.tell {n b : Nat} {sts sts' : List LSt} (h : Turned n b sts sts') {a : Int} (h2 : a < n) : tellD sts' (turnI n b a) = tellD sts a := by
  unfold tellD
  by_cases ha : a < 0
  · have e : turnI n b a = a := if_pos ha
    rw [e, if_pos ha, if_pos ha]
  · have hlt : a.toNat < sts.length := by have := h.len; omega
    have e : turnI n b a = ((a.toNat + b) % n : Nat) := if_neg ha
    rw [e, if_neg ha, if_neg (by omega), Int.toNat_natCast, h.at' a.toNat hlt, List.getElem?_eq_getElem hlt]
    rfl
theorem turnI_neg {n b : Nat} {a : Int} : 0 ≤ turnI n b a ↔ 0 ≤ a := by
  unfold turnI
  split <;> omega
theorem mod_inj {n b i j : Nat} (hi : i < n) (hj : j < n) (hb : b < n) (h : (i + b) % n = (j + b) % n) : i = j := by
  have e : ∀ k, k < n → (k + b) % n = if k + b < n then k + b else k + b - n := by
    intro k hk
    split
    · exact Nat.mod_eq_of_lt ‹_›
    · rw [Nat.mod_eq_sub_mod (by omega)]
      exact Nat.mod_eq_of_lt (by omega)
  rw [e i hi, e j hj] at h
  split at h <;> split at h <;> omega
theorem tmod_nat {a : Int} {b n : Nat} (h : 0 ≤ a) : (a + (b : Int)).tmod (n : Int) = ((a.toNat + b) % n : Nat) := by
  obtain ⟨m, rfl⟩ : ∃ m : Nat, a = m := ⟨a.toNat, by omega⟩
  rw [← Int.natCast_add, Int.toNat_natCast]
  rfl
theorem flat_set {α : Type} (f : α → List Value) (k : Nat) (hk : ∀ x, (f x).length = k) : ∀ (T : List α) (p : Nat) (x : α), p < T.length → (T.flatMap f).take (p * k) ++ f x ++ (T.flatMap f).drop (p * k + (f x).length) = (T.set p x).flatMap f
  | [], p, x, h => by simp at h
  | y :: T, 0, x, _ => by
    have h1 := hk x
    have h2 := hk y
    simp only [Nat.zero_mul, List.take_zero, List.nil_append, Nat.zero_add, List.flatMap_cons, List.set_cons_zero]
    rw [h1, ← h2, List.drop_left]
  | y :: T, p + 1, x, h => by
    have h1 := hk x
    have h2 := hk y
    have ih := flat_set f k hk T p x (by simpa using h)
    simp only [List.flatMap_cons, List.set_cons_succ]
    rw [← ih, Nat.add_mul, Nat.one_mul, Nat.add_comm (p * k) k, ← h2, List.take_length_add_append, Nat.add_assoc, List.drop_append, List.drop_eq_nil_of_le (by omega), List.nil_append, Nat.add_sub_cancel_left]
    simp
end Go.Proofs.Eng
