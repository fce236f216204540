/- A part of the proof: what functions of the program do, step by step. -/
import Derived.Test.YtolnpkdgnekcnaaQ6
import Derived.Test.YtolnpkdgnekcnaaQ4b
set_option linter.unusedVariables false
set_option linter.unusedSimpArgs false
namespace Go.Proofs.Eng
open Go.RowKit
abbrev Ent := Int × Option Nd
def ptrOf (d : Option Nd) : Option Addr := match d with | some d => some ⟨d.q, 0, none⟩ | none => none
def toE (e : Ent) : En := (e.1, ptrOf e.2)
def hpE (e : Ent) : Hp := match e.2 with | some d => d.hp | none => []
def hpOf (R : List Ent) : Hp := R.flatMap hpE
def OkE (R : List Ent) : Prop := ∀ e ∈ R, ∀ d, e.2 = some d → IsNd d (.pointer none) ∧ d.st.arcs.length ≤ 2147483647
noncomputable def matchE (s : St) (e : Ent) : Bool := match e.2 with | some d => same d.st s | none => false
theorem hpOf_app (a b : List Ent) : hpOf (a ++ b) = hpOf a ++ hpOf b := by simp [hpOf]
theorem hpOf_cons (e : Ent) (b : List Ent) : hpOf (e :: b) = hpE e ++ hpOf b := by simp [hpOf]
theorem At.le {w : World} {l l' : Hp} (h : At w l) (hl : Le l' l) : At w l' := ((Goes.refl h).le hl).now
theorem hpOf_move (R1 R2 : List Ent) (e : Ent) : Le (hpOf (e :: (R1 ++ R2))) (hpOf (R1 ++ e :: R2)) := by
  refine .of_perm ?_
  rw [hpOf_app, hpOf_cons, hpOf_cons, hpOf_app, ← List.append_assoc, ← List.append_assoc]
  exact List.perm_append_comm.append_right _
theorem hpOf_mem {R : List Ent} {i : Nat} (hi : i < R.length) {d : Nd} (hd : R[i].2 = some d) : Le d.hp (hpOf R) := by
  have e : R = R.take i ++ R[i] :: R.drop (i + 1) := by rw [← List.drop_eq_getElem_cons hi, List.take_append_drop]
  refine ⟨hpOf (R.take i ++ R.drop (i + 1)), ?_⟩
  have hd' : hpE R[i] = d.hp := by simp [hpE, hd]
  rw [← hd', ← hpOf_cons]
  obtain ⟨X, hX⟩ := hpOf_move (R.take i) (R.drop (i + 1)) R[i]
  have := (hpOf_move (R.take i) (R.drop (i + 1)) R[i])
  conv => lhs; rw [e]
  rw [hpOf_app, hpOf_cons, hpOf_cons, hpOf_app, ← List.append_assoc, ← List.append_assoc]
  exact List.perm_append_comm.append_right _
def Look (R : List Ent) (k : Nd) (b : Bool) (a : Int) (R' : List Ent) : Prop :=
  (∃ R1 e R2, R = R1 ++ e :: R2 ∧ matchE k.st e = true ∧ (∀ x ∈ R1, matchE k.st x = false) ∧ b = true ∧ a = e.1 ∧ R' = e :: (R1 ++ R2)) ∨
  ((∀ x ∈ R, matchE k.st x = false) ∧ ∃ R0 e, R = R0 ++ [e] ∧ b = false ∧ a = 0 ∧ R' = (e.1, some k) :: R0)
theorem ent_get {pre post : List Value} {R : List Ent} {o i j : Nat} {v : Value} (hp : pre.length = o) (hi : i < R.length) (hv : (entC (toE R[i]))[j]? = some v) : aget (pre ++ encE (R.map toE) ++ post).toArray (o + i * 2 + j) = some v := by
  have h1 := flat_get entC 2 (fun _ => rfl) (R.map toE) i (by simpa using hi) j v (by simpa using hv)
  have := mid_get pre (encE (R.map toE)) post o (i * 2 + j) v hp h1
  rw [Nat.add_assoc]; exact this
theorem ent_set {pre post : List Value} {R0 : List Ent} {e : Ent} {o : Nat} {q : Option Addr} (hp : pre.length = o) :
    (pre ++ encE ((R0 ++ [e]).map toE) ++ post).toArray.setIfInBounds (o + R0.length * 2 + 1) (.pointer q) = (pre ++ encE (R0.map toE ++ [(e.1, q)]) ++ post).toArray := by
  have e1 : pre ++ encE ((R0 ++ [e]).map toE) ++ post = (pre ++ encE (R0.map toE) ++ [.int .i64 e.1]) ++ .pointer (ptrOf e.2) :: post := by
    simp [encE, entC, toE]
  have e2 : pre ++ encE (R0.map toE ++ [(e.1, q)]) ++ post = (pre ++ encE (R0.map toE) ++ [.int .i64 e.1]) ++ .pointer q :: post := by
    simp [encE, entC, toE]
  have hl : (pre ++ encE (R0.map toE) ++ [Value.int .i64 e.1]).length = o + R0.length * 2 + 1 := by
    rw [List.length_append, List.length_append, encE_len]; simp [hp]
  rw [e1, e2, ← hl]
  simp [List.set_append]
theorem equiv_of {w : World} {Ls R0 : List Hp} {R : List Ent} {i : Nat} (hok : OkE R) (hi : i < R.length) {d : Nd} (hd : R[i].2 = some d) (hw : At w Ls.flatten) (hp : Pick Ls (hpOf R) R0) : RdNd w d.q d.st :=
  (hok _ (List.getElem_mem hi) d hd).1.rd ((At.item hw hp).le (hpOf_mem hi hd))
end Go.Proofs.Eng
