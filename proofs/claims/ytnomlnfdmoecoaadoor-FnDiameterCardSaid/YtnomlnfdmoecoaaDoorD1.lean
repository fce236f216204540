/- Plain law: in order. -/
import Derived.Test.YtnomlnfdmoecoaaDoorD0
set_option linter.unusedVariables false
set_option linter.unusedSimpArgs false
namespace Go.Proofs.Eng
theorem nsLt_iff' (x y : NS) : nsLt x y = true ↔ x.o < y.o ∨ (x.o = y.o ∧ (x.d < y.d ∨ (x.d = y.d ∧ x.t = false ∧ y.t = true))) := by
  unfold nsLt
  by_cases h1 : x.o = y.o
  · by_cases h2 : x.d = y.d
    · simp [h1, h2]
    · simp [h1, h2]
  · simp [h1]
theorem nsPut_perm (x : NS) (l : List NS) : (nsPut x l).Perm (x :: l) := by
  induction l with
  | nil => exact List.Perm.refl _
  | cons y l ih =>
    unfold nsPut
    split
    · exact (List.Perm.cons y ih).trans (List.Perm.swap x y l)
    · exact List.Perm.refl _
theorem nsIns_perm (l : List NS) : (nsIns l).Perm l := by
  induction l with
  | nil => exact List.Perm.refl _
  | cons x l ih => exact (nsPut_perm x _).trans (List.Perm.cons x ih)
theorem nsLe_trans {x y z : NS} (h1 : nsLt y x = false) (h2 : nsLt z y = false) : nsLt z x = false := by
  rw [Bool.eq_false_iff] at *
  simp only [ne_eq, nsLt_iff'] at *
  cases hx : x.t <;> cases hy : y.t <;> cases hz : z.t <;> simp [hx, hy, hz] at h1 h2 ⊢ <;> omega
theorem nsPut_sorted (x : NS) (l : List NS) (h : l.Pairwise (fun a b => nsLt b a = false)) : (nsPut x l).Pairwise (fun a b => nsLt b a = false) := by
  induction l with
  | nil => simp [nsPut]
  | cons y l ih =>
    obtain ⟨h1, h2⟩ := List.pairwise_cons.1 h
    unfold nsPut
    split
    · rename_i hlt
      refine List.pairwise_cons.2 ⟨fun z hz => ?_, ih h2⟩
      rcases List.mem_cons.1 ((nsPut_perm x l).mem_iff.1 hz) with rfl | hz
      · rw [Bool.eq_false_iff]
        simp only [ne_eq, nsLt_iff'] at hlt ⊢
        cases hx : z.t <;> cases hy : y.t <;> simp [hx, hy] at hlt ⊢ <;> omega
      · exact h1 z hz
    · rename_i hlt
      have hlt' : nsLt y x = false := by simpa using hlt
      refine List.pairwise_cons.2 ⟨fun z hz => ?_, h⟩
      rcases List.mem_cons.1 hz with rfl | hz
      · exact hlt'
      · exact nsLe_trans hlt' (h1 z hz)
theorem nsIns_sorted (l : List NS) : (nsIns l).Pairwise (fun a b => nsLt b a = false) := by
  induction l with
  | nil => simp [nsIns]
  | cons x l ih => exact nsPut_sorted x _ ih
theorem nsLt_anti' (x y : NS) (h1 : nsLt x y = false) (h2 : nsLt y x = false) : x = y := by
  rw [Bool.eq_false_iff] at *
  simp only [ne_eq, nsLt_iff'] at *
  obtain ⟨xo, xd, xt⟩ := x
  obtain ⟨yo, yd, yt⟩ := y
  cases xt <;> cases yt <;> simp at h1 h2 ⊢ <;> omega
theorem nsIns_unique {l l' : List NS} (h : l'.Perm l) (hs : l'.Pairwise (fun a b => nsLt b a = false)) : l' = nsIns l :=
  List.Perm.eq_of_pairwise (fun x y _ _ p q => nsLt_anti' x y q p) hs (nsIns_sorted l) (h.trans (nsIns_perm l).symm)
theorem nsIns_mem {l : List NS} {s : NS} : s ∈ nsIns l ↔ s ∈ l := (nsIns_perm l).mem_iff
theorem nsIns_len (l : List NS) : (nsIns l).length = l.length := (nsIns_perm l).length_eq
end Go.Proofs.Eng

set_option linter.unusedVariables false
set_option linter.unusedSimpArgs false
namespace Go.Proofs.Eng
def destSh (md : Nat) (dam : Bool) (chi : Nat) (l : List NS) : Nat := shiftO (nsIns (transF md dam chi l))
/-- What is found of a set of places: its number, and the sets then. -/
def goaN (H : List NS → List Int) (items : List (List NS)) (m : List NS) : Nat := items.findIdx fun x => decide (H x = H m)
def goaI (H : List NS → List Int) (items : List (List NS)) (m : List NS) : List (List NS) := if items.any (fun x => decide (H x = H m)) = true then items else items ++ [m]
structure FS where
  items : List (List NS)
  tr : List (Nat × Nat)
def initP : List NS := [⟨0, 0, false⟩]
def startFS (H : List NS → List Int) : FS := ⟨goaI H (goaI H [] []) initP, []⟩
def stepFS (H : List NS → List Int) (md : Nat) (dam : Bool) (s : FS) (sid chi : Nat) : FS :=
  ⟨goaI H s.items (destI md dam chi (s.items[sid]?.getD [])), s.tr ++ [(goaN H s.items (destI md dam chi (s.items[sid]?.getD [])), destSh md dam chi (s.items[sid]?.getD []))]⟩
/-- After so many steps. -/
def runFS (H : List NS → List Int) (md : Nat) (dam : Bool) : Nat → FS
  | 0 => startFS H
  | k + 1 => stepFS H md dam (runFS H md dam k) (k / 2 ^ (2 * md + 1)) (k % 2 ^ (2 * md + 1))
def setAll (md : Nat) (dam : Bool) : Prop := closedC md dam (setC md dam) = true
theorem closed_all2 {md : Nat} {dam : Bool} (h : md ≤ 2) : closedC md dam (setC md dam) = true := by
  have : md = 0 ∨ md = 1 ∨ md = 2 := by omega
  rcases this with rfl | rfl | rfl <;> cases dam
  · exact closed0f
  · exact closed0t
  · exact closed1f
  · exact closed1t
  · exact closed2f
  · exact closed2t
theorem dest_mem {md : Nat} {dam : Bool} (h : md ≤ 2) {l : List NS} (hl : l ∈ setC md dam) {chi : Nat} (hc : chi < 2 ^ (2 * md + 1)) : destI md dam chi l ∈ setC md dam := by
  have := closed_all2 (dam := dam) h
  unfold closedC at this
  have h1 := List.all_eq_true.1 this l hl
  have h2 := List.all_eq_true.1 h1 chi (List.mem_range.2 hc)
  unfold inC at h2
  obtain ⟨x, hx, e⟩ := List.any_eq_true.1 h2
  rw [← of_decide_eq_true e]
  exact hx
def okC (md : Nat) (dam : Bool) : Bool := (setC md dam).all fun l => decide (l.length ≤ 5) && l.all fun s => decide (s.o ≤ 4) && decide (s.d ≤ md)
theorem okC_all {md : Nat} {dam : Bool} (h : md ≤ 2) : okC md dam = true ∧ (setC md dam).length ≤ 68 ∧ [] ∈ setC md dam ∧ initP ∈ setC md dam := by
  have : md = 0 ∨ md = 1 ∨ md = 2 := by omega
  rcases this with rfl | rfl | rfl <;> cases dam <;> decide +kernel
theorem set_ok {md : Nat} {dam : Bool} (h : md ≤ 2) {l : List NS} (hl : l ∈ setC md dam) : l.length ≤ 5 ∧ ∀ s ∈ l, s.o ≤ 4 ∧ s.d ≤ md := by
  have := (okC_all (dam := dam) h).1
  unfold okC at this
  have h1 := List.all_eq_true.1 this l hl
  rw [Bool.and_eq_true, decide_eq_true_eq] at h1
  refine ⟨h1.1, fun s hs => ?_⟩
  have h2 := List.all_eq_true.1 h1.2 s hs
  rw [Bool.and_eq_true, decide_eq_true_eq, decide_eq_true_eq] at h2
  exact h2
/-- What the sets are at any time: among those that can come, with unlike hashes. -/
structure OkI (H : List NS → List Int) (md : Nat) (dam : Bool) (items : List (List NS)) : Prop where
  mem : ∀ l ∈ items, l ∈ setC md dam
  un : items.Pairwise (fun a b => H a ≠ H b)
theorem OkI.nil (H : List NS → List Int) (md : Nat) (dam : Bool) : OkI H md dam [] := ⟨by simp, by simp⟩
theorem OkI.goa {H : List NS → List Int} {md : Nat} {dam : Bool} {items : List (List NS)} (h : OkI H md dam items) {m : List NS} (hm : m ∈ setC md dam) : OkI H md dam (goaI H items m) := by
  unfold goaI
  split
  · exact h
  · rename_i hn
    refine ⟨?_, ?_⟩
    · intro l hl
      rcases List.mem_append.1 hl with hl | hl
      · exact h.mem l hl
      · rw [List.mem_singleton.1 hl]; exact hm
    · refine List.pairwise_append.2 ⟨h.un, by simp, fun a ha b hb e => ?_⟩
      rw [List.mem_singleton.1 hb] at e
      exact hn (List.any_eq_true.2 ⟨a, ha, by simp [e]⟩)
theorem nodup_sub {α : Type} [DecidableEq α] : ∀ (l C : List α), l.Nodup → (∀ x ∈ l, x ∈ C) → l.length ≤ C.length
  | [], C, _, _ => by simp
  | x :: l, C, hn, h => by
    have hx := h x (by simp)
    obtain ⟨h1, h2⟩ := List.nodup_cons.1 hn
    have ih := nodup_sub l (C.erase x) h2 (fun y hy => by
      have hne : y ≠ x := fun e => h1 (e ▸ hy)
      exact (List.mem_erase_of_ne hne).2 (h y (by simp [hy])))
    rw [List.length_erase_of_mem hx] at ih
    have : 0 < C.length := List.length_pos_of_mem hx
    simp
    omega
theorem OkI.len {H : List NS → List Int} {md : Nat} {dam : Bool} {items : List (List NS)} (h : OkI H md dam items) (hmd : md ≤ 2) : items.length ≤ 68 := by
  have h1 : items.Nodup := h.un.imp fun hne e => hne (by rw [e])
  exact Nat.le_trans (nodup_sub items (setC md dam) h1 h.mem) (okC_all hmd).2.1
theorem goaI_pre (H : List NS → List Int) (items : List (List NS)) (m : List NS) : ∃ t, goaI H items m = items ++ t := by
  unfold goaI
  split
  · exact ⟨[], by simp⟩
  · exact ⟨[m], rfl⟩
theorem goaN_lt (H : List NS → List Int) (items : List (List NS)) (m : List NS) : goaN H items m < (goaI H items m).length := by
  unfold goaN goaI
  split
  · rename_i h
    rw [List.any_eq_true] at h
    exact List.findIdx_lt_length_of_exists h
  · rename_i h
    rw [List.findIdx_eq_length_of_false (fun x hx => by
      cases hd : decide (H x = H m) with
      | false => rfl
      | true => exact absurd (List.any_eq_true.2 ⟨x, hx, hd⟩) h)]
    simp
theorem start_ok (H : List NS → List Int) {md : Nat} {dam : Bool} (hmd : md ≤ 2) : OkI H md dam (startFS H).items := by
  have h := okC_all (dam := dam) hmd
  exact ((OkI.nil H md dam).goa h.2.2.1).goa h.2.2.2
theorem run_ok (H : List NS → List Int) {md : Nat} {dam : Bool} (hmd : md ≤ 2) : ∀ k, OkI H md dam (runFS H md dam k).items
  | 0 => start_ok H hmd
  | k + 1 => by
    have ih := run_ok H (dam := dam) hmd k
    refine ih.goa (dest_mem hmd ?_ (Nat.mod_lt _ (Nat.pow_pos (by omega))))
    cases he : (runFS H md dam k).items[k / 2 ^ (2 * md + 1)]? with
    | none => exact (okC_all hmd).2.2.1
    | some l => exact ih.mem l (List.mem_of_getElem? he)
theorem run_trlen (H : List NS → List Int) (md : Nat) (dam : Bool) : ∀ k, (runFS H md dam k).tr.length = k
  | 0 => rfl
  | k + 1 => by
    simp only [runFS, stepFS, List.length_append, List.length_singleton]
    rw [run_trlen H md dam k]
theorem run_mono (H : List NS → List Int) (md : Nat) (dam : Bool) (k : Nat) : (runFS H md dam k).items.length ≤ (runFS H md dam (k + 1)).items.length := by
  obtain ⟨t, ht⟩ := goaI_pre H (runFS H md dam k).items (destI md dam (k % 2 ^ (2 * md + 1)) ((runFS H md dam k).items[k / 2 ^ (2 * md + 1)]?.getD []))
  simp only [runFS, stepFS]
  rw [ht, List.length_append]
  omega
theorem run_mono' (H : List NS → List Int) (md : Nat) (dam : Bool) (k j : Nat) : (runFS H md dam k).items.length ≤ (runFS H md dam (k + j)).items.length := by
  induction j with
  | zero => exact Nat.le_refl _
  | succ j ih => exact Nat.le_trans ih (run_mono H md dam (k + j))
/-- Where an arc leads there is a set. -/
theorem run_tr (H : List NS → List Int) (md : Nat) (dam : Bool) : ∀ k, ∀ x ∈ (runFS H md dam k).tr, x.1 < (runFS H md dam k).items.length
  | 0 => by simp [runFS, startFS]
  | k + 1 => by
    intro x hx
    simp only [runFS, stepFS] at hx
    rcases List.mem_append.1 hx with hx | hx
    · exact Nat.lt_of_lt_of_le (run_tr H md dam k x hx) (run_mono H md dam k)
    · rw [List.mem_singleton.1 hx]
      exact goaN_lt H _ _
end Go.Proofs.Eng
