/- fromNfa: plain. -/
import Derived.Test.YtnomlnfdmoecoaaDoorM3
set_option linter.unusedVariables false
set_option linter.unusedSimpArgs false
namespace Go.Proofs.Eng
open Go.RowKit
theorem gN_goa (K : Nat → Int) (its : List It) (l : List NS) : gN K its l = goaN (hashF K) (its.map (·.1)) l := by
  unfold gN goaN hsK
  rw [List.findIdx_map, List.findIdx_map]
  rfl
theorem gT_goa (K : Nat → Int) (its : List It) (x : It) : (gT K its x).map (·.1) = goaI (hashF K) (its.map (·.1)) x.1 := by
  unfold gT goaI hsK
  rw [List.any_map, List.any_map]
  have e : ((fun y => decide (y = hashF K x.1)) ∘ fun (y : It) => hashF K y.1) = ((fun y => decide (hashF K y = hashF K x.1)) ∘ fun (y : It) => y.1) := rfl
  rw [e]
  split <;> simp
/-- Each set lies where its slice says. -/
def ItOk (its : List It) : Prop := ∀ x ∈ its, Own 87 3 x.2.1 x.1.length (x.1.flatMap nsV) x.2.2
theorem ItOk.nil : ItOk [] := fun x h => by cases h
theorem ItOk.add {K : Nat → Int} {its : List It} {x : It} (h : ItOk its) (hx : Own 87 3 x.2.1 x.1.length (x.1.flatMap nsV) x.2.2) : ItOk (gT K its x) := by
  unfold gT
  split
  · exact h
  · intro y hy
    rcases List.mem_append.1 hy with hy | hy
    · exact h y hy
    · rw [List.mem_singleton.1 hy]; exact hx
theorem itB_split (its : List It) (s : Nat) (h : s < its.length) : itB its = itB (its.take s) ++ (its[s].2.2 ++ itB (its.drop (s + 1))) := by
  have e : its = its.take s ++ its[s] :: its.drop (s + 1) := by
    rw [← List.drop_eq_getElem_cons h, List.take_append_drop]
  have h2 := congrArg itB e
  rw [h2]
  unfold itB
  rw [List.flatMap_append, List.flatMap_cons]
theorem itV_get (its : List It) (s : Nat) (h : s < its.length) : (itV its)[s]? = some its[s].2.1 := by
  simp [itV, h]
theorem itV_len (its : List It) : (itV its).length = its.length := by simp [itV]
theorem gT_len (K : Nat → Int) (its : List It) (x : It) : (gT K its x).length ≤ its.length + 1 := by
  unfold gT
  split <;> simp
theorem run_zero (H : List NS → List Int) (md : Nat) (dam : Bool) : (runFS H md dam 0).items = goaI H (goaI H [] []) initP := rfl
/-- How many vectors there are. -/
def nChi (md : Nat) : Nat := 2 ^ (2 * md + 1)
theorem nChi_le {md : Nat} (h : md ≤ 2) : 2 ≤ nChi md ∧ nChi md ≤ 32 := by
  have : md = 0 ∨ md = 1 ∨ md = 2 := by omega
  rcases this with rfl | rfl | rfl <;> decide
theorem nChi_shl {md : Nat} (h : md ≤ 2) : IntKind.i64.wrap (1 * 2 ^ (min (2 * (md : Int) + 1).toNat IntKind.i64.bits)) = ((nChi md : Nat) : Int) := by
  have : md = 0 ∨ md = 1 ∨ md = 2 := by omega
  rcases this with rfl | rfl | rfl <;> decide
theorem run_step (H : List NS → List Int) (md : Nat) (dam : Bool) (s j : Nat) (hj : j < nChi md) : runFS H md dam (s * nChi md + (j + 1)) = stepFS H md dam (runFS H md dam (s * nChi md + j)) s j := by
  have h0 : 0 < nChi md := by omega
  show stepFS H md dam (runFS H md dam (s * nChi md + j)) ((s * nChi md + j) / nChi md) ((s * nChi md + j) % nChi md) = _
  rw [Nat.add_comm (s * nChi md) j, Nat.add_mul_div_right _ _ h0, Nat.add_mul_mod_self_right, Nat.div_eq_of_lt hj, Nat.mod_eq_of_lt hj, Nat.zero_add]
/-- The vectors, as far as they are written. -/
def chiV (W i : Nat) : List Value := (List.range i).map (fun x => .int .u64 (x : Nat)) ++ List.replicate (W - i) (.int .u64 0)
theorem chiV_zero (W : Nat) : (List.replicate W (Value.int .u64 0).cells.toList).flatten = chiV W 0 := by
  have : ∀ n, (List.replicate n [Value.int .u64 0]).flatten = List.replicate n (Value.int .u64 0) := fun n => by
    induction n with
    | zero => rfl
    | succ n ih => rw [List.replicate_succ, List.flatten_cons, ih]; rfl
  show (List.replicate W [Value.int .u64 0]).flatten = _
  rw [this]
  simp [chiV]
theorem chiV_len (W i : Nat) (h : i ≤ W) : (chiV W i).length = W := by simp [chiV]; omega
theorem chiV_set (W i : Nat) (h : i < W) : (chiV W i).toArray.setIfInBounds i (.int .u64 (i : Nat)) = (chiV W (i + 1)).toArray := by
  rw [List.setIfInBounds_toArray]
  congr 1
  simp only [chiV]
  rw [List.set_append_right _ _ (by simp), List.length_map, List.length_range, Nat.sub_self, show W - i = (W - (i + 1)) + 1 by omega, List.replicate_succ, List.set_cons_zero, List.range_succ, List.map_append, List.append_assoc]
  rfl
theorem chiV_get (W i : Nat) (h : i < W) : aget (chiV W W).toArray i = some (.int .u64 (i : Nat)) := by
  rw [aget_eq]
  simp [chiV, h]
def trV (x : Nat × Nat) : List Value := [.int .u32 (x.1 : Nat), .int .u32 (x.2 : Nat)]
theorem step_dest (md : Nat) (dam : Bool) (j : Nat) (l : List NS) : nsIns (moveB (stepP md dam j l)) = destI md dam j l ∧ shiftO (stepP md dam j l) = destSh md dam j l := by
  unfold stepP destI destSh
  rw [nsSort_ins]
  exact ⟨rfl, rfl⟩
theorem set_bn {md : Nat} {dam : Bool} (h : md ≤ 2) {l : List NS} (hl : l ∈ setC md dam) : l.length ≤ 5 ∧ ∀ s ∈ l, s.o + 2 + md ≤ 8 ∧ s.d ≤ md := by
  obtain ⟨h1, h2⟩ := set_ok h hl
  exact ⟨h1, fun s hs => by have := h2 s hs; omega⟩
/-- Where the search for states ends. -/
structure EndS (H : List NS → List Int) (md : Nat) (dam : Bool) (n : Nat) : Prop where
  at_ : (runFS H md dam (n * nChi md)).items.length = n
  before : ∀ m, m < n → (runFS H md dam (m * nChi md)).items.length ≠ m
theorem EndS.uniq {H : List NS → List Int} {md : Nat} {dam : Bool} {n m : Nat} (a : EndS H md dam n) (b : EndS H md dam m) : n = m := by
  rcases Nat.lt_trichotomy n m with h | h | h
  · exact absurd a.at_ (b.before n h)
  · exact h
  · exact absurd b.at_ (a.before m h)
theorem step_next (K : Nat → Int) (md : Nat) (dam : Bool) (W s j : Nat) (hW : W = nChi md) (hj : j < W) (its : List It) (hs : s < its.length) (hi : its.map (·.1) = (runFS (hashF K) md dam (s * W + j)).items) (v : Value) (lm : Hp) :
    (gT K its (destI md dam j its[s].1, v, lm)).map (·.1) = (runFS (hashF K) md dam (s * W + (j + 1))).items ∧
    (runFS (hashF K) md dam (s * W + (j + 1))).tr = (runFS (hashF K) md dam (s * W + j)).tr ++ [(gN K its (destI md dam j its[s].1), destSh md dam j its[s].1)] := by
  subst hW
  have hg : (runFS (hashF K) md dam (s * nChi md + j)).items[s]?.getD [] = its[s].1 := by
    rw [← hi, List.getElem?_map, List.getElem?_eq_getElem hs]
    rfl
  rw [run_step (hashF K) md dam s j hj, gT_goa, gN_goa, hi]
  unfold stepFS
  dsimp only
  rw [hg]
  exact ⟨rfl, rfl⟩
theorem items_len (K : Nat → Int) {md : Nat} {dam : Bool} (hmd : md ≤ 2) (k : Nat) (its : List It) (hi : its.map (·.1) = (runFS (hashF K) md dam k).items) : its.length = (runFS (hashF K) md dam k).items.length ∧ its.length ≤ 68 ∧ ∀ x ∈ its, x.1 ∈ setC md dam := by
  have h1 := run_ok (hashF K) (dam := dam) hmd k
  have h2 := h1.len hmd
  have h3 : its.length = (runFS (hashF K) md dam k).items.length := by rw [← hi, List.length_map]
  refine ⟨h3, by omega, fun x hx => h1.mem _ ?_⟩
  rw [← hi]
  exact List.mem_map.2 ⟨x, hx, rfl⟩
theorem flat3 (X Y Z : Hp) (r : List Hp) : (X :: Y :: Z :: r).flatten = ((X ++ (Y ++ Z)) :: r).flatten := by simp
theorem gN_le (K : Nat → Int) (its : List It) (l : List NS) : gN K its l ≤ its.length := by
  unfold gN
  have := List.findIdx_le_length (p := fun x => decide (x = hashF K l)) (xs := hsK K its)
  rw [hsK_len] at this
  exact this
theorem destSh_le {md : Nat} {dam : Bool} {j : Nat} {l : List NS} : destSh md dam j l ≤ 4294967295 := by
  unfold destSh shiftO
  have := (minO_le (nsIns (transF md dam j l))).1
  split <;> omega
end Go.Proofs.Eng
