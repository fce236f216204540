/- A part of the proof: what functions of the program do, step by step. -/
import Derived.Test.YtnomlnfdmoecoaaDoorEngT5
import Derived.Test.YtnomlnfdmoecoaaDoorD0
import Derived.Test.YtnomlnfdmoecoaaDoorU1
import Derived.Sort.Defs
import Derived.Sort.AssemblyPlain
set_option linter.unusedVariables false
set_option linter.unusedSimpArgs false
namespace Go.Proofs.Eng
open Go.RowKit
def nsV (s : NS) : List Value := [.int .u32 s.o, .int .u8 s.d, .bool s.t]
theorem nsV_one (s : NS) : ∀ v ∈ (nsV s).toArray.toList, v.oneCell' = true := by
  intro v hv
  simp [nsV] at hv
  rcases hv with rfl | rfl | rfl <;> rfl
/-- A row of places in memory, with what lies behind it. -/
def rowH (g : Nat) (sp : List Value) (d : Array NS) : Hp := [⟨g, .cells (d.toList.flatMap nsV ++ sp).toArray 87 (0, 0)⟩]
theorem row_get {d : Array NS} {sp : List Value} {i f : Nat} {v : Value} (hi : i < d.size) (hv : (nsV d[i]!)[f]? = some v) : aget (d.toList.flatMap nsV ++ sp).toArray (i * 3 + f) = some v := by
  have hf : f < 3 := by
    have := (List.getElem?_eq_some_iff.1 hv).1
    simpa [nsV] using this
  have hl := flat_len nsV 3 (fun _ => rfl) d.toList
  have hil : i < d.toList.length := by simpa using hi
  rw [aget_eq]
  simp only [List.getElem?_toArray]
  rw [List.getElem?_append_left (by rw [hl]; simp; omega)]
  refine flat_get nsV 3 (fun _ => rfl) d.toList i hil f v ?_
  rw [Array.getElem_toList]
  rw [getElem!_pos d i hi] at hv
  exact hv
theorem row_cells {C : Ctx} {Ls : List Hp} {g i : Nat} {sp : List Value} {d : Array NS} (hh : Has Ls g (.cells (d.toList.flatMap nsV ++ sp).toArray 87 (0, 0))) (hi : i < d.size) : ∀ (k : Nat) v, (nsV d[i]!)[k]? = some v → Cell C Ls ⟨g, i * 3 + k, none⟩ v :=
  fun k v hv => cell_of_has hh (row_get hi hv)
theorem row_set {d : Array NS} {sp : List Value} {i : Nat} {x : NS} (hi : i < d.size) :
    ((d.toList.flatMap nsV ++ sp).toArray.toList.take (i * 3) ++ (nsV x).toArray.toList ++ (d.toList.flatMap nsV ++ sp).toArray.toList.drop (i * 3 + (nsV x).toArray.size)).toArray = ((d.setIfInBounds i x).toList.flatMap nsV ++ sp).toArray := by
  have key : ∀ (T : List NS) (p : Nat), p < T.length → (T.flatMap nsV ++ sp).take (p * 3) ++ nsV x ++ (T.flatMap nsV ++ sp).drop (p * 3 + 3) = (T.set p x).flatMap nsV ++ sp := by
    intro T
    induction T with
    | nil => intro p h; simp at h
    | cons y T ih =>
      intro p h
      cases p with
      | zero => simp [nsV]
      | succ p =>
        have := ih p (by simpa using h)
        simp only [List.flatMap_cons, List.set_cons_succ, List.append_assoc]
        simp only [List.append_assoc] at this
        rw [← this, show (p + 1) * 3 = (nsV y).length + p * 3 by simp [nsV]; omega, List.take_length_add_append, show (nsV y).length + p * 3 + 3 = (nsV y).length + (p * 3 + 3) by omega, List.drop_length_add_append]
        simp
  have := key d.toList i (by simpa using hi)
  simpa [nsV] using congrArg List.toArray this
theorem row_size (g : Nat) (sp : List Value) (d : Array NS) : (d.toList.flatMap nsV ++ sp).toArray.size = d.size * 3 + sp.length := by
  have hl := flat_len nsV 3 (fun _ => rfl) d.toList
  simp only [List.size_toArray, List.length_append, hl]
  simp
set_option maxRecDepth 100000 in
set_option maxHeartbeats 8000000 in
theorem less_any (w : World) (g cap : Nat) (sp : List Value) (d : Array NS) (a b : Int) (i j : Nat) (ha : a = i) (hb : b = j) (hi : i < d.size) (hj : j < d.size) (hw : At w ([rowH g sp d] : List Hp).flatten) :
    Calls Tryd.prog 85 #[.slice (some ⟨g, 0, none⟩) d.size cap, .int .i64 a, .int .i64 b] w (Post w ([rowH g sp d] : List Hp).flatten (fun _ : Unit => .bool (nsLt d[i]! d[j]!)) (fun _ => ([rowH g sp d] : List Hp).flatten) (fun _ => True)) := by
  subst ha hb
  refine enter [rowH g sp d] Tryd.func85 rfl rfl hw (Le.refl _) ?_
  intro R hR
  dsimp only [rowH] at hR ⊢
  have ai0 : aget (d.toList.flatMap nsV ++ sp).toArray (i * 3 + 0) = some (.int .u32 (d[i]!).o) := row_get hi rfl
  have aj0 : aget (d.toList.flatMap nsV ++ sp).toArray (j * 3 + 0) = some (.int .u32 (d[j]!).o) := row_get hj rfl
  have ai1 : aget (d.toList.flatMap nsV ++ sp).toArray (i * 3 + 1) = some (.int .u8 (d[i]!).d) := row_get hi rfl
  have aj1 : aget (d.toList.flatMap nsV ++ sp).toArray (j * 3 + 1) = some (.int .u8 (d[j]!).d) := row_get hj rfl
  have ai2 : aget (d.toList.flatMap nsV ++ sp).toArray (i * 3 + 2) = some (.bool (d[i]!).t) := row_get hi rfl
  have aj2 : aget (d.toList.flatMap nsV ++ sp).toArray (j * 3 + 2) = some (.bool (d[j]!).t) := row_get hj rfl
  generalize (d.toList.flatMap nsV ++ sp).toArray = cs at *
  generalize d[i]! = x at *
  generalize d[j]! = y at *
  obtain ⟨xo, xd, xt⟩ := x
  obtain ⟨yo, yd, yt⟩ := y
  dsimp only at ai0 aj0 ai1 aj1 ai2 aj2
  by_cases h0 : xo = yo
  · subst h0
    by_cases h1 : xd = yd
    · subst h1
      have hr : nsLt ⟨xo, xd, xt⟩ ⟨xo, xd, yt⟩ = (!xt && yt) := by simp [nsLt]
      rw [hr] at hR
      cases xt <;> cases yt
      all_goals
        refine run_seq ?_
        refine run_region rfl ?_
        refine op_assign rfl rfl ?_
        refine ops_nil ?_
        refine fin_code ?_
        refine run_seq ?_
        refine run_seq ?_
        refine run_drawS [[⟨g, .cells cs 87 (0, 0)⟩]] (by kernel_rfl) ?_
        refine dr_stab 0 rfl rfl (Val.s (val_move rfl)) (by decide +kernel) rfl rfl ?_
        refine dr_stab 1 rfl rfl (Val.s (val_move rfl)) (by decide +kernel) rfl rfl ?_
        refine dr_stab 2 rfl rfl (Val.s (val_index rfl rfl (by omega) (by first | (rw [Int.toNat_natCast, Nat.mul_one, Nat.zero_add]) | (rw [Int.toNat_natCast, Nat.mul_one]) | (rw [Int.toNat_natCast, Nat.zero_add]) | (rw [Int.toNat_natCast]) | exact rfl))) (by decide +kernel) rfl rfl ?_
        refine dr_stab 3 rfl rfl (Val.s (val_fieldAddr rfl)) (by decide +kernel) rfl rfl ?_
        (apply dr_stab 4; (· exact rfl); (· exact rfl); (· apply ValAt.s; (first | (apply val_load; (· exact rfl); (· apply cell_of_has; (· (repeat (first | exact Has.here | apply Has.there))); (· first | exact ai0 | exact aj0 | exact ai1 | exact aj1 | exact ai2 | exact aj2 | exact rfl))) | (refine val_loadA (vs := nsV d[i]!) rfl rfl (row_cells (by (repeat (first | exact Has.here | apply Has.there))) hi)) | (refine val_loadA (vs := nsV d[j]!) rfl rfl (row_cells (by (repeat (first | exact Has.here | apply Has.there))) hj)) | fail)); (· decide +kernel); (· exact rfl); (· exact rfl))
        refine dr_stab 5 rfl rfl (Val.s (val_move rfl)) (by decide +kernel) rfl rfl ?_
        refine dr_stab 6 rfl rfl (Val.s (val_move rfl)) (by decide +kernel) rfl rfl ?_
        refine dr_stab 7 rfl rfl (Val.s (val_index rfl rfl (by omega) (by first | (rw [Int.toNat_natCast, Nat.mul_one, Nat.zero_add]) | (rw [Int.toNat_natCast, Nat.mul_one]) | (rw [Int.toNat_natCast, Nat.zero_add]) | (rw [Int.toNat_natCast]) | exact rfl))) (by decide +kernel) rfl rfl ?_
        refine dr_stab 8 rfl rfl (Val.s (val_fieldAddr rfl)) (by decide +kernel) rfl rfl ?_
        (apply dr_stab 9; (· exact rfl); (· exact rfl); (· apply ValAt.s; (first | (apply val_load; (· exact rfl); (· apply cell_of_has; (· (repeat (first | exact Has.here | apply Has.there))); (· first | exact ai0 | exact aj0 | exact ai1 | exact aj1 | exact ai2 | exact aj2 | exact rfl))) | (refine val_loadA (vs := nsV d[i]!) rfl rfl (row_cells (by (repeat (first | exact Has.here | apply Has.there))) hi)) | (refine val_loadA (vs := nsV d[j]!) rfl rfl (row_cells (by (repeat (first | exact Has.here | apply Has.there))) hj)) | fail)); (· decide +kernel); (· exact rfl); (· exact rfl))
        (apply dr_stab 10; (· exact rfl); (· exact rfl); (· apply Val.s; first | first | exact val_cmp_f rfl rfl rfl (fun h => h rfl) | fail); (· decide +kernel); (· exact rfl); (· exact rfl))
        (refine dr_done (by decide +kernel) (by (apply le_of_picks; (repeat (first | exact Picks.nil | (apply Picks.cons; (· (repeat (first | exact Pick.here | apply Pick.there)))) | apply Picks.empty)))) ?_)
        refine fin_code ?_
        refine run_cond_f rfl ?_
        refine run_skip ?_
        refine fin_code ?_
        refine run_seq ?_
        refine run_seq ?_
        refine run_drawS [[⟨g, .cells cs 87 (0, 0)⟩]] (by kernel_rfl) ?_
        refine dr_stab 0 rfl rfl (Val.s (val_move rfl)) (by decide +kernel) rfl rfl ?_
        refine dr_stab 1 rfl rfl (Val.s (val_move rfl)) (by decide +kernel) rfl rfl ?_
        refine dr_stab 2 rfl rfl (Val.s (val_index rfl rfl (by omega) (by first | (rw [Int.toNat_natCast, Nat.mul_one, Nat.zero_add]) | (rw [Int.toNat_natCast, Nat.mul_one]) | (rw [Int.toNat_natCast, Nat.zero_add]) | (rw [Int.toNat_natCast]) | exact rfl))) (by decide +kernel) rfl rfl ?_
        refine dr_stab 3 rfl rfl (Val.s (val_fieldAddr rfl)) (by decide +kernel) rfl rfl ?_
        (apply dr_stab 4; (· exact rfl); (· exact rfl); (· apply ValAt.s; (first | (apply val_load; (· exact rfl); (· apply cell_of_has; (· (repeat (first | exact Has.here | apply Has.there))); (· first | exact ai0 | exact aj0 | exact ai1 | exact aj1 | exact ai2 | exact aj2 | exact rfl))) | (refine val_loadA (vs := nsV d[i]!) rfl rfl (row_cells (by (repeat (first | exact Has.here | apply Has.there))) hi)) | (refine val_loadA (vs := nsV d[j]!) rfl rfl (row_cells (by (repeat (first | exact Has.here | apply Has.there))) hj)) | fail)); (· decide +kernel); (· exact rfl); (· exact rfl))
        refine dr_stab 5 rfl rfl (Val.s (val_move rfl)) (by decide +kernel) rfl rfl ?_
        refine dr_stab 6 rfl rfl (Val.s (val_move rfl)) (by decide +kernel) rfl rfl ?_
        refine dr_stab 7 rfl rfl (Val.s (val_index rfl rfl (by omega) (by first | (rw [Int.toNat_natCast, Nat.mul_one, Nat.zero_add]) | (rw [Int.toNat_natCast, Nat.mul_one]) | (rw [Int.toNat_natCast, Nat.zero_add]) | (rw [Int.toNat_natCast]) | exact rfl))) (by decide +kernel) rfl rfl ?_
        refine dr_stab 8 rfl rfl (Val.s (val_fieldAddr rfl)) (by decide +kernel) rfl rfl ?_
        (apply dr_stab 9; (· exact rfl); (· exact rfl); (· apply ValAt.s; (first | (apply val_load; (· exact rfl); (· apply cell_of_has; (· (repeat (first | exact Has.here | apply Has.there))); (· first | exact ai0 | exact aj0 | exact ai1 | exact aj1 | exact ai2 | exact aj2 | exact rfl))) | (refine val_loadA (vs := nsV d[i]!) rfl rfl (row_cells (by (repeat (first | exact Has.here | apply Has.there))) hi)) | (refine val_loadA (vs := nsV d[j]!) rfl rfl (row_cells (by (repeat (first | exact Has.here | apply Has.there))) hj)) | fail)); (· decide +kernel); (· exact rfl); (· exact rfl))
        (apply dr_stab 10; (· exact rfl); (· exact rfl); (· apply Val.s; first | first | exact val_cmp_f rfl rfl rfl (fun h => h rfl) | fail); (· decide +kernel); (· exact rfl); (· exact rfl))
        (refine dr_done (by decide +kernel) (by (apply le_of_picks; (repeat (first | exact Picks.nil | (apply Picks.cons; (· (repeat (first | exact Pick.here | apply Pick.there)))) | apply Picks.empty)))) ?_)
        first | (refine fin_code ?_; refine run_cond_f rfl ?_; refine run_skip ?_; refine fin_code ?_; refine run_seq ?_; refine run_region rfl ?_; refine op_move rfl rfl ?_; refine op_move rfl rfl ?_; refine op_index rfl rfl rfl (by omega) (by first | (rw [Int.toNat_natCast, Nat.mul_one, Nat.zero_add]) | (rw [Int.toNat_natCast, Nat.mul_one]) | (rw [Int.toNat_natCast, Nat.zero_add]) | (rw [Int.toNat_natCast]) | exact rfl) ?_; refine op_fieldAddr rfl rfl ?_; (apply op_load; (· exact rfl); (· exact rfl); (· apply cell_of_has; (· (repeat (first | exact Has.here | apply Has.there))); (· first | exact ai0 | exact aj0 | exact ai1 | exact aj1 | exact ai2 | exact aj2 | exact rfl))); refine op_not rfl rfl ?_; refine op_move rfl rfl ?_; refine ops_guard_yes rfl rfl rfl ?_; refine op_move rfl rfl ?_; refine ops_guard_yes rfl rfl rfl ?_; refine op_move rfl rfl ?_; refine ops_guard_yes rfl rfl rfl ?_; refine op_index rfl rfl rfl (by omega) (by first | (rw [Int.toNat_natCast, Nat.mul_one, Nat.zero_add]) | (rw [Int.toNat_natCast, Nat.mul_one]) | (rw [Int.toNat_natCast, Nat.zero_add]) | (rw [Int.toNat_natCast]) | exact rfl) ?_; refine ops_guard_yes rfl rfl rfl ?_; refine op_fieldAddr rfl rfl ?_; refine ops_guard_yes rfl rfl rfl ?_; (apply op_load; (· exact rfl); (· exact rfl); (· apply cell_of_has; (· (repeat (first | exact Has.here | apply Has.there))); (· first | exact ai0 | exact aj0 | exact ai1 | exact aj1 | exact ai2 | exact aj2 | exact rfl))); refine op_pick_t rfl rfl rfl ?_; refine op_assign rfl rfl ?_; refine ops_nil ?_; refine fin_code ?_; refine run_ret ?_) | (refine fin_code ?_; refine run_cond_f rfl ?_; refine run_skip ?_; refine fin_code ?_; refine run_seq ?_; refine run_region rfl ?_; refine op_move rfl rfl ?_; refine op_move rfl rfl ?_; refine op_index rfl rfl rfl (by omega) (by first | (rw [Int.toNat_natCast, Nat.mul_one, Nat.zero_add]) | (rw [Int.toNat_natCast, Nat.mul_one]) | (rw [Int.toNat_natCast, Nat.zero_add]) | (rw [Int.toNat_natCast]) | exact rfl) ?_; refine op_fieldAddr rfl rfl ?_; (apply op_load; (· exact rfl); (· exact rfl); (· apply cell_of_has; (· (repeat (first | exact Has.here | apply Has.there))); (· first | exact ai0 | exact aj0 | exact ai1 | exact aj1 | exact ai2 | exact aj2 | exact rfl))); refine op_not rfl rfl ?_; refine op_move rfl rfl ?_; refine ops_off1 rfl rfl ?_; refine ops_off1 rfl rfl ?_; refine ops_off1 rfl rfl ?_; refine ops_off1 rfl rfl ?_; refine ops_off1 rfl rfl ?_; refine op_pick_f rfl rfl rfl ?_; refine op_assign rfl rfl ?_; refine ops_nil ?_; refine fin_code ?_; refine run_ret ?_)
        refine fin_ret1 rfl rfl ?_
        intro w' g
        exact hR _ _ (post_of g () trivial rfl (by (apply le_of_picks; (repeat (first | exact Picks.nil | (apply Picks.cons; (· (repeat (first | exact Pick.here | apply Pick.there)))) | apply Picks.empty)))))
    · have hr : nsLt ⟨xo, xd, xt⟩ ⟨xo, yd, yt⟩ = decide (xd < yd) := by simp [nsLt, h1]
      rw [hr] at hR
      by_cases h2 : xd < yd
      · rw [decide_eq_true h2] at hR
        refine run_seq ?_
        refine run_region rfl ?_
        refine op_assign rfl rfl ?_
        refine ops_nil ?_
        refine fin_code ?_
        refine run_seq ?_
        refine run_seq ?_
        refine run_drawS [[⟨g, .cells cs 87 (0, 0)⟩]] (by kernel_rfl) ?_
        refine dr_stab 0 rfl rfl (Val.s (val_move rfl)) (by decide +kernel) rfl rfl ?_
        refine dr_stab 1 rfl rfl (Val.s (val_move rfl)) (by decide +kernel) rfl rfl ?_
        refine dr_stab 2 rfl rfl (Val.s (val_index rfl rfl (by omega) (by first | (rw [Int.toNat_natCast, Nat.mul_one, Nat.zero_add]) | (rw [Int.toNat_natCast, Nat.mul_one]) | (rw [Int.toNat_natCast, Nat.zero_add]) | (rw [Int.toNat_natCast]) | exact rfl))) (by decide +kernel) rfl rfl ?_
        refine dr_stab 3 rfl rfl (Val.s (val_fieldAddr rfl)) (by decide +kernel) rfl rfl ?_
        (apply dr_stab 4; (· exact rfl); (· exact rfl); (· apply ValAt.s; (first | (apply val_load; (· exact rfl); (· apply cell_of_has; (· (repeat (first | exact Has.here | apply Has.there))); (· first | exact ai0 | exact aj0 | exact ai1 | exact aj1 | exact ai2 | exact aj2 | exact rfl))) | (refine val_loadA (vs := nsV d[i]!) rfl rfl (row_cells (by (repeat (first | exact Has.here | apply Has.there))) hi)) | (refine val_loadA (vs := nsV d[j]!) rfl rfl (row_cells (by (repeat (first | exact Has.here | apply Has.there))) hj)) | fail)); (· decide +kernel); (· exact rfl); (· exact rfl))
        refine dr_stab 5 rfl rfl (Val.s (val_move rfl)) (by decide +kernel) rfl rfl ?_
        refine dr_stab 6 rfl rfl (Val.s (val_move rfl)) (by decide +kernel) rfl rfl ?_
        refine dr_stab 7 rfl rfl (Val.s (val_index rfl rfl (by omega) (by first | (rw [Int.toNat_natCast, Nat.mul_one, Nat.zero_add]) | (rw [Int.toNat_natCast, Nat.mul_one]) | (rw [Int.toNat_natCast, Nat.zero_add]) | (rw [Int.toNat_natCast]) | exact rfl))) (by decide +kernel) rfl rfl ?_
        refine dr_stab 8 rfl rfl (Val.s (val_fieldAddr rfl)) (by decide +kernel) rfl rfl ?_
        (apply dr_stab 9; (· exact rfl); (· exact rfl); (· apply ValAt.s; (first | (apply val_load; (· exact rfl); (· apply cell_of_has; (· (repeat (first | exact Has.here | apply Has.there))); (· first | exact ai0 | exact aj0 | exact ai1 | exact aj1 | exact ai2 | exact aj2 | exact rfl))) | (refine val_loadA (vs := nsV d[i]!) rfl rfl (row_cells (by (repeat (first | exact Has.here | apply Has.there))) hi)) | (refine val_loadA (vs := nsV d[j]!) rfl rfl (row_cells (by (repeat (first | exact Has.here | apply Has.there))) hj)) | fail)); (· decide +kernel); (· exact rfl); (· exact rfl))
        (apply dr_stab 10; (· exact rfl); (· exact rfl); (· apply Val.s; first | first | exact val_cmp_f rfl rfl rfl (fun h => h rfl) | fail); (· decide +kernel); (· exact rfl); (· exact rfl))
        (refine dr_done (by decide +kernel) (by (apply le_of_picks; (repeat (first | exact Picks.nil | (apply Picks.cons; (· (repeat (first | exact Pick.here | apply Pick.there)))) | apply Picks.empty)))) ?_)
        refine fin_code ?_
        refine run_cond_f rfl ?_
        refine run_skip ?_
        refine fin_code ?_
        refine run_seq ?_
        refine run_seq ?_
        refine run_drawS [[⟨g, .cells cs 87 (0, 0)⟩]] (by kernel_rfl) ?_
        refine dr_stab 0 rfl rfl (Val.s (val_move rfl)) (by decide +kernel) rfl rfl ?_
        refine dr_stab 1 rfl rfl (Val.s (val_move rfl)) (by decide +kernel) rfl rfl ?_
        refine dr_stab 2 rfl rfl (Val.s (val_index rfl rfl (by omega) (by first | (rw [Int.toNat_natCast, Nat.mul_one, Nat.zero_add]) | (rw [Int.toNat_natCast, Nat.mul_one]) | (rw [Int.toNat_natCast, Nat.zero_add]) | (rw [Int.toNat_natCast]) | exact rfl))) (by decide +kernel) rfl rfl ?_
        refine dr_stab 3 rfl rfl (Val.s (val_fieldAddr rfl)) (by decide +kernel) rfl rfl ?_
        (apply dr_stab 4; (· exact rfl); (· exact rfl); (· apply ValAt.s; (first | (apply val_load; (· exact rfl); (· apply cell_of_has; (· (repeat (first | exact Has.here | apply Has.there))); (· first | exact ai0 | exact aj0 | exact ai1 | exact aj1 | exact ai2 | exact aj2 | exact rfl))) | (refine val_loadA (vs := nsV d[i]!) rfl rfl (row_cells (by (repeat (first | exact Has.here | apply Has.there))) hi)) | (refine val_loadA (vs := nsV d[j]!) rfl rfl (row_cells (by (repeat (first | exact Has.here | apply Has.there))) hj)) | fail)); (· decide +kernel); (· exact rfl); (· exact rfl))
        refine dr_stab 5 rfl rfl (Val.s (val_move rfl)) (by decide +kernel) rfl rfl ?_
        refine dr_stab 6 rfl rfl (Val.s (val_move rfl)) (by decide +kernel) rfl rfl ?_
        refine dr_stab 7 rfl rfl (Val.s (val_index rfl rfl (by omega) (by first | (rw [Int.toNat_natCast, Nat.mul_one, Nat.zero_add]) | (rw [Int.toNat_natCast, Nat.mul_one]) | (rw [Int.toNat_natCast, Nat.zero_add]) | (rw [Int.toNat_natCast]) | exact rfl))) (by decide +kernel) rfl rfl ?_
        refine dr_stab 8 rfl rfl (Val.s (val_fieldAddr rfl)) (by decide +kernel) rfl rfl ?_
        (apply dr_stab 9; (· exact rfl); (· exact rfl); (· apply ValAt.s; (first | (apply val_load; (· exact rfl); (· apply cell_of_has; (· (repeat (first | exact Has.here | apply Has.there))); (· first | exact ai0 | exact aj0 | exact ai1 | exact aj1 | exact ai2 | exact aj2 | exact rfl))) | (refine val_loadA (vs := nsV d[i]!) rfl rfl (row_cells (by (repeat (first | exact Has.here | apply Has.there))) hi)) | (refine val_loadA (vs := nsV d[j]!) rfl rfl (row_cells (by (repeat (first | exact Has.here | apply Has.there))) hj)) | fail)); (· decide +kernel); (· exact rfl); (· exact rfl))
        refine dr_stab 10 rfl rfl (Val.s (val_cmp_t rfl rfl rfl (by first | (simp only [cmpP]; done) | (simp only [cmpP]; omega)))) (by decide +kernel) rfl rfl ?_
        (refine dr_done (by decide +kernel) (by (apply le_of_picks; (repeat (first | exact Picks.nil | (apply Picks.cons; (· (repeat (first | exact Pick.here | apply Pick.there)))) | apply Picks.empty)))) ?_)
        refine fin_code ?_
        refine run_cond_t rfl ?_
        refine run_seq ?_
        refine run_drawS [[⟨g, .cells cs 87 (0, 0)⟩]] (by kernel_rfl) ?_
        refine dr_stab 0 rfl rfl (Val.s (val_move rfl)) (by decide +kernel) rfl rfl ?_
        refine dr_stab 1 rfl rfl (Val.s (val_move rfl)) (by decide +kernel) rfl rfl ?_
        refine dr_stab 2 rfl rfl (Val.s (val_index rfl rfl (by omega) (by first | (rw [Int.toNat_natCast, Nat.mul_one, Nat.zero_add]) | (rw [Int.toNat_natCast, Nat.mul_one]) | (rw [Int.toNat_natCast, Nat.zero_add]) | (rw [Int.toNat_natCast]) | exact rfl))) (by decide +kernel) rfl rfl ?_
        refine dr_stab 3 rfl rfl (Val.s (val_fieldAddr rfl)) (by decide +kernel) rfl rfl ?_
        (apply dr_stab 4; (· exact rfl); (· exact rfl); (· apply ValAt.s; (first | (apply val_load; (· exact rfl); (· apply cell_of_has; (· (repeat (first | exact Has.here | apply Has.there))); (· first | exact ai0 | exact aj0 | exact ai1 | exact aj1 | exact ai2 | exact aj2 | exact rfl))) | (refine val_loadA (vs := nsV d[i]!) rfl rfl (row_cells (by (repeat (first | exact Has.here | apply Has.there))) hi)) | (refine val_loadA (vs := nsV d[j]!) rfl rfl (row_cells (by (repeat (first | exact Has.here | apply Has.there))) hj)) | fail)); (· decide +kernel); (· exact rfl); (· exact rfl))
        refine dr_stab 5 rfl rfl (Val.s (val_move rfl)) (by decide +kernel) rfl rfl ?_
        refine dr_stab 6 rfl rfl (Val.s (val_move rfl)) (by decide +kernel) rfl rfl ?_
        refine dr_stab 7 rfl rfl (Val.s (val_index rfl rfl (by omega) (by first | (rw [Int.toNat_natCast, Nat.mul_one, Nat.zero_add]) | (rw [Int.toNat_natCast, Nat.mul_one]) | (rw [Int.toNat_natCast, Nat.zero_add]) | (rw [Int.toNat_natCast]) | exact rfl))) (by decide +kernel) rfl rfl ?_
        refine dr_stab 8 rfl rfl (Val.s (val_fieldAddr rfl)) (by decide +kernel) rfl rfl ?_
        (apply dr_stab 9; (· exact rfl); (· exact rfl); (· apply ValAt.s; (first | (apply val_load; (· exact rfl); (· apply cell_of_has; (· (repeat (first | exact Has.here | apply Has.there))); (· first | exact ai0 | exact aj0 | exact ai1 | exact aj1 | exact ai2 | exact aj2 | exact rfl))) | (refine val_loadA (vs := nsV d[i]!) rfl rfl (row_cells (by (repeat (first | exact Has.here | apply Has.there))) hi)) | (refine val_loadA (vs := nsV d[j]!) rfl rfl (row_cells (by (repeat (first | exact Has.here | apply Has.there))) hj)) | fail)); (· decide +kernel); (· exact rfl); (· exact rfl))
        refine dr_stab 10 rfl rfl (Val.s (val_cmp_t rfl rfl rfl (by first | (simp only [cmpP]; done) | (simp only [cmpP]; omega)))) (by decide +kernel) rfl rfl ?_
        refine dr_stab 11 rfl rfl (Val.s (val_assign rfl)) (by decide +kernel) rfl rfl ?_
        (refine dr_done (by decide +kernel) (by (apply le_of_picks; (repeat (first | exact Picks.nil | (apply Picks.cons; (· (repeat (first | exact Pick.here | apply Pick.there)))) | apply Picks.empty)))) ?_)
        refine fin_code ?_
        refine run_ret ?_
        refine fin_ret_code ?_
        refine fin_ret1 rfl rfl ?_
        intro w' g
        exact hR _ _ (post_of g () trivial rfl (by (apply le_of_picks; (repeat (first | exact Picks.nil | (apply Picks.cons; (· (repeat (first | exact Pick.here | apply Pick.there)))) | apply Picks.empty)))))
      · rw [decide_eq_false h2] at hR
        refine run_seq ?_
        refine run_region rfl ?_
        refine op_assign rfl rfl ?_
        refine ops_nil ?_
        refine fin_code ?_
        refine run_seq ?_
        refine run_seq ?_
        refine run_drawS [[⟨g, .cells cs 87 (0, 0)⟩]] (by kernel_rfl) ?_
        refine dr_stab 0 rfl rfl (Val.s (val_move rfl)) (by decide +kernel) rfl rfl ?_
        refine dr_stab 1 rfl rfl (Val.s (val_move rfl)) (by decide +kernel) rfl rfl ?_
        refine dr_stab 2 rfl rfl (Val.s (val_index rfl rfl (by omega) (by first | (rw [Int.toNat_natCast, Nat.mul_one, Nat.zero_add]) | (rw [Int.toNat_natCast, Nat.mul_one]) | (rw [Int.toNat_natCast, Nat.zero_add]) | (rw [Int.toNat_natCast]) | exact rfl))) (by decide +kernel) rfl rfl ?_
        refine dr_stab 3 rfl rfl (Val.s (val_fieldAddr rfl)) (by decide +kernel) rfl rfl ?_
        (apply dr_stab 4; (· exact rfl); (· exact rfl); (· apply ValAt.s; (first | (apply val_load; (· exact rfl); (· apply cell_of_has; (· (repeat (first | exact Has.here | apply Has.there))); (· first | exact ai0 | exact aj0 | exact ai1 | exact aj1 | exact ai2 | exact aj2 | exact rfl))) | (refine val_loadA (vs := nsV d[i]!) rfl rfl (row_cells (by (repeat (first | exact Has.here | apply Has.there))) hi)) | (refine val_loadA (vs := nsV d[j]!) rfl rfl (row_cells (by (repeat (first | exact Has.here | apply Has.there))) hj)) | fail)); (· decide +kernel); (· exact rfl); (· exact rfl))
        refine dr_stab 5 rfl rfl (Val.s (val_move rfl)) (by decide +kernel) rfl rfl ?_
        refine dr_stab 6 rfl rfl (Val.s (val_move rfl)) (by decide +kernel) rfl rfl ?_
        refine dr_stab 7 rfl rfl (Val.s (val_index rfl rfl (by omega) (by first | (rw [Int.toNat_natCast, Nat.mul_one, Nat.zero_add]) | (rw [Int.toNat_natCast, Nat.mul_one]) | (rw [Int.toNat_natCast, Nat.zero_add]) | (rw [Int.toNat_natCast]) | exact rfl))) (by decide +kernel) rfl rfl ?_
        refine dr_stab 8 rfl rfl (Val.s (val_fieldAddr rfl)) (by decide +kernel) rfl rfl ?_
        (apply dr_stab 9; (· exact rfl); (· exact rfl); (· apply ValAt.s; (first | (apply val_load; (· exact rfl); (· apply cell_of_has; (· (repeat (first | exact Has.here | apply Has.there))); (· first | exact ai0 | exact aj0 | exact ai1 | exact aj1 | exact ai2 | exact aj2 | exact rfl))) | (refine val_loadA (vs := nsV d[i]!) rfl rfl (row_cells (by (repeat (first | exact Has.here | apply Has.there))) hi)) | (refine val_loadA (vs := nsV d[j]!) rfl rfl (row_cells (by (repeat (first | exact Has.here | apply Has.there))) hj)) | fail)); (· decide +kernel); (· exact rfl); (· exact rfl))
        (apply dr_stab 10; (· exact rfl); (· exact rfl); (· apply Val.s; first | first | exact val_cmp_f rfl rfl rfl (fun h => h rfl) | fail); (· decide +kernel); (· exact rfl); (· exact rfl))
        (refine dr_done (by decide +kernel) (by (apply le_of_picks; (repeat (first | exact Picks.nil | (apply Picks.cons; (· (repeat (first | exact Pick.here | apply Pick.there)))) | apply Picks.empty)))) ?_)
        refine fin_code ?_
        refine run_cond_f rfl ?_
        refine run_skip ?_
        refine fin_code ?_
        refine run_seq ?_
        refine run_seq ?_
        refine run_drawS [[⟨g, .cells cs 87 (0, 0)⟩]] (by kernel_rfl) ?_
        refine dr_stab 0 rfl rfl (Val.s (val_move rfl)) (by decide +kernel) rfl rfl ?_
        refine dr_stab 1 rfl rfl (Val.s (val_move rfl)) (by decide +kernel) rfl rfl ?_
        refine dr_stab 2 rfl rfl (Val.s (val_index rfl rfl (by omega) (by first | (rw [Int.toNat_natCast, Nat.mul_one, Nat.zero_add]) | (rw [Int.toNat_natCast, Nat.mul_one]) | (rw [Int.toNat_natCast, Nat.zero_add]) | (rw [Int.toNat_natCast]) | exact rfl))) (by decide +kernel) rfl rfl ?_
        refine dr_stab 3 rfl rfl (Val.s (val_fieldAddr rfl)) (by decide +kernel) rfl rfl ?_
        (apply dr_stab 4; (· exact rfl); (· exact rfl); (· apply ValAt.s; (first | (apply val_load; (· exact rfl); (· apply cell_of_has; (· (repeat (first | exact Has.here | apply Has.there))); (· first | exact ai0 | exact aj0 | exact ai1 | exact aj1 | exact ai2 | exact aj2 | exact rfl))) | (refine val_loadA (vs := nsV d[i]!) rfl rfl (row_cells (by (repeat (first | exact Has.here | apply Has.there))) hi)) | (refine val_loadA (vs := nsV d[j]!) rfl rfl (row_cells (by (repeat (first | exact Has.here | apply Has.there))) hj)) | fail)); (· decide +kernel); (· exact rfl); (· exact rfl))
        refine dr_stab 5 rfl rfl (Val.s (val_move rfl)) (by decide +kernel) rfl rfl ?_
        refine dr_stab 6 rfl rfl (Val.s (val_move rfl)) (by decide +kernel) rfl rfl ?_
        refine dr_stab 7 rfl rfl (Val.s (val_index rfl rfl (by omega) (by first | (rw [Int.toNat_natCast, Nat.mul_one, Nat.zero_add]) | (rw [Int.toNat_natCast, Nat.mul_one]) | (rw [Int.toNat_natCast, Nat.zero_add]) | (rw [Int.toNat_natCast]) | exact rfl))) (by decide +kernel) rfl rfl ?_
        refine dr_stab 8 rfl rfl (Val.s (val_fieldAddr rfl)) (by decide +kernel) rfl rfl ?_
        (apply dr_stab 9; (· exact rfl); (· exact rfl); (· apply ValAt.s; (first | (apply val_load; (· exact rfl); (· apply cell_of_has; (· (repeat (first | exact Has.here | apply Has.there))); (· first | exact ai0 | exact aj0 | exact ai1 | exact aj1 | exact ai2 | exact aj2 | exact rfl))) | (refine val_loadA (vs := nsV d[i]!) rfl rfl (row_cells (by (repeat (first | exact Has.here | apply Has.there))) hi)) | (refine val_loadA (vs := nsV d[j]!) rfl rfl (row_cells (by (repeat (first | exact Has.here | apply Has.there))) hj)) | fail)); (· decide +kernel); (· exact rfl); (· exact rfl))
        refine dr_stab 10 rfl rfl (Val.s (val_cmp_t rfl rfl rfl (by first | (simp only [cmpP]; done) | (simp only [cmpP]; omega)))) (by decide +kernel) rfl rfl ?_
        (refine dr_done (by decide +kernel) (by (apply le_of_picks; (repeat (first | exact Picks.nil | (apply Picks.cons; (· (repeat (first | exact Pick.here | apply Pick.there)))) | apply Picks.empty)))) ?_)
        refine fin_code ?_
        refine run_cond_t rfl ?_
        refine run_seq ?_
        refine run_drawS [[⟨g, .cells cs 87 (0, 0)⟩]] (by kernel_rfl) ?_
        refine dr_stab 0 rfl rfl (Val.s (val_move rfl)) (by decide +kernel) rfl rfl ?_
        refine dr_stab 1 rfl rfl (Val.s (val_move rfl)) (by decide +kernel) rfl rfl ?_
        refine dr_stab 2 rfl rfl (Val.s (val_index rfl rfl (by omega) (by first | (rw [Int.toNat_natCast, Nat.mul_one, Nat.zero_add]) | (rw [Int.toNat_natCast, Nat.mul_one]) | (rw [Int.toNat_natCast, Nat.zero_add]) | (rw [Int.toNat_natCast]) | exact rfl))) (by decide +kernel) rfl rfl ?_
        refine dr_stab 3 rfl rfl (Val.s (val_fieldAddr rfl)) (by decide +kernel) rfl rfl ?_
        (apply dr_stab 4; (· exact rfl); (· exact rfl); (· apply ValAt.s; (first | (apply val_load; (· exact rfl); (· apply cell_of_has; (· (repeat (first | exact Has.here | apply Has.there))); (· first | exact ai0 | exact aj0 | exact ai1 | exact aj1 | exact ai2 | exact aj2 | exact rfl))) | (refine val_loadA (vs := nsV d[i]!) rfl rfl (row_cells (by (repeat (first | exact Has.here | apply Has.there))) hi)) | (refine val_loadA (vs := nsV d[j]!) rfl rfl (row_cells (by (repeat (first | exact Has.here | apply Has.there))) hj)) | fail)); (· decide +kernel); (· exact rfl); (· exact rfl))
        refine dr_stab 5 rfl rfl (Val.s (val_move rfl)) (by decide +kernel) rfl rfl ?_
        refine dr_stab 6 rfl rfl (Val.s (val_move rfl)) (by decide +kernel) rfl rfl ?_
        refine dr_stab 7 rfl rfl (Val.s (val_index rfl rfl (by omega) (by first | (rw [Int.toNat_natCast, Nat.mul_one, Nat.zero_add]) | (rw [Int.toNat_natCast, Nat.mul_one]) | (rw [Int.toNat_natCast, Nat.zero_add]) | (rw [Int.toNat_natCast]) | exact rfl))) (by decide +kernel) rfl rfl ?_
        refine dr_stab 8 rfl rfl (Val.s (val_fieldAddr rfl)) (by decide +kernel) rfl rfl ?_
        (apply dr_stab 9; (· exact rfl); (· exact rfl); (· apply ValAt.s; (first | (apply val_load; (· exact rfl); (· apply cell_of_has; (· (repeat (first | exact Has.here | apply Has.there))); (· first | exact ai0 | exact aj0 | exact ai1 | exact aj1 | exact ai2 | exact aj2 | exact rfl))) | (refine val_loadA (vs := nsV d[i]!) rfl rfl (row_cells (by (repeat (first | exact Has.here | apply Has.there))) hi)) | (refine val_loadA (vs := nsV d[j]!) rfl rfl (row_cells (by (repeat (first | exact Has.here | apply Has.there))) hj)) | fail)); (· decide +kernel); (· exact rfl); (· exact rfl))
        refine dr_stab 10 rfl rfl (Val.s (val_cmp_f rfl rfl rfl (by first | (simp only [cmpP]; done) | (simp only [cmpP]; omega)))) (by decide +kernel) rfl rfl ?_
        refine dr_stab 11 rfl rfl (Val.s (val_assign rfl)) (by decide +kernel) rfl rfl ?_
        (refine dr_done (by decide +kernel) (by (apply le_of_picks; (repeat (first | exact Picks.nil | (apply Picks.cons; (· (repeat (first | exact Pick.here | apply Pick.there)))) | apply Picks.empty)))) ?_)
        refine fin_code ?_
        refine run_ret ?_
        refine fin_ret_code ?_
        refine fin_ret1 rfl rfl ?_
        intro w' g
        exact hR _ _ (post_of g () trivial rfl (by (apply le_of_picks; (repeat (first | exact Picks.nil | (apply Picks.cons; (· (repeat (first | exact Pick.here | apply Pick.there)))) | apply Picks.empty)))))
  · have hr : nsLt ⟨xo, xd, xt⟩ ⟨yo, yd, yt⟩ = decide (xo < yo) := by simp [nsLt, h0]
    rw [hr] at hR
    by_cases h2 : xo < yo
    · rw [decide_eq_true h2] at hR
      refine run_seq ?_
      refine run_region rfl ?_
      refine op_assign rfl rfl ?_
      refine ops_nil ?_
      refine fin_code ?_
      refine run_seq ?_
      refine run_seq ?_
      refine run_drawS [[⟨g, .cells cs 87 (0, 0)⟩]] (by kernel_rfl) ?_
      refine dr_stab 0 rfl rfl (Val.s (val_move rfl)) (by decide +kernel) rfl rfl ?_
      refine dr_stab 1 rfl rfl (Val.s (val_move rfl)) (by decide +kernel) rfl rfl ?_
      refine dr_stab 2 rfl rfl (Val.s (val_index rfl rfl (by omega) (by first | (rw [Int.toNat_natCast, Nat.mul_one, Nat.zero_add]) | (rw [Int.toNat_natCast, Nat.mul_one]) | (rw [Int.toNat_natCast, Nat.zero_add]) | (rw [Int.toNat_natCast]) | exact rfl))) (by decide +kernel) rfl rfl ?_
      refine dr_stab 3 rfl rfl (Val.s (val_fieldAddr rfl)) (by decide +kernel) rfl rfl ?_
      (apply dr_stab 4; (· exact rfl); (· exact rfl); (· apply ValAt.s; (first | (apply val_load; (· exact rfl); (· apply cell_of_has; (· (repeat (first | exact Has.here | apply Has.there))); (· first | exact ai0 | exact aj0 | exact ai1 | exact aj1 | exact ai2 | exact aj2 | exact rfl))) | (refine val_loadA (vs := nsV d[i]!) rfl rfl (row_cells (by (repeat (first | exact Has.here | apply Has.there))) hi)) | (refine val_loadA (vs := nsV d[j]!) rfl rfl (row_cells (by (repeat (first | exact Has.here | apply Has.there))) hj)) | fail)); (· decide +kernel); (· exact rfl); (· exact rfl))
      refine dr_stab 5 rfl rfl (Val.s (val_move rfl)) (by decide +kernel) rfl rfl ?_
      refine dr_stab 6 rfl rfl (Val.s (val_move rfl)) (by decide +kernel) rfl rfl ?_
      refine dr_stab 7 rfl rfl (Val.s (val_index rfl rfl (by omega) (by first | (rw [Int.toNat_natCast, Nat.mul_one, Nat.zero_add]) | (rw [Int.toNat_natCast, Nat.mul_one]) | (rw [Int.toNat_natCast, Nat.zero_add]) | (rw [Int.toNat_natCast]) | exact rfl))) (by decide +kernel) rfl rfl ?_
      refine dr_stab 8 rfl rfl (Val.s (val_fieldAddr rfl)) (by decide +kernel) rfl rfl ?_
      (apply dr_stab 9; (· exact rfl); (· exact rfl); (· apply ValAt.s; (first | (apply val_load; (· exact rfl); (· apply cell_of_has; (· (repeat (first | exact Has.here | apply Has.there))); (· first | exact ai0 | exact aj0 | exact ai1 | exact aj1 | exact ai2 | exact aj2 | exact rfl))) | (refine val_loadA (vs := nsV d[i]!) rfl rfl (row_cells (by (repeat (first | exact Has.here | apply Has.there))) hi)) | (refine val_loadA (vs := nsV d[j]!) rfl rfl (row_cells (by (repeat (first | exact Has.here | apply Has.there))) hj)) | fail)); (· decide +kernel); (· exact rfl); (· exact rfl))
      refine dr_stab 10 rfl rfl (Val.s (val_cmp_t rfl rfl rfl (by first | (simp only [cmpP]; done) | (simp only [cmpP]; omega)))) (by decide +kernel) rfl rfl ?_
      (refine dr_done (by decide +kernel) (by (apply le_of_picks; (repeat (first | exact Picks.nil | (apply Picks.cons; (· (repeat (first | exact Pick.here | apply Pick.there)))) | apply Picks.empty)))) ?_)
      refine fin_code ?_
      refine run_cond_t rfl ?_
      refine run_seq ?_
      refine run_drawS [[⟨g, .cells cs 87 (0, 0)⟩]] (by kernel_rfl) ?_
      refine dr_stab 0 rfl rfl (Val.s (val_move rfl)) (by decide +kernel) rfl rfl ?_
      refine dr_stab 1 rfl rfl (Val.s (val_move rfl)) (by decide +kernel) rfl rfl ?_
      refine dr_stab 2 rfl rfl (Val.s (val_index rfl rfl (by omega) (by first | (rw [Int.toNat_natCast, Nat.mul_one, Nat.zero_add]) | (rw [Int.toNat_natCast, Nat.mul_one]) | (rw [Int.toNat_natCast, Nat.zero_add]) | (rw [Int.toNat_natCast]) | exact rfl))) (by decide +kernel) rfl rfl ?_
      refine dr_stab 3 rfl rfl (Val.s (val_fieldAddr rfl)) (by decide +kernel) rfl rfl ?_
      (apply dr_stab 4; (· exact rfl); (· exact rfl); (· apply ValAt.s; (first | (apply val_load; (· exact rfl); (· apply cell_of_has; (· (repeat (first | exact Has.here | apply Has.there))); (· first | exact ai0 | exact aj0 | exact ai1 | exact aj1 | exact ai2 | exact aj2 | exact rfl))) | (refine val_loadA (vs := nsV d[i]!) rfl rfl (row_cells (by (repeat (first | exact Has.here | apply Has.there))) hi)) | (refine val_loadA (vs := nsV d[j]!) rfl rfl (row_cells (by (repeat (first | exact Has.here | apply Has.there))) hj)) | fail)); (· decide +kernel); (· exact rfl); (· exact rfl))
      refine dr_stab 5 rfl rfl (Val.s (val_move rfl)) (by decide +kernel) rfl rfl ?_
      refine dr_stab 6 rfl rfl (Val.s (val_move rfl)) (by decide +kernel) rfl rfl ?_
      refine dr_stab 7 rfl rfl (Val.s (val_index rfl rfl (by omega) (by first | (rw [Int.toNat_natCast, Nat.mul_one, Nat.zero_add]) | (rw [Int.toNat_natCast, Nat.mul_one]) | (rw [Int.toNat_natCast, Nat.zero_add]) | (rw [Int.toNat_natCast]) | exact rfl))) (by decide +kernel) rfl rfl ?_
      refine dr_stab 8 rfl rfl (Val.s (val_fieldAddr rfl)) (by decide +kernel) rfl rfl ?_
      (apply dr_stab 9; (· exact rfl); (· exact rfl); (· apply ValAt.s; (first | (apply val_load; (· exact rfl); (· apply cell_of_has; (· (repeat (first | exact Has.here | apply Has.there))); (· first | exact ai0 | exact aj0 | exact ai1 | exact aj1 | exact ai2 | exact aj2 | exact rfl))) | (refine val_loadA (vs := nsV d[i]!) rfl rfl (row_cells (by (repeat (first | exact Has.here | apply Has.there))) hi)) | (refine val_loadA (vs := nsV d[j]!) rfl rfl (row_cells (by (repeat (first | exact Has.here | apply Has.there))) hj)) | fail)); (· decide +kernel); (· exact rfl); (· exact rfl))
      refine dr_stab 10 rfl rfl (Val.s (val_cmp_t rfl rfl rfl (by first | (simp only [cmpP]; done) | (simp only [cmpP]; omega)))) (by decide +kernel) rfl rfl ?_
      refine dr_stab 11 rfl rfl (Val.s (val_assign rfl)) (by decide +kernel) rfl rfl ?_
      (refine dr_done (by decide +kernel) (by (apply le_of_picks; (repeat (first | exact Picks.nil | (apply Picks.cons; (· (repeat (first | exact Pick.here | apply Pick.there)))) | apply Picks.empty)))) ?_)
      refine fin_code ?_
      refine run_ret ?_
      refine fin_ret_code ?_
      refine fin_ret1 rfl rfl ?_
      intro w' g
      exact hR _ _ (post_of g () trivial rfl (by (apply le_of_picks; (repeat (first | exact Picks.nil | (apply Picks.cons; (· (repeat (first | exact Pick.here | apply Pick.there)))) | apply Picks.empty)))))
    · rw [decide_eq_false h2] at hR
      refine run_seq ?_
      refine run_region rfl ?_
      refine op_assign rfl rfl ?_
      refine ops_nil ?_
      refine fin_code ?_
      refine run_seq ?_
      refine run_seq ?_
      refine run_drawS [[⟨g, .cells cs 87 (0, 0)⟩]] (by kernel_rfl) ?_
      refine dr_stab 0 rfl rfl (Val.s (val_move rfl)) (by decide +kernel) rfl rfl ?_
      refine dr_stab 1 rfl rfl (Val.s (val_move rfl)) (by decide +kernel) rfl rfl ?_
      refine dr_stab 2 rfl rfl (Val.s (val_index rfl rfl (by omega) (by first | (rw [Int.toNat_natCast, Nat.mul_one, Nat.zero_add]) | (rw [Int.toNat_natCast, Nat.mul_one]) | (rw [Int.toNat_natCast, Nat.zero_add]) | (rw [Int.toNat_natCast]) | exact rfl))) (by decide +kernel) rfl rfl ?_
      refine dr_stab 3 rfl rfl (Val.s (val_fieldAddr rfl)) (by decide +kernel) rfl rfl ?_
      (apply dr_stab 4; (· exact rfl); (· exact rfl); (· apply ValAt.s; (first | (apply val_load; (· exact rfl); (· apply cell_of_has; (· (repeat (first | exact Has.here | apply Has.there))); (· first | exact ai0 | exact aj0 | exact ai1 | exact aj1 | exact ai2 | exact aj2 | exact rfl))) | (refine val_loadA (vs := nsV d[i]!) rfl rfl (row_cells (by (repeat (first | exact Has.here | apply Has.there))) hi)) | (refine val_loadA (vs := nsV d[j]!) rfl rfl (row_cells (by (repeat (first | exact Has.here | apply Has.there))) hj)) | fail)); (· decide +kernel); (· exact rfl); (· exact rfl))
      refine dr_stab 5 rfl rfl (Val.s (val_move rfl)) (by decide +kernel) rfl rfl ?_
      refine dr_stab 6 rfl rfl (Val.s (val_move rfl)) (by decide +kernel) rfl rfl ?_
      refine dr_stab 7 rfl rfl (Val.s (val_index rfl rfl (by omega) (by first | (rw [Int.toNat_natCast, Nat.mul_one, Nat.zero_add]) | (rw [Int.toNat_natCast, Nat.mul_one]) | (rw [Int.toNat_natCast, Nat.zero_add]) | (rw [Int.toNat_natCast]) | exact rfl))) (by decide +kernel) rfl rfl ?_
      refine dr_stab 8 rfl rfl (Val.s (val_fieldAddr rfl)) (by decide +kernel) rfl rfl ?_
      (apply dr_stab 9; (· exact rfl); (· exact rfl); (· apply ValAt.s; (first | (apply val_load; (· exact rfl); (· apply cell_of_has; (· (repeat (first | exact Has.here | apply Has.there))); (· first | exact ai0 | exact aj0 | exact ai1 | exact aj1 | exact ai2 | exact aj2 | exact rfl))) | (refine val_loadA (vs := nsV d[i]!) rfl rfl (row_cells (by (repeat (first | exact Has.here | apply Has.there))) hi)) | (refine val_loadA (vs := nsV d[j]!) rfl rfl (row_cells (by (repeat (first | exact Has.here | apply Has.there))) hj)) | fail)); (· decide +kernel); (· exact rfl); (· exact rfl))
      refine dr_stab 10 rfl rfl (Val.s (val_cmp_t rfl rfl rfl (by first | (simp only [cmpP]; done) | (simp only [cmpP]; omega)))) (by decide +kernel) rfl rfl ?_
      (refine dr_done (by decide +kernel) (by (apply le_of_picks; (repeat (first | exact Picks.nil | (apply Picks.cons; (· (repeat (first | exact Pick.here | apply Pick.there)))) | apply Picks.empty)))) ?_)
      refine fin_code ?_
      refine run_cond_t rfl ?_
      refine run_seq ?_
      refine run_drawS [[⟨g, .cells cs 87 (0, 0)⟩]] (by kernel_rfl) ?_
      refine dr_stab 0 rfl rfl (Val.s (val_move rfl)) (by decide +kernel) rfl rfl ?_
      refine dr_stab 1 rfl rfl (Val.s (val_move rfl)) (by decide +kernel) rfl rfl ?_
      refine dr_stab 2 rfl rfl (Val.s (val_index rfl rfl (by omega) (by first | (rw [Int.toNat_natCast, Nat.mul_one, Nat.zero_add]) | (rw [Int.toNat_natCast, Nat.mul_one]) | (rw [Int.toNat_natCast, Nat.zero_add]) | (rw [Int.toNat_natCast]) | exact rfl))) (by decide +kernel) rfl rfl ?_
      refine dr_stab 3 rfl rfl (Val.s (val_fieldAddr rfl)) (by decide +kernel) rfl rfl ?_
      (apply dr_stab 4; (· exact rfl); (· exact rfl); (· apply ValAt.s; (first | (apply val_load; (· exact rfl); (· apply cell_of_has; (· (repeat (first | exact Has.here | apply Has.there))); (· first | exact ai0 | exact aj0 | exact ai1 | exact aj1 | exact ai2 | exact aj2 | exact rfl))) | (refine val_loadA (vs := nsV d[i]!) rfl rfl (row_cells (by (repeat (first | exact Has.here | apply Has.there))) hi)) | (refine val_loadA (vs := nsV d[j]!) rfl rfl (row_cells (by (repeat (first | exact Has.here | apply Has.there))) hj)) | fail)); (· decide +kernel); (· exact rfl); (· exact rfl))
      refine dr_stab 5 rfl rfl (Val.s (val_move rfl)) (by decide +kernel) rfl rfl ?_
      refine dr_stab 6 rfl rfl (Val.s (val_move rfl)) (by decide +kernel) rfl rfl ?_
      refine dr_stab 7 rfl rfl (Val.s (val_index rfl rfl (by omega) (by first | (rw [Int.toNat_natCast, Nat.mul_one, Nat.zero_add]) | (rw [Int.toNat_natCast, Nat.mul_one]) | (rw [Int.toNat_natCast, Nat.zero_add]) | (rw [Int.toNat_natCast]) | exact rfl))) (by decide +kernel) rfl rfl ?_
      refine dr_stab 8 rfl rfl (Val.s (val_fieldAddr rfl)) (by decide +kernel) rfl rfl ?_
      (apply dr_stab 9; (· exact rfl); (· exact rfl); (· apply ValAt.s; (first | (apply val_load; (· exact rfl); (· apply cell_of_has; (· (repeat (first | exact Has.here | apply Has.there))); (· first | exact ai0 | exact aj0 | exact ai1 | exact aj1 | exact ai2 | exact aj2 | exact rfl))) | (refine val_loadA (vs := nsV d[i]!) rfl rfl (row_cells (by (repeat (first | exact Has.here | apply Has.there))) hi)) | (refine val_loadA (vs := nsV d[j]!) rfl rfl (row_cells (by (repeat (first | exact Has.here | apply Has.there))) hj)) | fail)); (· decide +kernel); (· exact rfl); (· exact rfl))
      refine dr_stab 10 rfl rfl (Val.s (val_cmp_f rfl rfl rfl (by first | (simp only [cmpP]; done) | (simp only [cmpP]; omega)))) (by decide +kernel) rfl rfl ?_
      refine dr_stab 11 rfl rfl (Val.s (val_assign rfl)) (by decide +kernel) rfl rfl ?_
      (refine dr_done (by decide +kernel) (by (apply le_of_picks; (repeat (first | exact Picks.nil | (apply Picks.cons; (· (repeat (first | exact Pick.here | apply Pick.there)))) | apply Picks.empty)))) ?_)
      refine fin_code ?_
      refine run_ret ?_
      refine fin_ret_code ?_
      refine fin_ret1 rfl rfl ?_
      intro w' g
      exact hR _ _ (post_of g () trivial rfl (by (apply le_of_picks; (repeat (first | exact Picks.nil | (apply Picks.cons; (· (repeat (first | exact Pick.here | apply Pick.there)))) | apply Picks.empty)))))
set_option maxRecDepth 100000 in
set_option maxHeartbeats 8000000 in
theorem swap_any (w : World) (g cap : Nat) (sp : List Value) (d : Array NS) (a b : Int) (i j : Nat) (ha : a = i) (hb : b = j) (hi : i < d.size) (hj : j < d.size) (hw : At w ([rowH g sp d] : List Hp).flatten) :
    Calls Tryd.prog 86 #[.slice (some ⟨g, 0, none⟩) d.size cap, .int .i64 a, .int .i64 b] w (Post w ([rowH g sp d] : List Hp).flatten (fun _ : Unit => .tuple #[]) (fun _ => ([rowH g sp (Sort.swp d i j)] : List Hp).flatten) (fun _ => True)) := by
  subst ha hb
  refine enter [rowH g sp d] Tryd.func86 rfl rfl hw (Le.refl _) ?_
  intro R hR
  dsimp only [rowH, Sort.swp] at hR ⊢
  have hs1 := row_size g sp d
  have hs2 := row_size g sp (d.setIfInBounds i d[j]!)
  skip
  refine run_drawS [] (by kernel_rfl) ?_
  refine dr_stab 0 rfl rfl (Val.s (val_move rfl)) (by decide +kernel) rfl rfl ?_
  refine dr_stab 1 rfl rfl (Val.s (val_move rfl)) (by decide +kernel) rfl rfl ?_
  refine dr_stab 2 rfl rfl (Val.s (val_move rfl)) (by decide +kernel) rfl rfl ?_
  refine dr_stab 3 rfl rfl (Val.s (val_move rfl)) (by decide +kernel) rfl rfl ?_
  refine dr_stab 4 rfl rfl (Val.s (val_move rfl)) (by decide +kernel) rfl rfl ?_
  refine dr_stab 5 rfl rfl (Val.s (val_move rfl)) (by decide +kernel) rfl rfl ?_
  refine dr_stab 6 rfl rfl (Val.s (val_index rfl rfl (by omega) (by first | (rw [Int.toNat_natCast, Nat.mul_one, Nat.zero_add]) | (rw [Int.toNat_natCast, Nat.mul_one]) | (rw [Int.toNat_natCast, Nat.zero_add]) | (rw [Int.toNat_natCast]) | exact rfl))) (by decide +kernel) rfl rfl ?_
  (apply dr_read 7; (· exact rfl); (· exact rfl); (· (first | (apply val_load; (· exact rfl); (· apply cell_of_has; (· (repeat (first | exact Has.here | apply Has.there))); (· first | exact ai0 | exact aj0 | exact ai1 | exact aj1 | exact ai2 | exact aj2 | exact rfl))) | (refine val_loadA (vs := nsV d[i]!) rfl rfl (row_cells (by (repeat (first | exact Has.here | apply Has.there))) hi)) | (refine val_loadA (vs := nsV d[j]!) rfl rfl (row_cells (by (repeat (first | exact Has.here | apply Has.there))) hj)) | fail)); (· decide +kernel); (· exact rfl); (· exact rfl))
  refine dr_stab 8 rfl rfl (Val.s (val_move rfl)) (by decide +kernel) rfl rfl ?_
  refine dr_stab 9 rfl rfl (Val.s (val_move rfl)) (by decide +kernel) rfl rfl ?_
  refine dr_stab 10 rfl rfl (Val.s (val_index rfl rfl (by omega) (by first | (rw [Int.toNat_natCast, Nat.mul_one, Nat.zero_add]) | (rw [Int.toNat_natCast, Nat.mul_one]) | (rw [Int.toNat_natCast, Nat.zero_add]) | (rw [Int.toNat_natCast]) | exact rfl))) (by decide +kernel) rfl rfl ?_
  (apply dr_read 11; (· exact rfl); (· exact rfl); (· (first | (apply val_load; (· exact rfl); (· apply cell_of_has; (· (repeat (first | exact Has.here | apply Has.there))); (· first | exact ai0 | exact aj0 | exact ai1 | exact aj1 | exact ai2 | exact aj2 | exact rfl))) | (refine val_loadA (vs := nsV d[i]!) rfl rfl (row_cells (by (repeat (first | exact Has.here | apply Has.there))) hi)) | (refine val_loadA (vs := nsV d[j]!) rfl rfl (row_cells (by (repeat (first | exact Has.here | apply Has.there))) hj)) | fail)); (· decide +kernel); (· exact rfl); (· exact rfl))
  refine dr_stab 12 rfl rfl (Val.s (val_index rfl rfl (by omega) (by first | (rw [Int.toNat_natCast, Nat.mul_one, Nat.zero_add]) | (rw [Int.toNat_natCast, Nat.mul_one]) | (rw [Int.toNat_natCast, Nat.zero_add]) | (rw [Int.toNat_natCast]) | exact rfl))) (by decide +kernel) rfl rfl ?_
  (refine dr_one 13 rfl (by decide +kernel) (by (apply le_of_picks; (repeat (first | exact Picks.nil | (apply Picks.cons; (· (repeat (first | exact Pick.here | apply Pick.there)))) | apply Picks.empty)))) ?_)
  (refine op_storeE (row_set hi) rfl rfl rfl (nsV_one _) (by (repeat (first | exact Swap.here | apply Swap.there))) (by show i * 3 + 3 ≤ _; omega) ?_)
  refine ops_nil ?_
  refine fin_draw ?_
  refine dr_stab 14 rfl rfl (Val.s (val_index rfl rfl (by omega) (by first | (rw [Int.toNat_natCast, Nat.mul_one, Nat.zero_add]) | (rw [Int.toNat_natCast, Nat.mul_one]) | (rw [Int.toNat_natCast, Nat.zero_add]) | (rw [Int.toNat_natCast]) | exact rfl))) (by decide +kernel) rfl rfl ?_
  (refine dr_one 15 rfl (by decide +kernel) (by (apply le_of_picks; (repeat (first | exact Picks.nil | (apply Picks.cons; (· (repeat (first | exact Pick.here | apply Pick.there)))) | apply Picks.empty)))) ?_)
  (refine op_storeE (row_set (d := d.setIfInBounds i d[j]!) (i := j) (by simpa using hj)) rfl rfl rfl (nsV_one _) (by (repeat (first | exact Swap.here | apply Swap.there))) (by show j * 3 + 3 ≤ _; simp only [Array.size_setIfInBounds] at hs2; omega) ?_)
  refine ops_nil ?_
  refine fin_draw ?_
  (refine dr_done (by decide +kernel) (by (apply le_of_picks; (repeat (first | exact Picks.nil | (apply Picks.cons; (· (repeat (first | exact Pick.here | apply Pick.there)))) | apply Picks.empty)))) ?_)
  skip
  refine fin_ret0 (.inr rfl) rfl ?_
  intro w' g
  exact hR _ _ (post_of g () trivial rfl (by (apply le_of_picks; (repeat (first | exact Picks.nil | (apply Picks.cons; (· (repeat (first | exact Pick.here | apply Pick.there)))) | apply Picks.empty)))))
theorem len_any (w : World) (g n cap : Nat) : Calls Tryd.prog 84 #[.slice (some ⟨g, 0, none⟩) n cap] w (Post w ([] : List Hp).flatten (fun _ : Unit => .int .i64 n) (fun _ => ([] : List Hp).flatten) (fun _ => True)) := by
  refine enter [] Tryd.func84 rfl rfl (At.nil w) (Le.refl _) ?_
  intro R hR
  refine run_seq ?_
  refine run_region rfl ?_
  refine op_assign rfl rfl ?_
  refine ops_nil ?_
  refine fin_code ?_
  refine run_seq ?_
  refine run_region rfl ?_
  refine op_move rfl rfl ?_
  refine op_len rfl rfl ?_
  refine op_assign rfl rfl ?_
  refine ops_nil ?_
  refine fin_code ?_
  refine run_ret ?_
  refine fin_ret1 rfl rfl ?_
  intro w' g
  exact hR _ _ (post_of g () trivial rfl (by (apply le_of_picks; (repeat (first | exact Picks.nil | (apply Picks.cons; (· (repeat (first | exact Pick.here | apply Pick.there)))) | apply Picks.empty)))))
end Go.Proofs.Eng
