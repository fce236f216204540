/- A part of the proof: what functions of the program do, step by step. -/
import Derived.Test.YtnomlnfdmoecoaaDoorM2
set_option linter.unusedVariables false
set_option linter.unusedSimpArgs false
namespace Go.Proofs.Eng
open Go.RowKit
theorem nsSort_ins (l : List NS) : nsSort l = nsIns l := by
  refine nsIns_unique (List.mergeSort_perm l _) ?_
  have h := List.pairwise_mergeSort (le := fun x y => !nsLt y x) (fun a b c h1 h2 => by
    simp only [Bool.not_eq_true'] at h1 h2 ⊢
    exact nsLe_trans h1 h2) (fun a b => by
    cases h : nsLt b a with
    | false => rfl
    | true =>
      have : nsLt a b = false := by
        rw [Bool.eq_false_iff]
        intro h2
        rw [nsLt_iff'] at h h2
        cases ha : a.t <;> cases hb : b.t <;> simp [ha, hb] at h h2 <;> omega
      simp [this]) l
  exact h.imp fun {a b} h => by simpa using h
theorem nsIns_one {l : List NS} (h : l.length ≤ 1) : nsIns l = l := by
  match l, h with
  | [], _ => rfl
  | [x], _ => rfl
theorem minO_snoc (s : NS) : ∀ l : List NS, s.o ≤ 4294967295 → minO (l ++ [s]) = if s.o < minO l then s.o else minO l
  | [], h => by
    simp only [List.nil_append, minO]
  | x :: l, h => by
    simp only [List.cons_append, minO, minO_snoc s l h]
    repeat (first | split | omega)
theorem minO_le : ∀ l : List NS, minO l ≤ 4294967295 ∧ ∀ s ∈ l, minO l ≤ s.o
  | [] => ⟨Nat.le_refl _, by simp⟩
  | x :: l => by
    have h := minO_le l
    refine ⟨?_, ?_⟩
    · simp only [minO]; split <;> omega
    · intro s hs
      simp only [minO]
      rcases List.mem_cons.1 hs with rfl | hs
      · split <;> omega
      · have := h.2 s hs
        split <;> omega
theorem shiftO_le {l : List NS} (h : ∀ s ∈ l, s.o ≤ 3000) : ∀ s ∈ l, shiftO l ≤ s.o := by
  intro s hs
  have h1 := (minO_le l).2 s hs
  have h2 := h s hs
  unfold shiftO
  rw [if_neg (by omega)]
  exact h1
theorem row_setO (sp : List Value) (o : Nat) : ∀ (T : List NS) (p : Nat) (h : p < T.length), (T.flatMap nsV ++ sp).set (p * 3 + 0) (.int .u32 o) = (T.set p ⟨o, T[p].d, T[p].t⟩).flatMap nsV ++ sp
  | [], p, h => by simp at h
  | x :: T, 0, h => by simp [nsV]
  | x :: T, p + 1, h => by
    have ih := row_setO sp o T p (by simpa using h)
    simp only [List.flatMap_cons, nsV, List.cons_append, List.nil_append, List.set_cons_succ, List.getElem_cons_succ] at ih ⊢
    rw [show (p + 1) * 3 + 0 = p * 3 + 0 + 1 + 1 + 1 by omega]
    simp only [List.set_cons_succ]
    rw [Nat.add_zero] at ih
    rw [ih]
def mvS (sh : Nat) (s : NS) : NS := ⟨s.o - sh, s.d, s.t⟩
def mvK (sh k : Nat) (l : List NS) : List NS := (l.take k).map (mvS sh) ++ l.drop k
theorem mvK_len (sh k : Nat) (l : List NS) : (mvK sh k l).length = l.length := by simp [mvK]; omega
theorem mvK_get (sh k : Nat) (l : List NS) (h : k < l.length) : (mvK sh k l)[k]'(by rw [mvK_len]; exact h) = l[k] := by
  simp only [mvK]
  rw [List.getElem_append_right (by simp; omega)]
  simp
  congr 1
  omega
theorem mvK_set (sh k : Nat) (l : List NS) (h : k < l.length) : (mvK sh k l).set k (mvS sh l[k]) = mvK sh (k + 1) l := by
  simp only [mvK]
  rw [List.set_append_right _ _ (by simp; omega), List.take_succ_eq_append_getElem h, List.map_append, List.append_assoc]
  congr 1
  rw [List.length_map, List.length_take, Nat.min_eq_left (by omega), Nat.sub_self, List.drop_eq_getElem_cons h]
  rfl
theorem mvK_all (l : List NS) : mvK (shiftO l) l.length l = moveB l := by simp [mvK, moveB, mvS]
theorem moveB_len (l : List NS) : (moveB l).length = l.length := by simp [moveB]
set_option maxRecDepth 100000 in
set_option maxHeartbeats 8000000 in
theorem norm_any (w : World) (q : Nat) (v : Value) (l : List NS) (lv : Hp) (hov : Own 87 3 v l.length (l.flatMap nsV) lv) (hb : ∀ s ∈ l, s.o ≤ 3000 ∧ s.d ≤ 255) (hlen : l.length ≤ 60000) (hw : At w ([msB q v, lv] : List Hp).flatten) :
    Calls Tryd.prog 29 #[.pointer (some ⟨q, 0, none⟩)] w (Post w ([msB q v, lv] : List Hp).flatten (fun _ : Hp => .int .u32 (shiftO l : Nat)) (fun y => ([msB q v, y] : List Hp).flatten) (fun y => Own 87 3 v l.length ((nsIns (moveB l)).flatMap nsV) y)) := by
  refine enter [msB q v, lv] Tryd.func29 rfl rfl hw (Le.refl _) ?_
  intro R hR
  dsimp only [msB] at hR ⊢
  obtain ⟨A, cA, rfl⟩ := hov.isSlice
  have hm1 := (minO_le l).1
  by_cases hne : l.length = 0
  · have hl0 : l = [] := List.eq_nil_of_length_eq_zero hne
    subst hl0
    refine run_seq ?_
    refine run_region rfl ?_
    refine op_assign rfl rfl ?_
    refine ops_nil ?_
    refine fin_code ?_
    refine run_seq ?_
    refine run_region rfl ?_
    refine op_assign rfl rfl ?_
    refine ops_nil ?_
    refine fin_code ?_
    refine run_seq ?_
    refine run_seq ?_
    refine run_region rfl ?_
    refine op_move rfl rfl ?_
    refine op_nilCheck rfl rfl ?_
    refine op_fieldAddr rfl rfl ?_
    (apply op_load; (· exact rfl); (· exact rfl); (· apply cell_of_has; (· (repeat (first | exact Has.here | apply Has.there))); (· first | exact rfl | exact hgo)))
    refine op_len rfl rfl ?_
    refine op_move rfl rfl ?_
    refine ops_nil ?_
    refine fin_code ?_
    refine run_block ?_
    refine run_loop (α := Unit) (fun _ => [(0, .pointer (some ⟨q, 0, none⟩)), (3, .int .u32 4294967295), (11, .int .i64 (0 : Nat)), (12, .int .i64 (0 : Nat))]) (fun _ => [[⟨q, .cells #[.slice A 0 cA] 67 (0, 0)⟩], lv]) (fun _ => True) (fun _ => 0) () trivial (by (repeat (first | exact Sub.nil _ | (refine Sub.cons rfl ?_)))) (by (apply le_of_picks; (repeat (first | exact Picks.nil | (apply Picks.cons; (· (repeat (first | exact Pick.here | apply Pick.there)))) | apply Picks.empty)))) ?_
    intro _ _
    refine run_seq ?_
    refine run_region rfl ?_
    refine op_cmp_f rfl rfl rfl rfl (by first | (simp only [cmpP]; done) | (simp only [cmpP]; omega)) ?_
    refine ops_nil ?_
    refine fin_code ?_
    refine run_seq ?_
    refine run_cond_f rfl ?_
    refine run_exit ?_
    refine fin_exit_code ?_
    refine fin_exit_inv ?_
    refine fin_exit_here ?_
    refine fin_code ?_
    refine run_seq ?_
    refine run_seq ?_
    refine run_region rfl ?_
    refine op_move rfl rfl ?_
    refine op_cmp_t rfl rfl rfl rfl (by first | (simp only [cmpP]; done) | (simp only [cmpP]; omega)) ?_
    refine ops_nil ?_
    refine fin_code ?_
    refine run_cond_t rfl ?_
    refine run_region rfl ?_
    refine op_assign rfl rfl ?_
    refine ops_nil ?_
    refine fin_code ?_
    refine run_seq ?_
    refine run_seq ?_
    refine run_region rfl ?_
    refine op_assign rfl rfl ?_
    refine ops_nil ?_
    refine fin_code ?_
    refine run_block ?_
    refine run_loop (α := Unit) (fun _ => [(0, .pointer (some ⟨q, 0, none⟩)), (3, .int .u32 0), (6, .int .i64 (0 : Nat))]) (fun _ => [[⟨q, .cells #[.slice A 0 cA] 67 (0, 0)⟩], lv]) (fun _ => True) (fun _ => 0) () trivial (by (repeat (first | exact Sub.nil _ | (refine Sub.cons rfl ?_)))) (by (apply le_of_picks; (repeat (first | exact Picks.nil | (apply Picks.cons; (· (repeat (first | exact Pick.here | apply Pick.there)))) | apply Picks.empty)))) ?_
    intro _ _
    refine run_seq ?_
    refine run_seq ?_
    refine run_region rfl ?_
    refine op_move rfl rfl ?_
    refine op_move rfl rfl ?_
    refine op_nilCheck rfl rfl ?_
    refine op_fieldAddr rfl rfl ?_
    (apply op_load; (· exact rfl); (· exact rfl); (· apply cell_of_has; (· (repeat (first | exact Has.here | apply Has.there))); (· first | exact rfl | exact hgo)))
    refine op_len rfl rfl ?_
    refine op_cmp_f rfl rfl rfl rfl (by first | (simp only [cmpP]; done) | (simp only [cmpP]; omega)) ?_
    refine ops_nil ?_
    refine fin_code ?_
    refine run_cond_f rfl ?_
    refine run_exit ?_
    refine fin_exit_code ?_
    refine fin_exit_inv ?_
    refine fin_exit_here ?_
    refine fin_code ?_
    refine run_seq ?_
    refine run_region rfl ?_
    refine op_move rfl rfl ?_
    refine op_nilCheck rfl rfl ?_
    refine op_fieldAddr rfl rfl ?_
    (apply op_load; (· exact rfl); (· exact rfl); (· apply cell_of_has; (· (repeat (first | exact Has.here | apply Has.there))); (· first | exact rfl | exact hgo)))
    (refine op_val rfl (val_iface rfl) ?_)
    ((first | (apply op_call; (· exact rfl)) | apply op_call0); (· exact rfl); rotate_left 1; (· exact fun w hG hw => sortS_any w A 0 cA (by decide)); rotate_right 1; (· (repeat (first | exact Picks.nil | (apply Picks.cons; (· (repeat (first | exact Pick.here | apply Pick.there)))) | apply Picks.empty))))
    intro _ _
    refine ops_nil ?_
    refine fin_code ?_
    refine run_seq ?_
    refine run_region rfl ?_
    refine op_move rfl rfl ?_
    refine op_assign rfl rfl ?_
    refine ops_nil ?_
    refine fin_code ?_
    refine run_ret ?_
    refine fin_ret1 rfl rfl ?_
    intro w' g'
    exact hR _ _ (post_of g' lv hov rfl (by (apply le_of_picks; (repeat (first | exact Picks.nil | (apply Picks.cons; (· (repeat (first | exact Pick.here | apply Pick.there)))) | apply Picks.empty)))))
  · obtain ⟨g, cap, sp, hv, rfl, k1, k2, k3⟩ := hov.asRow (by omega)
    cases hv
    unfold rowH at hw
    dsimp only [rowH] at hR ⊢
    obtain ⟨sh, hsh⟩ : ∃ sh, sh = shiftO l := ⟨_, rfl⟩
    have hsl := shiftO_le (fun s hs => (hb s hs).1)
    rw [← hsh] at hsl hR
    have hmn : minO l = sh := by
      obtain ⟨s, t, e⟩ := List.exists_cons_of_length_pos (by omega : 0 < l.length)
      have h1 := (minO_le l).2 s (by rw [e]; simp)
      have h2 := (hb s (by rw [e]; simp)).1
      rw [hsh]
      unfold shiftO
      rw [if_neg (by omega)]
    have hs3 : sh ≤ 3000 := by
      obtain ⟨s, t, e⟩ := List.exists_cons_of_length_pos (by omega : 0 < l.length)
      have h1 := hsl s (by rw [e]; simp)
      have h2 := (hb s (by rw [e]; simp)).1
      omega
    refine run_seq ?_
    refine run_region rfl ?_
    refine op_assign rfl rfl ?_
    refine ops_nil ?_
    refine fin_code ?_
    refine run_seq ?_
    refine run_region rfl ?_
    refine op_assign rfl rfl ?_
    refine ops_nil ?_
    refine fin_code ?_
    refine run_seq ?_
    refine run_seq ?_
    refine run_region rfl ?_
    refine op_move rfl rfl ?_
    refine op_nilCheck rfl rfl ?_
    refine op_fieldAddr rfl rfl ?_
    (apply op_load; (· exact rfl); (· exact rfl); (· apply cell_of_has; (· (repeat (first | exact Has.here | apply Has.there))); (· first | exact rfl | exact hgo)))
    refine op_len rfl rfl ?_
    refine op_move rfl rfl ?_
    refine ops_nil ?_
    refine fin_code ?_
    refine run_block ?_
    refine run_loop (α := Nat) (fun i => [(0, .pointer (some ⟨q, 0, none⟩)), (3, .int .u32 (minO (l.take i) : Nat)), (10, .slice (some ⟨g, 0, none⟩) l.length cA), (11, .int .i64 (l.length : Nat)), (12, .int .i64 (i : Nat))]) (fun _ => [[⟨q, .cells #[.slice (some ⟨g, 0, none⟩) l.length cA] 67 (0, 0)⟩], [⟨g, .cells (l.flatMap nsV ++ sp).toArray 87 (0, 0)⟩]]) (fun i => i ≤ l.length) (fun i => l.length - i) 0 (Nat.zero_le _) (by (repeat (first | exact Sub.nil _ | (refine Sub.cons rfl ?_)))) (by (apply le_of_picks; (repeat (first | exact Picks.nil | (apply Picks.cons; (· (repeat (first | exact Pick.here | apply Pick.there)))) | apply Picks.empty)))) ?_
    intro i hi
    by_cases hil : i < l.length
    · have hbi := hb l[i] (List.getElem_mem hil)
      have hms := minO_snoc l[i] (l.take i) (by omega)
      rw [← List.take_succ_eq_append_getElem hil] at hms
      have hmt := (minO_le (l.take i)).1
      by_cases hlt : l[i].o < minO (l.take i)
      · rw [if_pos hlt] at hms
        refine run_seq ?_
        refine run_region rfl ?_
        refine op_cmp_t rfl rfl rfl rfl (by first | (simp only [cmpP]; done) | (simp only [cmpP]; omega)) ?_
        refine ops_nil ?_
        refine fin_code ?_
        refine run_seq ?_
        refine run_cond_t rfl ?_
        refine run_skip ?_
        refine fin_code ?_
        refine run_seq ?_
        refine run_block ?_
        refine run_seq ?_
        refine run_region rfl ?_
        refine op_index rfl rfl rfl (by omega) (by first | (rw [Int.toNat_natCast, Nat.mul_one, Nat.zero_add]) | (rw [Int.toNat_natCast, Nat.mul_one]) | (rw [Int.toNat_natCast, Nat.zero_add]) | (rw [Int.toNat_natCast]) | exact rfl) ?_
        (refine op_loadA (vs := nsV l[i]) rfl rfl rfl (fun k u hu => cell_of_has (by (repeat (first | exact Has.here | apply Has.there))) (aget_pre (flat_get nsV 3 (fun _ => rfl) l i hil k u hu))) ?_)
        (refine op_alloc rfl ?_; intro _ _)
        (apply op_storeAll; (· exact rfl); (· exact rfl); (· exact rfl); (· exact nsV_one _); (· (repeat (first | exact Swap.here | apply Swap.there))); (· exact rfl))
        refine ops_nil ?_
        refine fin_code ?_
        refine run_seq ?_
        refine run_region rfl ?_
        refine op_fieldAddr rfl rfl ?_
        (apply op_load; (· exact rfl); (· exact rfl); (· apply cell_of_has; (· (repeat (first | exact Has.here | apply Has.there))); (· first | exact rfl | exact hgo)))
        refine op_move rfl rfl ?_
        refine op_cmp_t rfl rfl rfl rfl (by first | (simp only [cmpP]; done) | (simp only [cmpP]; omega)) ?_
        refine ops_nil ?_
        refine fin_code ?_
        refine run_cond_t rfl ?_
        refine run_region rfl ?_
        refine op_fieldAddr rfl rfl ?_
        (apply op_load; (· exact rfl); (· exact rfl); (· apply cell_of_has; (· (repeat (first | exact Has.here | apply Has.there))); (· first | exact rfl | exact hgo)))
        refine op_assign rfl rfl ?_
        refine ops_nil ?_
        refine fin_block ?_
        refine fin_code ?_
        refine run_region rfl ?_
        refine op_add rfl rfl rfl (by simp only [kLo, kHi]; omega) ?_
        refine op_move rfl rfl ?_
        refine ops_nil ?_
        refine fin_round (i + 1) (by omega) ?_ (by (apply le_of_picks; (repeat (first | exact Picks.nil | (apply Picks.cons; (· (repeat (first | exact Pick.here | apply Pick.there)))) | apply Picks.empty)))) hil
        rw [hms]
        (repeat (first | exact Sub.nil _ | (refine Sub.cons rfl ?_)))
      · rw [if_neg hlt] at hms
        refine run_seq ?_
        refine run_region rfl ?_
        refine op_cmp_t rfl rfl rfl rfl (by first | (simp only [cmpP]; done) | (simp only [cmpP]; omega)) ?_
        refine ops_nil ?_
        refine fin_code ?_
        refine run_seq ?_
        refine run_cond_t rfl ?_
        refine run_skip ?_
        refine fin_code ?_
        refine run_seq ?_
        refine run_block ?_
        refine run_seq ?_
        refine run_region rfl ?_
        refine op_index rfl rfl rfl (by omega) (by first | (rw [Int.toNat_natCast, Nat.mul_one, Nat.zero_add]) | (rw [Int.toNat_natCast, Nat.mul_one]) | (rw [Int.toNat_natCast, Nat.zero_add]) | (rw [Int.toNat_natCast]) | exact rfl) ?_
        (refine op_loadA (vs := nsV l[i]) rfl rfl rfl (fun k u hu => cell_of_has (by (repeat (first | exact Has.here | apply Has.there))) (aget_pre (flat_get nsV 3 (fun _ => rfl) l i hil k u hu))) ?_)
        (refine op_alloc rfl ?_; intro _ _)
        (apply op_storeAll; (· exact rfl); (· exact rfl); (· exact rfl); (· exact nsV_one _); (· (repeat (first | exact Swap.here | apply Swap.there))); (· exact rfl))
        refine ops_nil ?_
        refine fin_code ?_
        refine run_seq ?_
        refine run_region rfl ?_
        refine op_fieldAddr rfl rfl ?_
        (apply op_load; (· exact rfl); (· exact rfl); (· apply cell_of_has; (· (repeat (first | exact Has.here | apply Has.there))); (· first | exact rfl | exact hgo)))
        refine op_move rfl rfl ?_
        refine op_cmp_f rfl rfl rfl rfl (by first | (simp only [cmpP]; done) | (simp only [cmpP]; omega)) ?_
        refine ops_nil ?_
        refine fin_code ?_
        refine run_cond_f rfl ?_
        refine run_skip ?_
        refine fin_block ?_
        refine fin_code ?_
        refine run_region rfl ?_
        refine op_add rfl rfl rfl (by simp only [kLo, kHi]; omega) ?_
        refine op_move rfl rfl ?_
        refine ops_nil ?_
        refine fin_round (i + 1) (by omega) ?_ (by (apply le_of_picks; (repeat (first | exact Picks.nil | (apply Picks.cons; (· (repeat (first | exact Pick.here | apply Pick.there)))) | apply Picks.empty)))) hil
        rw [hms]
        (repeat (first | exact Sub.nil _ | (refine Sub.cons rfl ?_)))
    · obtain rfl : i = l.length := by omega
      rw [List.take_length, hmn]
      refine run_seq ?_
      refine run_region rfl ?_
      refine op_cmp_f rfl rfl rfl rfl (by first | (simp only [cmpP]; done) | (simp only [cmpP]; omega)) ?_
      refine ops_nil ?_
      refine fin_code ?_
      refine run_seq ?_
      refine run_cond_f rfl ?_
      refine run_exit ?_
      refine fin_exit_code ?_
      refine fin_exit_inv ?_
      refine fin_exit_here ?_
      refine fin_code ?_
      refine run_seq ?_
      refine run_seq ?_
      refine run_region rfl ?_
      refine op_move rfl rfl ?_
      refine op_cmp_f rfl rfl rfl rfl (by first | (simp only [cmpP]; done) | (simp only [cmpP]; omega)) ?_
      refine ops_nil ?_
      refine fin_code ?_
      refine run_cond_f rfl ?_
      refine run_skip ?_
      refine fin_code ?_
      refine run_seq ?_
      refine run_seq ?_
      refine run_region rfl ?_
      refine op_assign rfl rfl ?_
      refine ops_nil ?_
      refine fin_code ?_
      refine run_block ?_
      refine run_loop (α := Nat) (fun k => [(0, .pointer (some ⟨q, 0, none⟩)), (3, .int .u32 (sh : Nat)), (6, .int .i64 (k : Nat))]) (fun k => [[⟨q, .cells #[.slice (some ⟨g, 0, none⟩) l.length cA] 67 (0, 0)⟩], [⟨g, .cells ((mvK sh k l).flatMap nsV ++ sp).toArray 87 (0, 0)⟩]]) (fun k => k ≤ l.length) (fun k => l.length - k) 0 (Nat.zero_le _) (by (repeat (first | exact Sub.nil _ | (refine Sub.cons rfl ?_)))) ?_ ?_
      · have e : mvK sh 0 l = l := by simp [mvK]
        rw [e]
        (apply le_of_picks; (repeat (first | exact Picks.nil | (apply Picks.cons; (· (repeat (first | exact Pick.here | apply Pick.there)))) | apply Picks.empty)))
      intro k hk
      by_cases hkl : k < l.length
      · have hbk := hb l[k] (List.getElem_mem hkl)
        have hsk := hsl l[k] (List.getElem_mem hkl)
        have hkm : k < (mvK sh k l).length := by rw [mvK_len]; exact hkl
        have hgo : aget ((mvK sh k l).flatMap nsV ++ sp).toArray (k * 3 + 0) = some (.int .u32 (l[k].o : Nat)) := by
          refine aget_pre (flat_get nsV 3 (fun _ => rfl) (mvK sh k l) k hkm 0 _ ?_)
          rw [mvK_get sh k l hkl]
          rfl
        have hst : ((mvK sh k l).flatMap nsV ++ sp).toArray.setIfInBounds (k * 3 + 0) (.int .u32 ((l[k].o : Int) - (sh : Nat))) = ((mvK sh (k + 1) l).flatMap nsV ++ sp).toArray := by
          have h := row_setO sp (l[k].o - sh) (mvK sh k l) k hkm
          rw [mvK_get sh k l hkl] at h
          rw [List.setIfInBounds_toArray, show ((l[k].o : Int) - (sh : Nat)) = ((l[k].o - sh : Nat) : Int) by omega, h, ← mvK_set sh k l hkl]
          rfl
        have hsz : True → k * 3 + 0 < ((mvK sh k l).flatMap nsV ++ sp).toArray.size := fun _ => aget_lt hgo
        generalize l[k].o = o at *
        refine run_seq ?_
        refine run_seq ?_
        refine run_region rfl ?_
        refine op_move rfl rfl ?_
        refine op_move rfl rfl ?_
        refine op_nilCheck rfl rfl ?_
        refine op_fieldAddr rfl rfl ?_
        (apply op_load; (· exact rfl); (· exact rfl); (· apply cell_of_has; (· (repeat (first | exact Has.here | apply Has.there))); (· first | exact rfl | exact hgo)))
        refine op_len rfl rfl ?_
        refine op_cmp_t rfl rfl rfl rfl (by first | (simp only [cmpP]; done) | (simp only [cmpP]; omega)) ?_
        refine ops_nil ?_
        refine fin_code ?_
        refine run_cond_t rfl ?_
        refine run_skip ?_
        refine fin_code ?_
        refine run_seq ?_
        refine run_block ?_
        refine run_region rfl ?_
        refine op_move rfl rfl ?_
        refine op_nilCheck rfl rfl ?_
        refine op_fieldAddr rfl rfl ?_
        (apply op_load; (· exact rfl); (· exact rfl); (· apply cell_of_has; (· (repeat (first | exact Has.here | apply Has.there))); (· first | exact rfl | exact hgo)))
        refine op_move rfl rfl ?_
        refine op_index rfl rfl rfl (by omega) (by first | (rw [Int.toNat_natCast, Nat.mul_one, Nat.zero_add]) | (rw [Int.toNat_natCast, Nat.mul_one]) | (rw [Int.toNat_natCast, Nat.zero_add]) | (rw [Int.toNat_natCast]) | exact rfl) ?_
        refine op_fieldAddr rfl rfl ?_
        (apply op_load; (· exact rfl); (· exact rfl); (· apply cell_of_has; (· (repeat (first | exact Has.here | apply Has.there))); (· first | exact rfl | exact hgo)))
        refine op_move rfl rfl ?_
        refine op_sub rfl rfl rfl (by simp only [kLo, kHi]; omega) ?_
        refine op_index rfl rfl rfl (by omega) (by first | (rw [Int.toNat_natCast, Nat.mul_one, Nat.zero_add]) | (rw [Int.toNat_natCast, Nat.mul_one]) | (rw [Int.toNat_natCast, Nat.zero_add]) | (rw [Int.toNat_natCast]) | exact rfl) ?_
        refine op_fieldAddr rfl rfl ?_
        (refine op_storeX hst rfl rfl rfl (by (repeat (first | exact Swap.here | apply Swap.there))) (hsz trivial) ?_)
        refine ops_nil ?_
        refine fin_block ?_
        refine fin_code ?_
        refine run_region rfl ?_
        refine op_move rfl rfl ?_
        refine op_add rfl rfl rfl (by simp only [kLo, kHi]; omega) ?_
        refine op_assign rfl rfl ?_
        refine ops_nil ?_
        refine fin_round (k + 1) (by omega) (by (repeat (first | exact Sub.nil _ | (refine Sub.cons rfl ?_)))) (by (apply le_of_picks; (repeat (first | exact Picks.nil | (apply Picks.cons; (· (repeat (first | exact Pick.here | apply Pick.there)))) | apply Picks.empty)))) hkl
      · obtain rfl : k = l.length := by omega
        rw [hsh, mvK_all]
        have hml := moveB_len l
        by_cases h1 : l.length ≤ 1
        · rw [nsIns_one (by rw [hml]; exact h1)] at hR
          refine run_seq ?_
          refine run_seq ?_
          refine run_region rfl ?_
          refine op_move rfl rfl ?_
          refine op_move rfl rfl ?_
          refine op_nilCheck rfl rfl ?_
          refine op_fieldAddr rfl rfl ?_
          (apply op_load; (· exact rfl); (· exact rfl); (· apply cell_of_has; (· (repeat (first | exact Has.here | apply Has.there))); (· first | exact rfl | exact hgo)))
          refine op_len rfl rfl ?_
          refine op_cmp_f rfl rfl rfl rfl (by first | (simp only [cmpP]; done) | (simp only [cmpP]; omega)) ?_
          refine ops_nil ?_
          refine fin_code ?_
          refine run_cond_f rfl ?_
          refine run_exit ?_
          refine fin_exit_code ?_
          refine fin_exit_inv ?_
          refine fin_exit_here ?_
          refine fin_code ?_
          refine run_seq ?_
          refine run_region rfl ?_
          refine op_move rfl rfl ?_
          refine op_nilCheck rfl rfl ?_
          refine op_fieldAddr rfl rfl ?_
          (apply op_load; (· exact rfl); (· exact rfl); (· apply cell_of_has; (· (repeat (first | exact Has.here | apply Has.there))); (· first | exact rfl | exact hgo)))
          (refine op_val rfl (val_iface rfl) ?_)
          ((first | (apply op_call; (· exact rfl)) | apply op_call0); (· exact rfl); rotate_left 1; (· exact fun w hG hw => sortS_any w (some ⟨g, 0, none⟩) l.length cA h1); rotate_right 1; (· (repeat (first | exact Picks.nil | (apply Picks.cons; (· (repeat (first | exact Pick.here | apply Pick.there)))) | apply Picks.empty))))
          intro _ _
          refine ops_nil ?_
          refine fin_code ?_
          refine run_seq ?_
          refine run_region rfl ?_
          refine op_move rfl rfl ?_
          refine op_assign rfl rfl ?_
          refine ops_nil ?_
          refine fin_code ?_
          refine run_ret ?_
          refine fin_ret1 rfl rfl ?_
          intro w' g'
          exact hR _ _ (post_of g' _ (Own.ofRow (g := g) (sp := sp) (d := (moveB l).toArray) (by simpa using hml) k1 k2 k3) (by rw [hsh]) (by dsimp only [rowH]; (apply le_of_picks; (repeat (first | exact Picks.nil | (apply Picks.cons; (· (repeat (first | exact Pick.here | apply Pick.there)))) | apply Picks.empty)))))
        · refine run_seq ?_
          refine run_seq ?_
          refine run_region rfl ?_
          refine op_move rfl rfl ?_
          refine op_move rfl rfl ?_
          refine op_nilCheck rfl rfl ?_
          refine op_fieldAddr rfl rfl ?_
          (apply op_load; (· exact rfl); (· exact rfl); (· apply cell_of_has; (· (repeat (first | exact Has.here | apply Has.there))); (· first | exact rfl | exact hgo)))
          refine op_len rfl rfl ?_
          refine op_cmp_f rfl rfl rfl rfl (by first | (simp only [cmpP]; done) | (simp only [cmpP]; omega)) ?_
          refine ops_nil ?_
          refine fin_code ?_
          refine run_cond_f rfl ?_
          refine run_exit ?_
          refine fin_exit_code ?_
          refine fin_exit_inv ?_
          refine fin_exit_here ?_
          refine fin_code ?_
          refine run_seq ?_
          refine run_region rfl ?_
          refine op_move rfl rfl ?_
          refine op_nilCheck rfl rfl ?_
          refine op_fieldAddr rfl rfl ?_
          (apply op_load; (· exact rfl); (· exact rfl); (· apply cell_of_has; (· (repeat (first | exact Has.here | apply Has.there))); (· first | exact rfl | exact hgo)))
          (refine op_val rfl (val_iface rfl) ?_)
          ((first | (apply op_call; (· exact rfl)) | apply op_call0); (· exact rfl); rotate_left 1; (· exact fun w hG hw => sort_any (SD.row (g := g) (cap := cA) (sp := sp) (n := l.length) (by omega)) nsLt_swo (fun w => lenS_any w _ _ _) w (moveB l).toArray (by simpa using hml) hw); rotate_right 1; (· (repeat (first | exact Picks.nil | (apply Picks.cons; (· (repeat (first | exact Pick.here | apply Pick.there)))) | apply Picks.empty))))
          rintro d' ⟨hp, hs⟩
          have e : d'.toList = nsIns (moveB l) := by
            have := nsSort_of (d := (moveB l).toArray) (d' := d') (by simpa [hml] using hp) (by simpa [hml] using hs)
            rw [← nsSort_ins]
            simpa using this
          have ho' : Own 87 3 (.slice (some ⟨g, 0, none⟩) l.length cA) l.length ((nsIns (moveB l)).flatMap nsV) (rowH g sp d') := by
            rw [← e]
            exact Own.ofRow (by have := congrArg List.length e; rw [nsIns_len, hml] at this; simpa using this) k1 k2 k3
          refine ops_nil ?_
          refine fin_code ?_
          refine run_seq ?_
          refine run_region rfl ?_
          refine op_move rfl rfl ?_
          refine op_assign rfl rfl ?_
          refine ops_nil ?_
          refine fin_code ?_
          refine run_ret ?_
          refine fin_ret1 rfl rfl ?_
          intro w' g'
          exact hR _ _ (post_of g' (rowH g sp d') ho' (by rw [hsh]) (by (apply le_of_picks; (repeat (first | exact Picks.nil | (apply Picks.cons; (· (repeat (first | exact Pick.here | apply Pick.there)))) | apply Picks.empty)))))
end Go.Proofs.Eng
