/- A part of the proof: what functions of the program do, step by step. -/
import Derived.Test.YtjfpcckdelocpaaDoorZg
set_option linter.unusedVariables false
set_option linter.unusedSimpArgs false
namespace Go.Proofs.Eng
open Go.RowKit
theorem Al.len {s e : Nat} (h : Al s e) : (encN s).length = (encN e).length := by
  have h1 := h.wide
  have h2 := h.le
  rw [encN_len, encN_len]
  rcases h1 with h1 | h1 | h1 | h1
  · rw [if_pos h1, if_pos (by omega)]
  · rw [if_neg (by omega), if_pos (by omega), if_neg (by omega), if_pos (by omega)]
  · rw [if_neg (by omega), if_neg (by omega), if_pos (by omega), if_neg (by omega), if_neg (by omega), if_pos (by omega)]
  · rw [if_neg (by omega), if_neg (by omega), if_neg (by omega), if_neg (by omega), if_neg (by omega), if_neg (by omega)]
theorem encN_le (r : Nat) (hr : r ≤ 1114111) : ∀ x ∈ encN r, x ≤ 255 := by
  intro x hx
  unfold encN at hx
  split at hx
  · simp at hx; omega
  · split at hx
    · simp at hx; omega
    · split at hx
      · simp at hx; omega
      · simp at hx; omega
/-- The first bytes, or the last ones. -/
def col (q : List (Nat × Nat)) (wh : Nat) : List Nat := if wh = 0 then q.map (·.1) else q.map (·.2)
theorem col_len (q : List (Nat × Nat)) (wh : Nat) : (col q wh).length = q.length := by unfold col; split <;> simp
theorem col_seq {s e : Nat} (h : Al s e) (wh : Nat) : col (seqOf s e) wh = encN (if wh = 0 then s else e) := by
  unfold col seqOf
  by_cases h0 : wh = 0
  · rw [if_pos h0, if_pos h0]; exact List.map_fst_zip (by rw [h.len]; omega)
  · rw [if_neg h0, if_neg h0]; exact List.map_snd_zip (by rw [h.len]; omega)
theorem encQ_col {q : List (Nat × Nat)} {k wh : Nat} (h : k < q.length) (hw : wh < 2) : (encQ q)[k * 2 + wh]? = some (.int .u8 ((col q wh)[k]'(by rw [col_len]; exact h) : Nat)) := by
  have hc : wh = 0 ∨ wh = 1 := by omega
  rcases hc with rfl | rfl
  · rw [Nat.add_zero, encQ_at0 h]; simp [col]
  · rw [encQ_at1 h]; simp [col]
theorem u8s_snoc (l : List Nat) (x : Nat) : u8s (l ++ [x]) = u8s l ++ [.int .u8 (x : Nat)] := by simp [u8s]
set_option maxRecDepth 100000 in
set_option maxHeartbeats 8000000 in
theorem lawWidth_any (w0 : World) (fr to : Int) (hgl : RdB w0 w0.heap.size 5 (r2 (65535, 0))) (hgl6 : RdB w0 w0.heap.size 6 [.int .u8 255, .int .u8 0]) :
    Calls Tryd.prog 4 #[.int .i32 fr, .int .i32 to] w0 (Post w0 ([] : List Hp).flatten (fun _ : Unit => .bool true) (fun _ => ([] : List Hp).flatten) (fun _ => True)) := by
  refine enter [] Tryd.func4 rfl rfl (At.nil w0) (Le.refl _) ?_
  intro R hR
  by_cases h1 : 0 ≤ fr ∧ fr ≤ to ∧ to ≤ 1114111
  rotate_left 1
  · refine run_seq ?_
    refine run_region rfl ?_
    refine op_assign rfl rfl ?_
    refine ops_nil ?_
    refine fin_code ?_
    refine run_seq ?_
    refine run_seq ?_
    refine run_region rfl ?_
    refine op_move rfl rfl ?_
    refine op_move rfl rfl ?_
    ((first | (apply op_call; (· exact rfl)) | apply op_call0); (· exact rfl); rotate_left 1; (· exact fun w hG hw => ranged_any w fr to false (by simp only [Bool.false_eq_true, false_iff]; exact h1)); rotate_right 1; (· (repeat (first | exact Picks.nil | (apply Picks.cons; (· (repeat (first | exact Pick.here | apply Pick.there)))) | apply Picks.empty))))
    intro _ _
    refine op_not rfl rfl ?_
    refine ops_nil ?_
    refine fin_code ?_
    refine run_cond_t rfl ?_
    refine run_seq ?_
    refine run_region rfl ?_
    refine op_assign rfl rfl ?_
    refine ops_nil ?_
    refine fin_code ?_
    refine run_ret ?_
    refine fin_ret_code ?_
    refine fin_ret1 rfl rfl ?_
    intro w' g
    exact hR _ _ (post_of g () trivial rfl (by (apply le_of_picks; (repeat (first | exact Picks.nil | (apply Picks.cons; (· (repeat (first | exact Pick.here | apply Pick.there)))) | apply Picks.empty)))))
  refine run_seq ?_
  refine run_region rfl ?_
  refine op_assign rfl rfl ?_
  refine ops_nil ?_
  refine fin_code ?_
  refine run_seq ?_
  refine run_seq ?_
  refine run_region rfl ?_
  refine op_move rfl rfl ?_
  refine op_move rfl rfl ?_
  ((first | (apply op_call; (· exact rfl)) | apply op_call0); (· exact rfl); rotate_left 1; (· exact fun w hG hw => ranged_any w fr to true (by simp only [true_iff]; exact h1)); rotate_right 1; (· (repeat (first | exact Picks.nil | (apply Picks.cons; (· (repeat (first | exact Pick.here | apply Pick.there)))) | apply Picks.empty))))
  intro _ _
  obtain ⟨lo, rfl⟩ : ∃ n : Nat, fr = n := ⟨fr.toNat, by omega⟩
  obtain ⟨hi, rfl⟩ : ∃ n : Nat, to = n := ⟨to.toNat, by omega⟩
  refine op_not rfl rfl ?_
  refine ops_nil ?_
  refine fin_code ?_
  refine run_cond_f rfl ?_
  refine run_skip ?_
  refine fin_code ?_
  refine run_seq ?_
  refine run_region rfl ?_
  refine op_move rfl rfl ?_
  refine op_move rfl rfl ?_
  ((first | (apply op_call; (· exact rfl)) | apply op_call0); (· exact rfl)); (case' hc => (refine fun w hG hw => sequences_any w lo hi (by omega) (by omega) ?_ ?_)); (case hp => (repeat (first | exact Picks.nil | (apply Picks.cons; (· (repeat (first | exact Pick.here | apply Pick.there)))) | apply Picks.empty)))
  · exact hgl.now hG
  · exact hgl6.now hG
  rintro ⟨xv, xl, xrs⟩ hx
  obtain ⟨Ax, cx, hxv⟩ := hx.own.isSlice
  dsimp only at hxv
  subst hxv
  have hfx := hx.few
  have hrow := hx.row
  have hown := hx.own
  obtain ⟨L, hgood, hL, _⟩ := hx.good
  dsimp only at hfx hrow hown hL ⊢
  have hLl : L.length = xrs.length := by have := congrArg List.length hL; simpa using this.symm
  refine op_move rfl rfl ?_
  refine op_extract rfl rfl rfl ?_
  refine op_extract rfl rfl rfl ?_
  refine op_assign rfl rfl ?_
  refine op_assign rfl rfl ?_
  refine ops_nil ?_
  refine fin_code ?_
  refine run_seq ?_
  refine run_seq ?_
  refine run_region rfl ?_
  refine op_move rfl rfl ?_
  refine op_not rfl rfl ?_
  refine op_move rfl rfl ?_
  refine ops_guard_yes rfl rfl rfl ?_
  refine op_move rfl rfl ?_
  refine ops_guard_yes rfl rfl rfl ?_
  refine op_len rfl rfl ?_
  refine ops_guard_yes rfl rfl rfl ?_
  have hLb : ∀ nb : Int, (0 < nb ↔ ∃ r, isL r ∧ lo ≤ r ∧ r ≤ hi) → (0 < xrs.length ↔ 0 < nb) := by
    intro nb hnb
    rw [hnb]
    constructor
    · intro h
      have hm : L[0]'(by omega) ∈ L := List.getElem_mem _
      obtain ⟨ha, hb1, hb2⟩ := hgood.al _ hm
      exact ⟨_, ha.letter (Nat.le_refl _) ha.le, hb1, Nat.le_trans ha.le hb2⟩
    · rintro ⟨r, h1, h2, h3⟩
      obtain ⟨p, hp, _⟩ := hgood.all r h1 h2 h3
      have := List.length_pos_of_mem hp
      omega
  refine ops_join (α := Unit) (fun _ => [(0, .int .i32 lo), (1, .int .i32 hi), (5, .slice Ax xrs.length cx), (36, .bool false)]) (fun _ => [xl, xrs.flatMap RowG.l]) (fun _ => True) ?_ ?_
  rotate_left 1
  · intro J
    have J1 := J () trivial
    by_cases h0 : 0 < xrs.length
    · refine op_cmp_t rfl rfl rfl rfl (by first | (simp only [cmpP]; done) | (simp only [cmpP]; omega)) ?_
      refine ops_guard_yes rfl rfl rfl ?_
      refine op_move rfl rfl ?_
      refine ops_guard_yes rfl rfl rfl ?_
      refine op_conv rfl rfl (by simp only [kLo, kHi]; omega) ?_
      refine ops_guard_yes rfl rfl rfl ?_
      refine op_move rfl rfl ?_
      refine ops_guard_yes rfl rfl rfl ?_
      refine op_conv rfl rfl (by simp only [kLo, kHi]; omega) ?_
      refine ops_guard_yes rfl rfl rfl ?_
      ((first | (apply op_call; (· exact rfl)) | apply op_call0); (· exact rfl); rotate_left 1; (· exact fun w hG hw => between_any w lo hi (by omega) (by omega)); rotate_right 1; (· (repeat (first | exact Picks.nil | (apply Picks.cons; (· (repeat (first | exact Pick.here | apply Pick.there)))) | apply Picks.empty))))
      intro nb hnb
      have h01 := (hLb nb hnb).1 h0
      refine ops_guard_yes rfl rfl rfl ?_
      refine op_cmp_t rfl rfl rfl rfl (by first | (simp only [cmpP]; done) | (simp only [cmpP]; omega)) ?_
      refine ops_guard_yes rfl rfl rfl ?_
      (refine op_neqb rfl rfl rfl ?_)
      refine op_pick_f rfl rfl rfl ?_
      refine ops_nil ?_
      (apply J1)
      · (repeat (first | exact Sub.nil _ | (refine Sub.cons rfl ?_)))
      · (apply le_of_picks; (repeat (first | exact Picks.nil | (apply Picks.cons; (· (repeat (first | exact Pick.here | apply Pick.there)))) | apply Picks.empty)))
    · refine op_cmp_f rfl rfl rfl rfl (by first | (simp only [cmpP]; done) | (simp only [cmpP]; omega)) ?_
      refine ops_guard_yes rfl rfl rfl ?_
      refine op_move rfl rfl ?_
      refine ops_guard_yes rfl rfl rfl ?_
      refine op_conv rfl rfl (by simp only [kLo, kHi]; omega) ?_
      refine ops_guard_yes rfl rfl rfl ?_
      refine op_move rfl rfl ?_
      refine ops_guard_yes rfl rfl rfl ?_
      refine op_conv rfl rfl (by simp only [kLo, kHi]; omega) ?_
      refine ops_guard_yes rfl rfl rfl ?_
      ((first | (apply op_call; (· exact rfl)) | apply op_call0); (· exact rfl); rotate_left 1; (· exact fun w hG hw => between_any w lo hi (by omega) (by omega)); rotate_right 1; (· (repeat (first | exact Picks.nil | (apply Picks.cons; (· (repeat (first | exact Pick.here | apply Pick.there)))) | apply Picks.empty))))
      intro nb hnb
      have h01 : ¬ 0 < nb := fun h => h0 ((hLb nb hnb).2 h)
      refine ops_guard_yes rfl rfl rfl ?_
      refine op_cmp_f rfl rfl rfl rfl (by first | (simp only [cmpP]; done) | (simp only [cmpP]; omega)) ?_
      refine ops_guard_yes rfl rfl rfl ?_
      (refine op_neqb rfl rfl rfl ?_)
      refine op_pick_f rfl rfl rfl ?_
      refine ops_nil ?_
      (apply J1)
      · (repeat (first | exact Sub.nil _ | (refine Sub.cons rfl ?_)))
      · (apply le_of_picks; (repeat (first | exact Picks.nil | (apply Picks.cons; (· (repeat (first | exact Pick.here | apply Pick.there)))) | apply Picks.empty)))
  rintro _ _
  refine fin_code ?_
  refine run_cond_f rfl ?_
  refine run_skip ?_
  refine fin_code ?_
  refine run_seq ?_
  refine run_seq ?_
  refine run_region rfl ?_
  refine op_assign rfl rfl ?_
  refine ops_nil ?_
  refine fin_code ?_
  refine run_block ?_
  refine run_loop (α := Nat) (fun i => [(0, .int .i32 lo), (1, .int .i32 hi), (5, .slice Ax xrs.length cx), (7, .int .i64 (i : Nat))]) (fun _ => [xl, xrs.flatMap RowG.l]) (fun i => i ≤ xrs.length) (fun i => xrs.length - i) 0 (Nat.zero_le _) (by (repeat (first | exact Sub.nil _ | (refine Sub.cons rfl ?_)))) (by (apply le_of_picks; (repeat (first | exact Picks.nil | (apply Picks.cons; (· (repeat (first | exact Pick.here | apply Pick.there)))) | apply Picks.empty)))) ?_
  intro i hil
  by_cases h : i < xrs.length
  rotate_left 1
  · refine run_seq ?_
    refine run_seq ?_
    refine run_region rfl ?_
    refine op_move rfl rfl ?_
    refine op_move rfl rfl ?_
    refine op_len rfl rfl ?_
    refine op_cmp_f rfl rfl rfl rfl (by first | (simp only [cmpP]; done) | (simp only [cmpP]; omega)) ?_
    refine ops_nil ?_
    refine fin_code ?_
    refine run_cond_f rfl ?_
    refine run_exit ?_
    refine fin_exit_code ?_
    refine fin_exit_inv ?_
    refine fin_exit_here ?_
    refine fin_code ?_
    refine run_seq ?_
    refine run_region rfl ?_
    refine op_assign rfl rfl ?_
    refine ops_nil ?_
    refine fin_code ?_
    refine run_ret ?_
    refine fin_ret1 rfl rfl ?_
    intro w' g
    exact hR _ _ (post_of g () trivial rfl (by (apply le_of_picks; (repeat (first | exact Picks.nil | (apply Picks.cons; (· (repeat (first | exact Pick.here | apply Pick.there)))) | apply Picks.empty)))))
  obtain ⟨gl, cp, cur, hv, hl, _, _, _, hget0, _⟩ := hown.openN (by omega)
  simp only [Value.slice.injEq, true_and] at hv
  obtain ⟨rfl, rfl⟩ := hv
  subst hl
  have hr := hrow _ (List.getElem_mem h)
  obtain ⟨Ai, ci, hvi⟩ := hr.isSlice
  have hr' : Own 33 2 xrs[i].v xrs[i].q.length (encQ xrs[i].q) xrs[i].l := hr
  rw [hvi] at hr'
  have hget : aget cur i = some (.slice Ai xrs[i].q.length ci) := hget0 i _ (by simp [h, hvi])
  have hiL : i < L.length := by omega
  have hqi : xrs[i].q = seqOf L[i].1 L[i].2 := by
    have : (xrs.map RowG.q)[i]? = (L.map fun p => seqOf p.1 p.2)[i]? := by rw [hL]
    simpa [h, hiL] using this
  have hal := (hgood.al _ (List.getElem_mem hiL))
  have hq4 : xrs[i].q.length ≤ 4 := by rw [hqi]; exact seqOf_len _ _
  refine run_seq ?_
  refine run_seq ?_
  refine run_region rfl ?_
  refine op_move rfl rfl ?_
  refine op_move rfl rfl ?_
  refine op_len rfl rfl ?_
  refine op_cmp_t rfl rfl rfl rfl (by first | (simp only [cmpP]; done) | (simp only [cmpP]; omega)) ?_
  refine ops_nil ?_
  refine fin_code ?_
  refine run_cond_t rfl ?_
  refine run_skip ?_
  refine fin_code ?_
  refine run_seq ?_
  refine run_block ?_
  refine run_seq ?_
  refine run_seq ?_
  refine run_join (α := Unit) (fun _ => [(0, .int .i32 lo), (1, .int .i32 hi), (5, .slice (some ⟨gl, 0, none⟩) xrs.length cx), (7, .int .i64 (i : Nat)), (58, .bool false)]) (fun _ => [[⟨gl, .cells cur 32 (0, 0)⟩], xrs.flatMap RowG.l]) (fun _ => True) ?_ ?_
  rotate_left 1
  · intro J
    have J1 := J () trivial
    by_cases hi0 : i = 0
    · subst hi0
      refine run_drawS [[⟨gl, .cells cur 32 (0, 0)⟩]] (by kernel_rfl) ?_
      refine dr_stab 0 rfl rfl (Val.s (val_move rfl)) (by decide +kernel) rfl rfl ?_
      refine dr_stab 1 rfl rfl (Val.s (val_cmp_f rfl rfl rfl (by first | (simp only [cmpP]; done) | (simp only [cmpP]; omega)))) (by decide +kernel) rfl rfl ?_
      refine dr_stab 2 rfl rfl (Val.s (val_move rfl)) (by decide +kernel) rfl rfl ?_
      first | refine dr_stab 3 rfl rfl (Val.s (val_move rfl)) (by decide +kernel) rfl rfl ?_ | refine dr_off 3 rfl rfl (by decide +kernel) rfl rfl ?_
      first | refine dr_stab 4 rfl rfl (Val.s (val_move rfl)) (by decide +kernel) rfl rfl ?_ | refine dr_off 4 rfl rfl (by decide +kernel) rfl rfl ?_
      refine dr_off 5 rfl rfl (by decide +kernel) rfl rfl ?_
      refine dr_off 6 rfl rfl (by decide +kernel) rfl rfl ?_
      refine dr_off 7 rfl rfl (by decide +kernel) rfl rfl ?_
      first | refine dr_stab 8 rfl rfl (Val.s (val_move rfl)) (by decide +kernel) rfl rfl ?_ | refine dr_off 8 rfl rfl (by decide +kernel) rfl rfl ?_
      first | refine dr_stab 9 rfl rfl (Val.s (val_move rfl)) (by decide +kernel) rfl rfl ?_ | refine dr_off 9 rfl rfl (by decide +kernel) rfl rfl ?_
      refine dr_off 10 rfl rfl (by decide +kernel) rfl rfl ?_
      refine dr_off 11 rfl rfl (by decide +kernel) rfl rfl ?_
      refine dr_off 12 rfl rfl (by decide +kernel) rfl rfl ?_
      refine dr_off 13 rfl rfl (by decide +kernel) rfl rfl ?_
      refine dr_off 14 rfl rfl (by decide +kernel) rfl rfl ?_
      refine dr_stab 15 rfl rfl (Val.s (val_pick_f rfl rfl)) (by decide +kernel) rfl rfl ?_
      (refine dr_done (by decide +kernel) (by (apply le_of_picks; (repeat (first | exact Picks.nil | (apply Picks.cons; (· (repeat (first | exact Pick.here | apply Pick.there)))) | apply Picks.empty)))) ?_)
      (apply J1)
      · (repeat (first | exact Sub.nil _ | (refine Sub.cons rfl ?_)))
      · (apply le_of_picks; (repeat (first | exact Picks.nil | (apply Picks.cons; (· (repeat (first | exact Pick.here | apply Pick.there)))) | apply Picks.empty)))
    · have h' : i - 1 < xrs.length := by omega
      have hrp := hrow _ (List.getElem_mem h')
      obtain ⟨Ap, cq, hvp⟩ := hrp.isSlice
      have hget1 : aget cur (0 + ((i : Int) - 1).toNat * 1) = some (.slice Ap xrs[i - 1].q.length cq) := by
        rw [show 0 + ((i : Int) - 1).toNat * 1 = i - 1 by omega]
        exact hget0 (i - 1) _ (by simp [h', hvp])
      have hqp : xrs[i - 1].q = seqOf (L[i - 1]'(by omega)).1 (L[i - 1]'(by omega)).2 := by
        have : (xrs.map RowG.q)[i - 1]? = (L.map fun p => seqOf p.1 p.2)[i - 1]? := by rw [hL]
        simpa [h', show i - 1 < L.length by omega] using this
      have hle : xrs[i - 1].q.length ≤ xrs[i].q.length := by
        have halp := (hgood.al _ (List.getElem_mem (show i - 1 < L.length by omega))).1
        have has := List.pairwise_iff_getElem.1 hgood.asc (i - 1) i (by omega) hiL (by omega)
        rw [hqp, hqi]
        unfold seqOf
        rw [List.length_zip, List.length_zip, halp.len, hal.1.len, Nat.min_self, Nat.min_self, ← hal.1.len]
        exact encN_len_mono (by omega)
      refine run_drawS [[⟨gl, .cells cur 32 (0, 0)⟩]] (by kernel_rfl) ?_
      refine dr_stab 0 rfl rfl (Val.s (val_move rfl)) (by decide +kernel) rfl rfl ?_
      refine dr_stab 1 rfl rfl (Val.s (val_cmp_t rfl rfl rfl (by first | (simp only [cmpP]; done) | (simp only [cmpP]; omega)))) (by decide +kernel) rfl rfl ?_
      refine dr_stab 2 rfl rfl (Val.s (val_move rfl)) (by decide +kernel) rfl rfl ?_
      first | refine dr_stab 3 rfl rfl (Val.s (val_move rfl)) (by decide +kernel) rfl rfl ?_ | refine dr_off 3 rfl rfl (by decide +kernel) rfl rfl ?_
      first | refine dr_stab 4 rfl rfl (Val.s (val_move rfl)) (by decide +kernel) rfl rfl ?_ | refine dr_off 4 rfl rfl (by decide +kernel) rfl rfl ?_
      refine dr_stab 5 rfl rfl (Val.s (val_index rfl rfl (by omega) (by first | (rw [Int.toNat_natCast, Nat.mul_one, Nat.zero_add]) | (rw [Int.toNat_natCast, Nat.mul_one]) | (rw [Int.toNat_natCast, Nat.zero_add]) | (rw [Int.toNat_natCast]) | exact rfl))) (by decide +kernel) rfl rfl ?_
      (apply dr_stab 6; (· exact rfl); (· exact rfl); (· apply ValAt.s; (first | (apply val_load; (· exact rfl); (· apply cell_of_has; (· (repeat (first | exact Has.here | apply Has.there))); (· first | exact rfl | exact hget | exact hget1))) | fail)); (· decide +kernel); (· exact rfl); (· exact rfl))
      refine dr_stab 7 rfl rfl (Val.s (val_len rfl)) (by decide +kernel) rfl rfl ?_
      first | refine dr_stab 8 rfl rfl (Val.s (val_move rfl)) (by decide +kernel) rfl rfl ?_ | refine dr_off 8 rfl rfl (by decide +kernel) rfl rfl ?_
      first | refine dr_stab 9 rfl rfl (Val.s (val_move rfl)) (by decide +kernel) rfl rfl ?_ | refine dr_off 9 rfl rfl (by decide +kernel) rfl rfl ?_
      refine dr_stab 10 rfl rfl (Val.s (val_sub rfl rfl (by simp only [kLo, kHi]; omega))) (by decide +kernel) rfl rfl ?_
      refine dr_stab 11 rfl rfl (Val.s (val_index rfl rfl (by omega) (by first | (rw [Int.toNat_natCast, Nat.mul_one, Nat.zero_add]) | (rw [Int.toNat_natCast, Nat.mul_one]) | (rw [Int.toNat_natCast, Nat.zero_add]) | (rw [Int.toNat_natCast]) | exact rfl))) (by decide +kernel) rfl rfl ?_
      (apply dr_stab 12; (· exact rfl); (· exact rfl); (· apply ValAt.s; (first | (apply val_load; (· exact rfl); (· apply cell_of_has; (· (repeat (first | exact Has.here | apply Has.there))); (· first | exact rfl | exact hget | exact hget1))) | fail)); (· decide +kernel); (· exact rfl); (· exact rfl))
      refine dr_stab 13 rfl rfl (Val.s (val_len rfl)) (by decide +kernel) rfl rfl ?_
      refine dr_stab 14 rfl rfl (Val.s (val_cmp_f rfl rfl rfl (by first | (simp only [cmpP]; done) | (simp only [cmpP]; omega)))) (by decide +kernel) rfl rfl ?_
      refine dr_stab 15 rfl rfl (Val.s (val_pick_t rfl rfl)) (by decide +kernel) rfl rfl ?_
      (refine dr_done (by decide +kernel) (by (apply le_of_picks; (repeat (first | exact Picks.nil | (apply Picks.cons; (· (repeat (first | exact Pick.here | apply Pick.there)))) | apply Picks.empty)))) ?_)
      (apply J1)
      · (repeat (first | exact Sub.nil _ | (refine Sub.cons rfl ?_)))
      · (apply le_of_picks; (repeat (first | exact Picks.nil | (apply Picks.cons; (· (repeat (first | exact Pick.here | apply Pick.there)))) | apply Picks.empty)))
  rintro _ _
  refine fin_code ?_
  refine run_cond_f rfl ?_
  refine run_skip ?_
  refine fin_code ?_
  refine run_seq ?_
  refine run_region rfl ?_
  refine op_assign rfl rfl ?_
  refine ops_nil ?_
  refine fin_code ?_
  refine run_block ?_
  refine run_loop (α := Nat) (fun wh => [(0, .int .i32 lo), (1, .int .i32 hi), (5, .slice (some ⟨gl, 0, none⟩) xrs.length cx), (7, .int .i64 (i : Nat)), (8, .int .i64 (wh : Nat))]) (fun _ => [[⟨gl, .cells cur 32 (0, 0)⟩], xrs.flatMap RowG.l]) (fun wh => wh ≤ 2) (fun wh => 2 - wh) 0 (Nat.zero_le _) (by (repeat (first | exact Sub.nil _ | (refine Sub.cons rfl ?_)))) (by (apply le_of_picks; (repeat (first | exact Picks.nil | (apply Picks.cons; (· (repeat (first | exact Pick.here | apply Pick.there)))) | apply Picks.empty)))) ?_
  intro wh hw2
  by_cases hwh : wh < 2
  rotate_left 1
  · refine run_seq ?_
    refine run_seq ?_
    refine run_region rfl ?_
    refine op_move rfl rfl ?_
    refine op_cmp_f rfl rfl rfl rfl (by first | (simp only [cmpP]; done) | (simp only [cmpP]; omega)) ?_
    refine ops_nil ?_
    refine fin_code ?_
    refine run_cond_f rfl ?_
    refine run_exit ?_
    refine fin_exit_code ?_
    refine fin_exit_inv ?_
    refine fin_exit_here ?_
    refine fin_block ?_
    refine fin_code ?_
    refine run_region rfl ?_
    refine op_move rfl rfl ?_
    refine op_add rfl rfl rfl (by simp only [kLo, kHi]; omega) ?_
    refine op_assign rfl rfl ?_
    refine ops_nil ?_
    refine fin_round (i + 1) ?_ (by (repeat (first | exact Sub.nil _ | (refine Sub.cons rfl ?_)))) (by (apply le_of_picks; (repeat (first | exact Picks.nil | (apply Picks.cons; (· (repeat (first | exact Pick.here | apply Pick.there)))) | apply Picks.empty)))) h
    omega
  refine run_seq ?_
  refine run_seq ?_
  refine run_region rfl ?_
  refine op_move rfl rfl ?_
  refine op_cmp_t rfl rfl rfl rfl (by first | (simp only [cmpP]; done) | (simp only [cmpP]; omega)) ?_
  refine ops_nil ?_
  refine fin_code ?_
  refine run_cond_t rfl ?_
  refine run_skip ?_
  refine fin_code ?_
  refine run_seq ?_
  refine run_block ?_
  refine run_seq ?_
  refine run_region rfl ?_
  refine op_assign rfl rfl ?_
  refine ops_nil ?_
  refine fin_code ?_
  refine run_seq ?_
  refine run_seq ?_
  refine run_region rfl ?_
  refine op_assign rfl rfl ?_
  refine ops_nil ?_
  refine fin_code ?_
  refine run_block ?_
  refine run_loop (α := Nat × Value × Hp) (fun x => [(0, .int .i32 lo), (1, .int .i32 hi), (5, .slice (some ⟨gl, 0, none⟩) xrs.length cx), (7, .int .i64 (i : Nat)), (8, .int .i64 (wh : Nat)), (9, x.2.1), (10, .int .i64 (x.1 : Nat))]) (fun x => [x.2.2, [⟨gl, .cells cur 32 (0, 0)⟩], xrs.flatMap RowG.l])
    (fun x => x.1 ≤ xrs[i].q.length ∧ Own 5 1 x.2.1 x.1 (u8s ((col xrs[i].q wh).take x.1)) x.2.2) (fun x => xrs[i].q.length - x.1) (0, .slice none 0 0, []) ⟨Nat.zero_le _, Own.nil _ _⟩ (by (repeat (first | exact Sub.nil _ | (refine Sub.cons rfl ?_)))) (by (apply le_of_picks; (repeat (first | exact Picks.nil | (apply Picks.cons; (· (repeat (first | exact Pick.here | apply Pick.there)))) | apply Picks.empty)))) ?_
  rintro ⟨k, vb, lb⟩ ⟨hk, hob⟩
  dsimp only at hk hob ⊢
  by_cases hkl : k < xrs[i].q.length
  · obtain ⟨gi, cpi, curi, hv, hli, _, _, _, hgeti, _⟩ := hr'.openN (by omega)
    simp only [Value.slice.injEq, true_and] at hv
    obtain ⟨rfl, rfl⟩ := hv
    have hmem : (⟨gi, .cells curi 33 (0, 0)⟩ : Blk) ∈ xrs.flatMap RowG.l := List.mem_flatMap.2 ⟨_, List.getElem_mem h, by rw [hli]; simp⟩
    have hkc : k < (col xrs[i].q wh).length := by rw [col_len]; exact hkl
    have hgk : aget curi (k * 2 + ((wh : Nat) : Int).toNat * 1) = some (.int .u8 ((col xrs[i].q wh)[k] : Nat)) := by
      rw [Int.toNat_natCast, Nat.mul_one]
      exact hgeti _ _ (encQ_col hkl hwh)
    refine run_seq ?_
    refine run_seq ?_
    refine run_region rfl ?_
    refine op_move rfl rfl ?_
    refine op_move rfl rfl ?_
    refine op_move rfl rfl ?_
    refine op_index rfl rfl rfl (by omega) (by first | (rw [Int.toNat_natCast, Nat.mul_one, Nat.zero_add]) | (rw [Int.toNat_natCast, Nat.mul_one]) | (rw [Int.toNat_natCast, Nat.zero_add]) | (rw [Int.toNat_natCast]) | exact rfl) ?_
    (apply op_load; (· exact rfl); (· exact rfl); (· apply cell_of_has; (· (repeat (first | exact Has.here | apply Has.there))); (· first | exact rfl | exact hget | exact hget1)))
    refine op_len rfl rfl ?_
    refine op_cmp_t rfl rfl rfl rfl (by first | (simp only [cmpP]; done) | (simp only [cmpP]; omega)) ?_
    refine ops_nil ?_
    refine fin_code ?_
    refine run_cond_t rfl ?_
    refine run_skip ?_
    refine fin_code ?_
    refine run_seq ?_
    refine run_block ?_
    refine run_region rfl ?_
    refine op_move rfl rfl ?_
    refine op_move rfl rfl ?_
    refine op_move rfl rfl ?_
    refine op_index rfl rfl rfl (by omega) (by first | (rw [Int.toNat_natCast, Nat.mul_one, Nat.zero_add]) | (rw [Int.toNat_natCast, Nat.mul_one]) | (rw [Int.toNat_natCast, Nat.zero_add]) | (rw [Int.toNat_natCast]) | exact rfl) ?_
    (apply op_load; (· exact rfl); (· exact rfl); (· apply cell_of_has; (· (repeat (first | exact Has.here | apply Has.there))); (· first | exact rfl | exact hget | exact hget1)))
    refine op_move rfl rfl ?_
    refine op_move rfl rfl ?_
    refine op_index rfl rfl rfl (by omega) (by first | (rw [Int.toNat_natCast, Nat.mul_one, Nat.zero_add]) | (rw [Int.toNat_natCast, Nat.mul_one]) | (rw [Int.toNat_natCast, Nat.zero_add]) | (rw [Int.toNat_natCast]) | exact rfl) ?_
    (refine op_indexP rfl rfl rfl (by omega) ?_)
    (apply op_load; (· exact rfl); (· exact rfl); (· apply Pick.cell (l := xrs.flatMap RowG.l); (· (repeat (first | exact Pick.here | apply Pick.there))); (· exact hmem); (· exact hgk)))
    (refine op_slice1 rfl rfl (by first | rfl | simp [Value.cells]) (by decide) ?_; intro _ _)
    (apply op_append1; (· exact rfl); (· exact rfl); (· exact rfl); (· exact hob); (· (repeat (first | exact Pick.here | apply Pick.there))); (· (repeat (first | exact Has.here | apply Has.there))); (· exact rfl); (· first | exact onesC rfl | (intro u hu; simp [Value.cells] at hu; rcases hu with rfl | rfl | rfl | rfl | rfl | rfl <;> rfl) | (intro u hu; simp [Value.cells] at hu; rcases hu with rfl | rfl | rfl <;> rfl) | (intro u hu; simp [Value.cells] at hu; rcases hu with rfl | rfl <;> rfl) | (intro u hu; simp [Value.cells] at hu; subst hu; rfl)); (· omega); (· omega); (· exact rfl))
    intro v' l' ho'
    refine op_assign rfl rfl ?_
    refine ops_nil ?_
    refine fin_block ?_
    refine fin_code ?_
    refine run_region rfl ?_
    refine op_move rfl rfl ?_
    refine op_add rfl rfl rfl (by simp only [kLo, kHi]; omega) ?_
    refine op_assign rfl rfl ?_
    refine ops_nil ?_
    refine fin_round (k + 1, v', l') ?_ (by (repeat (first | exact Sub.nil _ | (refine Sub.cons rfl ?_)))) (by (apply le_of_picks; (repeat (first | exact Picks.nil | (apply Picks.cons; (· (repeat (first | exact Pick.here | apply Pick.there)))) | apply Picks.empty)))) ⟨hkl, ?_⟩
    · dsimp only; omega
    · dsimp only
      rw [List.take_succ_eq_append_getElem hkc, u8s_snoc]
      exact ho'
  · obtain rfl : k = xrs[i].q.length := by omega
    rw [List.take_of_length_le (by rw [col_len]; omega), hqi, col_seq hal.1] at hob
    obtain ⟨Ab, cb, rfl⟩ := hob.isSlice
    have hle2 := hal.1.le
    have hsm : (if wh = 0 then L[i].1 else L[i].2) ≤ 1114111 := by have := hal.1.most; split <;> omega
    have hsl : isL (if wh = 0 then L[i].1 else L[i].2) := by
      split
      · exact hal.1.letter (Nat.le_refl _) hal.1.le
      · exact hal.1.letter hal.1.le (Nat.le_refl _)
    have hs1 : lo ≤ (if wh = 0 then L[i].1 else L[i].2) ∧ (if wh = 0 then L[i].1 else L[i].2) ≤ hi := by
      have := hal.2
      split <;> omega
    have hsn : (seqOf L[i].1 L[i].2).length = (encN (if wh = 0 then L[i].1 else L[i].2)).length := by rw [← col_seq hal.1, col_len]
    generalize (if wh = 0 then L[i].1 else L[i].2) = s at hob hsm hsl hs1 hsn
    have h4 := encN_len4 s
    have h40 := encN_pos s
    have heq : xrs[i].q.length = (encN s).length := by rw [hqi, hsn]
    rw [heq, hsn]
    rw [hsn] at hob
    refine run_seq ?_
    refine run_seq ?_
    refine run_region rfl ?_
    refine op_move rfl rfl ?_
    refine op_move rfl rfl ?_
    refine op_move rfl rfl ?_
    refine op_index rfl rfl rfl (by omega) (by first | (rw [Int.toNat_natCast, Nat.mul_one, Nat.zero_add]) | (rw [Int.toNat_natCast, Nat.mul_one]) | (rw [Int.toNat_natCast, Nat.zero_add]) | (rw [Int.toNat_natCast]) | exact rfl) ?_
    (apply op_load; (· exact rfl); (· exact rfl); (· apply cell_of_has; (· (repeat (first | exact Has.here | apply Has.there))); (· first | exact rfl | exact hget | exact hget1)))
    refine op_len rfl rfl ?_
    refine op_cmp_f rfl rfl rfl rfl (by first | (simp only [cmpP]; done) | (simp only [cmpP]; omega)) ?_
    refine ops_nil ?_
    refine fin_code ?_
    refine run_cond_f rfl ?_
    refine run_exit ?_
    refine fin_exit_code ?_
    refine fin_exit_inv ?_
    refine fin_exit_here ?_
    refine fin_code ?_
    refine run_seq ?_
    refine run_region rfl ?_
    refine op_move rfl rfl ?_
    ((first | (apply op_call; (· exact rfl)) | apply op_call0); (· exact rfl)); (case' hc => (refine fun w hG hw => letter_any w Ab (encN s) cb (encN_le s hsm) (by simp only [maxLen]; omega) ?_)); (case hp => (repeat (first | exact Picks.nil | (apply Picks.cons; (· (repeat (first | exact Pick.here | apply Pick.there)))) | apply Picks.empty)))
    · exact hob.rd (At.item hG.now (by (repeat (first | exact Pick.here | apply Pick.there))))
    rintro ⟨r, n⟩ hlet
    have hlet2 := hlet.s.2 s hsl rfl
    obtain ⟨rfl, hn, _⟩ := hlet2
    dsimp only at hn
    subst hn
    refine op_move rfl rfl ?_
    refine op_extract rfl rfl rfl ?_
    refine op_extract rfl rfl rfl ?_
    refine op_assign rfl rfl ?_
    refine op_assign rfl rfl ?_
    refine ops_nil ?_
    refine fin_code ?_
    refine run_seq ?_
    refine run_region rfl ?_
    refine op_move rfl rfl ?_
    refine op_move rfl rfl ?_
    refine op_len rfl rfl ?_
    (refine op_cmp_f rfl rfl rfl rfl (fun h => h rfl) ?_)
    refine op_move rfl rfl ?_
    refine ops_guard_yes rfl rfl rfl ?_
    refine op_move rfl rfl ?_
    refine ops_guard_yes rfl rfl rfl ?_
    refine op_cmp_f rfl rfl rfl rfl (by first | (simp only [cmpP]; done) | (simp only [cmpP]; omega)) ?_
    refine op_pick_f rfl rfl rfl ?_
    refine op_move rfl rfl ?_
    refine ops_guard_yes rfl rfl rfl ?_
    refine op_move rfl rfl ?_
    refine ops_guard_yes rfl rfl rfl ?_
    refine op_move rfl rfl ?_
    refine ops_guard_yes rfl rfl rfl ?_
    refine op_conv rfl rfl (by simp only [kLo, kHi]; omega) ?_
    refine ops_guard_yes rfl rfl rfl ?_
    refine op_cmp_f rfl rfl rfl rfl (by first | (simp only [cmpP]; done) | (simp only [cmpP]; omega)) ?_
    refine op_pick_f rfl rfl rfl ?_
    refine op_move rfl rfl ?_
    refine ops_guard_yes rfl rfl rfl ?_
    refine op_move rfl rfl ?_
    refine ops_guard_yes rfl rfl rfl ?_
    refine op_move rfl rfl ?_
    refine ops_guard_yes rfl rfl rfl ?_
    refine op_conv rfl rfl (by simp only [kLo, kHi]; omega) ?_
    refine ops_guard_yes rfl rfl rfl ?_
    refine op_cmp_f rfl rfl rfl rfl (by first | (simp only [cmpP]; done) | (simp only [cmpP]; omega)) ?_
    refine op_pick_f rfl rfl rfl ?_
    refine ops_nil ?_
    refine fin_code ?_
    refine run_cond_f rfl ?_
    refine run_skip ?_
    refine fin_block ?_
    refine fin_code ?_
    refine run_region rfl ?_
    refine op_move rfl rfl ?_
    refine op_add rfl rfl rfl (by simp only [kLo, kHi]; omega) ?_
    refine op_assign rfl rfl ?_
    refine ops_nil ?_
    refine fin_round (wh + 1) (by omega) (by (repeat (first | exact Sub.nil _ | (refine Sub.cons rfl ?_)))) (by (apply le_of_picks; (repeat (first | exact Picks.nil | (apply Picks.cons; (· (repeat (first | exact Pick.here | apply Pick.there)))) | apply Picks.empty)))) ?_
    omega
end Go.Proofs.Eng
