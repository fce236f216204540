/- A part of the proof: what functions of the program do, step by step. -/
import Derived.Test.YtiadbheejlhimaaV2
set_option linter.unusedVariables false
set_option linter.unusedSimpArgs false
namespace Go.Proofs.Eng
open Go.RowKit
theorem Own.room {e size g c : Nat} {cs : Array Value} (h : cs.size = c * size) (hc : c ≤ maxLen) : Own e size (.slice (some ⟨g, 0, none⟩) 0 c) 0 [] [⟨g, .cells cs e (0, 0)⟩] :=
  ⟨by simp, .inr ⟨g, c, cs, rfl, rfl, Nat.zero_le _, hc, h, by simp⟩⟩
def Bd.new (mx : Nat) : Bd := ⟨List.replicate (mx * 2 + 100) MAX32, [], [], 0, mx, 0⟩
theorem flat_rep1 (n : Nat) (v : Value) : (List.replicate n [v]).flatten = List.replicate n v := by
  induction n with
  | zero => rfl
  | succ n ih => simp [List.replicate_succ, ih]
set_option maxRecDepth 100000 in
set_option maxHeartbeats 4000000 in
theorem withMax_any (w0 : World) (mx : Nat) (hm : mx ≤ 1000000) :
    Calls Try.prog 53 #[.int .u32 mx] w0 (Post w0 ([] : List Hp).flatten (fun m : BdM => .pointer (some ⟨m.q, 0, none⟩)) (fun m => (bdH (Bd.new mx) m).flatten) (fun m => BdOk (Bd.new mx) m)) := by
  refine enter [] Try.func53 rfl rfl (At.nil w0) (Le.refl _) ?_
  intro R hR
  refine run_seq ?_
  refine run_region rfl ?_
  refine op_assign rfl rfl ?_
  refine ops_nil ?_
  refine fin_code ?_
  refine run_seq ?_
  refine run_join (α := Nat × Nat × Nat × Nat) (fun x => [(3, .pointer (some ⟨x.1, 0, none⟩))]) (fun x => [[⟨x.1, .cells #[.slice (some ⟨x.2.1, 0, none⟩) (mx * 2 + 100) (mx * 2 + 100), .slice (some ⟨x.2.2.1, 0, none⟩) 0 mx, .slice (some ⟨x.2.2.2, 0, none⟩) 0 mx, .int .u32 0, .int .u32 0, .int .u32 mx] 132 (0, 0)⟩],
    [⟨x.2.1, .cells ((List.replicate (mx * 2 + 100) (Value.int .u32 0).cells.toList).flatten).toArray 23 (0, 0)⟩], [⟨x.2.2.1, .cells ((List.replicate mx (Value.nilIface).cells.toList).flatten).toArray 77 (0, 0)⟩], [⟨x.2.2.2, .cells ((List.replicate mx z256.cells.toList).flatten).toArray 121 (0, 0)⟩]]) (fun _ => True) ?_ ?_
  rotate_left 1
  · intro J
    refine run_drawS [] (by kernel_rfl) ?_
    refine dr_stab 0 rfl rfl (Val.s (val_move rfl)) (by decide +kernel) rfl rfl ?_
    refine dr_stab 1 rfl rfl (Val.s (val_mul rfl rfl (by simp only [kLo, kHi]; omega))) (by decide +kernel) rfl rfl ?_
    refine dr_stab 2 rfl rfl (Val.s (val_add rfl rfl (by simp only [kLo, kHi]; omega))) (by decide +kernel) rfl rfl ?_
    refine dr_stab 4 rfl rfl (Val.s (val_move rfl)) (by decide +kernel) rfl rfl ?_
    refine dr_stab 6 rfl rfl (Val.s (val_move rfl)) (by decide +kernel) rfl rfl ?_
    refine dr_stab 8 rfl rfl (Val.s (val_move rfl)) (by decide +kernel) rfl rfl ?_
    refine dr_three 3 5 7 rfl rfl rfl (by decide +kernel) (by (apply le_of_picks; (repeat (first | exact Picks.nil | (apply Picks.cons; (· (repeat (first | exact Pick.here | apply Pick.there)))) | apply Picks.empty)))) ?_ ?_ ?_
    · (refine op_makeR (mx * 2 + 100) (mx * 2 + 100) rfl rfl rfl (by omega) (by omega) (by omega) (by omega) (by omega) ?_; intro _ _)
      rename_i g1 _
      refine ops_nil ?_
      refine fin_draw ?_
      refine dr_two 5 7 rfl rfl (by decide +kernel) (by (apply le_of_picks; (repeat (first | exact Picks.nil | (apply Picks.cons; (· (repeat (first | exact Pick.here | apply Pick.there)))) | apply Picks.empty)))) ?_ ?_
      · (refine op_makeR 0 mx rfl rfl rfl (by omega) (by omega) (by omega) (by omega) (by omega) ?_; intro _ _)
        rename_i g2 _
        refine ops_nil ?_
        refine fin_draw ?_
        (refine dr_one 7 rfl (by decide +kernel) (by (apply le_of_picks; (repeat (first | exact Picks.nil | (apply Picks.cons; (· (repeat (first | exact Pick.here | apply Pick.there)))) | apply Picks.empty)))) ?_)
        (refine op_makeR 0 mx rfl rfl rfl (by omega) (by omega) (by omega) (by omega) (by omega) ?_; intro _ _)
        refine ops_nil ?_
        refine fin_draw ?_
        rename_i g3 _
        refine dr_stab 9 rfl rfl (Val.s (val_build rfl rfl (ones rfl) rfl)) (by decide +kernel) rfl rfl ?_
        (refine dr_one 10 rfl (by decide +kernel) (by (apply le_of_picks; (repeat (first | exact Picks.nil | (apply Picks.cons; (· (repeat (first | exact Pick.here | apply Pick.there)))) | apply Picks.empty)))) ?_)
        (refine op_box rfl rfl ?_; intro _ _)
        refine ops_nil ?_
        refine fin_draw ?_
        refine dr_stab 11 rfl rfl (Val.s (val_assign rfl)) (by decide +kernel) rfl rfl ?_
        (refine dr_done (by decide +kernel) (by (apply le_of_picks; (repeat (first | exact Picks.nil | (apply Picks.cons; (· (repeat (first | exact Pick.here | apply Pick.there)))) | apply Picks.empty)))) ?_)
        rename_i q _
        exact J (q, g1, g2, g3) trivial _ _ (by (repeat (first | exact Sub.nil _ | (refine Sub.cons rfl ?_)))) (by (apply le_of_picks; (repeat (first | exact Picks.nil | (apply Picks.cons; (· (repeat (first | exact Pick.here | apply Pick.there)))) | apply Picks.empty))))
      · (refine op_makeR 0 mx rfl rfl rfl (by omega) (by omega) (by omega) (by omega) (by omega) ?_; intro _ _)
        rename_i g3 _
        refine ops_nil ?_
        refine fin_draw ?_
        (refine dr_one 5 rfl (by decide +kernel) (by (apply le_of_picks; (repeat (first | exact Picks.nil | (apply Picks.cons; (· (repeat (first | exact Pick.here | apply Pick.there)))) | apply Picks.empty)))) ?_)
        (refine op_makeR 0 mx rfl rfl rfl (by omega) (by omega) (by omega) (by omega) (by omega) ?_; intro _ _)
        refine ops_nil ?_
        refine fin_draw ?_
        rename_i g2 _
        refine dr_stab 9 rfl rfl (Val.s (val_build rfl rfl (ones rfl) rfl)) (by decide +kernel) rfl rfl ?_
        (refine dr_one 10 rfl (by decide +kernel) (by (apply le_of_picks; (repeat (first | exact Picks.nil | (apply Picks.cons; (· (repeat (first | exact Pick.here | apply Pick.there)))) | apply Picks.empty)))) ?_)
        (refine op_box rfl rfl ?_; intro _ _)
        refine ops_nil ?_
        refine fin_draw ?_
        refine dr_stab 11 rfl rfl (Val.s (val_assign rfl)) (by decide +kernel) rfl rfl ?_
        (refine dr_done (by decide +kernel) (by (apply le_of_picks; (repeat (first | exact Picks.nil | (apply Picks.cons; (· (repeat (first | exact Pick.here | apply Pick.there)))) | apply Picks.empty)))) ?_)
        rename_i q _
        exact J (q, g1, g2, g3) trivial _ _ (by (repeat (first | exact Sub.nil _ | (refine Sub.cons rfl ?_)))) (by (apply le_of_picks; (repeat (first | exact Picks.nil | (apply Picks.cons; (· (repeat (first | exact Pick.here | apply Pick.there)))) | apply Picks.empty))))
    · (refine op_makeR 0 mx rfl rfl rfl (by omega) (by omega) (by omega) (by omega) (by omega) ?_; intro _ _)
      rename_i g2 _
      refine ops_nil ?_
      refine fin_draw ?_
      refine dr_two 3 7 rfl rfl (by decide +kernel) (by (apply le_of_picks; (repeat (first | exact Picks.nil | (apply Picks.cons; (· (repeat (first | exact Pick.here | apply Pick.there)))) | apply Picks.empty)))) ?_ ?_
      · (refine op_makeR (mx * 2 + 100) (mx * 2 + 100) rfl rfl rfl (by omega) (by omega) (by omega) (by omega) (by omega) ?_; intro _ _)
        rename_i g1 _
        refine ops_nil ?_
        refine fin_draw ?_
        (refine dr_one 7 rfl (by decide +kernel) (by (apply le_of_picks; (repeat (first | exact Picks.nil | (apply Picks.cons; (· (repeat (first | exact Pick.here | apply Pick.there)))) | apply Picks.empty)))) ?_)
        (refine op_makeR 0 mx rfl rfl rfl (by omega) (by omega) (by omega) (by omega) (by omega) ?_; intro _ _)
        refine ops_nil ?_
        refine fin_draw ?_
        rename_i g3 _
        refine dr_stab 9 rfl rfl (Val.s (val_build rfl rfl (ones rfl) rfl)) (by decide +kernel) rfl rfl ?_
        (refine dr_one 10 rfl (by decide +kernel) (by (apply le_of_picks; (repeat (first | exact Picks.nil | (apply Picks.cons; (· (repeat (first | exact Pick.here | apply Pick.there)))) | apply Picks.empty)))) ?_)
        (refine op_box rfl rfl ?_; intro _ _)
        refine ops_nil ?_
        refine fin_draw ?_
        refine dr_stab 11 rfl rfl (Val.s (val_assign rfl)) (by decide +kernel) rfl rfl ?_
        (refine dr_done (by decide +kernel) (by (apply le_of_picks; (repeat (first | exact Picks.nil | (apply Picks.cons; (· (repeat (first | exact Pick.here | apply Pick.there)))) | apply Picks.empty)))) ?_)
        rename_i q _
        exact J (q, g1, g2, g3) trivial _ _ (by (repeat (first | exact Sub.nil _ | (refine Sub.cons rfl ?_)))) (by (apply le_of_picks; (repeat (first | exact Picks.nil | (apply Picks.cons; (· (repeat (first | exact Pick.here | apply Pick.there)))) | apply Picks.empty))))
      · (refine op_makeR 0 mx rfl rfl rfl (by omega) (by omega) (by omega) (by omega) (by omega) ?_; intro _ _)
        rename_i g3 _
        refine ops_nil ?_
        refine fin_draw ?_
        (refine dr_one 3 rfl (by decide +kernel) (by (apply le_of_picks; (repeat (first | exact Picks.nil | (apply Picks.cons; (· (repeat (first | exact Pick.here | apply Pick.there)))) | apply Picks.empty)))) ?_)
        (refine op_makeR (mx * 2 + 100) (mx * 2 + 100) rfl rfl rfl (by omega) (by omega) (by omega) (by omega) (by omega) ?_; intro _ _)
        refine ops_nil ?_
        refine fin_draw ?_
        rename_i g1 _
        refine dr_stab 9 rfl rfl (Val.s (val_build rfl rfl (ones rfl) rfl)) (by decide +kernel) rfl rfl ?_
        (refine dr_one 10 rfl (by decide +kernel) (by (apply le_of_picks; (repeat (first | exact Picks.nil | (apply Picks.cons; (· (repeat (first | exact Pick.here | apply Pick.there)))) | apply Picks.empty)))) ?_)
        (refine op_box rfl rfl ?_; intro _ _)
        refine ops_nil ?_
        refine fin_draw ?_
        refine dr_stab 11 rfl rfl (Val.s (val_assign rfl)) (by decide +kernel) rfl rfl ?_
        (refine dr_done (by decide +kernel) (by (apply le_of_picks; (repeat (first | exact Picks.nil | (apply Picks.cons; (· (repeat (first | exact Pick.here | apply Pick.there)))) | apply Picks.empty)))) ?_)
        rename_i q _
        exact J (q, g1, g2, g3) trivial _ _ (by (repeat (first | exact Sub.nil _ | (refine Sub.cons rfl ?_)))) (by (apply le_of_picks; (repeat (first | exact Picks.nil | (apply Picks.cons; (· (repeat (first | exact Pick.here | apply Pick.there)))) | apply Picks.empty))))
    · (refine op_makeR 0 mx rfl rfl rfl (by omega) (by omega) (by omega) (by omega) (by omega) ?_; intro _ _)
      rename_i g3 _
      refine ops_nil ?_
      refine fin_draw ?_
      refine dr_two 3 5 rfl rfl (by decide +kernel) (by (apply le_of_picks; (repeat (first | exact Picks.nil | (apply Picks.cons; (· (repeat (first | exact Pick.here | apply Pick.there)))) | apply Picks.empty)))) ?_ ?_
      · (refine op_makeR (mx * 2 + 100) (mx * 2 + 100) rfl rfl rfl (by omega) (by omega) (by omega) (by omega) (by omega) ?_; intro _ _)
        rename_i g1 _
        refine ops_nil ?_
        refine fin_draw ?_
        (refine dr_one 5 rfl (by decide +kernel) (by (apply le_of_picks; (repeat (first | exact Picks.nil | (apply Picks.cons; (· (repeat (first | exact Pick.here | apply Pick.there)))) | apply Picks.empty)))) ?_)
        (refine op_makeR 0 mx rfl rfl rfl (by omega) (by omega) (by omega) (by omega) (by omega) ?_; intro _ _)
        refine ops_nil ?_
        refine fin_draw ?_
        rename_i g2 _
        refine dr_stab 9 rfl rfl (Val.s (val_build rfl rfl (ones rfl) rfl)) (by decide +kernel) rfl rfl ?_
        (refine dr_one 10 rfl (by decide +kernel) (by (apply le_of_picks; (repeat (first | exact Picks.nil | (apply Picks.cons; (· (repeat (first | exact Pick.here | apply Pick.there)))) | apply Picks.empty)))) ?_)
        (refine op_box rfl rfl ?_; intro _ _)
        refine ops_nil ?_
        refine fin_draw ?_
        refine dr_stab 11 rfl rfl (Val.s (val_assign rfl)) (by decide +kernel) rfl rfl ?_
        (refine dr_done (by decide +kernel) (by (apply le_of_picks; (repeat (first | exact Picks.nil | (apply Picks.cons; (· (repeat (first | exact Pick.here | apply Pick.there)))) | apply Picks.empty)))) ?_)
        rename_i q _
        exact J (q, g1, g2, g3) trivial _ _ (by (repeat (first | exact Sub.nil _ | (refine Sub.cons rfl ?_)))) (by (apply le_of_picks; (repeat (first | exact Picks.nil | (apply Picks.cons; (· (repeat (first | exact Pick.here | apply Pick.there)))) | apply Picks.empty))))
      · (refine op_makeR 0 mx rfl rfl rfl (by omega) (by omega) (by omega) (by omega) (by omega) ?_; intro _ _)
        rename_i g2 _
        refine ops_nil ?_
        refine fin_draw ?_
        (refine dr_one 3 rfl (by decide +kernel) (by (apply le_of_picks; (repeat (first | exact Picks.nil | (apply Picks.cons; (· (repeat (first | exact Pick.here | apply Pick.there)))) | apply Picks.empty)))) ?_)
        (refine op_makeR (mx * 2 + 100) (mx * 2 + 100) rfl rfl rfl (by omega) (by omega) (by omega) (by omega) (by omega) ?_; intro _ _)
        refine ops_nil ?_
        refine fin_draw ?_
        rename_i g1 _
        refine dr_stab 9 rfl rfl (Val.s (val_build rfl rfl (ones rfl) rfl)) (by decide +kernel) rfl rfl ?_
        (refine dr_one 10 rfl (by decide +kernel) (by (apply le_of_picks; (repeat (first | exact Picks.nil | (apply Picks.cons; (· (repeat (first | exact Pick.here | apply Pick.there)))) | apply Picks.empty)))) ?_)
        (refine op_box rfl rfl ?_; intro _ _)
        refine ops_nil ?_
        refine fin_draw ?_
        refine dr_stab 11 rfl rfl (Val.s (val_assign rfl)) (by decide +kernel) rfl rfl ?_
        (refine dr_done (by decide +kernel) (by (apply le_of_picks; (repeat (first | exact Picks.nil | (apply Picks.cons; (· (repeat (first | exact Pick.here | apply Pick.there)))) | apply Picks.empty)))) ?_)
        rename_i q _
        exact J (q, g1, g2, g3) trivial _ _ (by (repeat (first | exact Sub.nil _ | (refine Sub.cons rfl ?_)))) (by (apply le_of_picks; (repeat (first | exact Picks.nil | (apply Picks.cons; (· (repeat (first | exact Pick.here | apply Pick.there)))) | apply Picks.empty))))
  rintro ⟨q, g1, g2, g3⟩ _
  dsimp only
  have hb1 : ((List.replicate (mx * 2 + 100) (Value.int .u32 0).cells.toList).flatten) = List.replicate (mx * 2 + 100) (Value.int .u32 0) := flat_rep1 _ _
  rw [hb1]
  refine fin_code ?_
  refine run_seq ?_
  refine run_seq ?_
  refine run_region rfl ?_
  refine op_move rfl rfl ?_
  refine op_nilCheck rfl rfl ?_
  refine op_fieldAddr rfl rfl ?_
  (apply op_load; (· exact rfl); (· exact rfl); (· apply cell_of_has; (· (repeat (first | exact Has.here | apply Has.there))); (· first | exact rfl | exact hget)))
  refine op_len rfl rfl ?_
  refine op_move rfl rfl ?_
  refine ops_nil ?_
  refine fin_code ?_
  refine run_block ?_
  refine run_loop (α := Nat) (fun i => [(3, .pointer (some ⟨q, 0, none⟩)), (20, .int .i64 (mx * 2 + 100 : Nat)), (21, .int .i64 (i : Nat))]) (fun i => [[⟨q, .cells #[.slice (some ⟨g1, 0, none⟩) (mx * 2 + 100) (mx * 2 + 100), .slice (some ⟨g2, 0, none⟩) 0 mx, .slice (some ⟨g3, 0, none⟩) 0 mx, .int .u32 0, .int .u32 0, .int .u32 mx] 132 (0, 0)⟩],
    [⟨g1, .cells (setR (List.replicate (mx * 2 + 100) (Value.int .u32 0)).toArray 0 i (v32 MAX32)) 23 (0, 0)⟩], [⟨g2, .cells ((List.replicate mx (Value.nilIface).cells.toList).flatten).toArray 77 (0, 0)⟩], [⟨g3, .cells ((List.replicate mx z256.cells.toList).flatten).toArray 121 (0, 0)⟩]]) (fun i => i ≤ mx * 2 + 100) (fun i => mx * 2 + 100 - i) 0 (Nat.zero_le _) (by (repeat (first | exact Sub.nil _ | (refine Sub.cons rfl ?_)))) (by rw [setR_zero]; (apply le_of_picks; (repeat (first | exact Picks.nil | (apply Picks.cons; (· (repeat (first | exact Pick.here | apply Pick.there)))) | apply Picks.empty)))) ?_
  intro i hi
  by_cases h : i < mx * 2 + 100
  · have hsz : (setR (List.replicate (mx * 2 + 100) (Value.int .u32 0)).toArray 0 i (v32 MAX32)).size = mx * 2 + 100 := by rw [setR_size (by simp; omega)]; simp
    have e : (setR (List.replicate (mx * 2 + 100) (Value.int .u32 0)).toArray 0 i (v32 MAX32)).setIfInBounds i (.int .u32 4294967295) = setR (List.replicate (mx * 2 + 100) (Value.int .u32 0)).toArray 0 (i + 1) (v32 MAX32) := by
      have := setR_step (cs := (List.replicate (mx * 2 + 100) (Value.int .u32 0)).toArray) (o := 0) (n := i) (v := v32 MAX32) (by simp; omega)
      rw [Nat.zero_add] at this
      exact this
    have hlt : i < (setR (List.replicate (mx * 2 + 100) (Value.int .u32 0)).toArray 0 i (v32 MAX32)).size := by rw [hsz]; exact h
    refine run_seq ?_
    refine run_region rfl ?_
    refine op_cmp_t rfl rfl rfl rfl (by first | (simp only [cmpP]; done) | (simp only [cmpP]; omega)) ?_
    refine ops_nil ?_
    refine fin_code ?_
    refine run_seq ?_
    refine run_cond_t rfl ?_
    refine run_skip ?_
    refine fin_code ?_
    refine run_seq ?_
    refine run_block ?_
    refine run_seq ?_
    refine run_region rfl ?_
    refine op_move rfl rfl ?_
    refine op_assign rfl rfl ?_
    refine ops_nil ?_
    refine fin_code ?_
    refine run_region rfl ?_
    refine op_move rfl rfl ?_
    refine op_nilCheck rfl rfl ?_
    refine op_fieldAddr rfl rfl ?_
    (apply op_load; (· exact rfl); (· exact rfl); (· apply cell_of_has; (· (repeat (first | exact Has.here | apply Has.there))); (· first | exact rfl | exact hget)))
    refine op_move rfl rfl ?_
    refine op_index rfl rfl rfl (by omega) (by first | (rw [Int.toNat_natCast, Nat.mul_one, Nat.zero_add]) | (rw [Int.toNat_natCast, Nat.mul_one]) | (rw [Int.toNat_natCast, Nat.zero_add]) | (rw [Int.toNat_natCast]) | exact rfl) ?_
    (apply op_store; (· exact rfl); (· exact rfl); (· exact rfl); (· (repeat (first | exact Swap.here | apply Swap.there))); (· first | decide | (simp; done) | (simp; omega) | assumption))
    refine ops_nil ?_
    refine fin_block ?_
    refine fin_code ?_
    refine run_region rfl ?_
    refine op_add rfl rfl rfl (by simp only [kLo, kHi]; omega) ?_
    refine op_move rfl rfl ?_
    refine ops_nil ?_
    refine fin_round (i + 1) (by omega) (by (repeat (first | exact Sub.nil _ | (refine Sub.cons rfl ?_)))) (by rw [← e]; (apply le_of_picks; (repeat (first | exact Picks.nil | (apply Picks.cons; (· (repeat (first | exact Pick.here | apply Pick.there)))) | apply Picks.empty)))) h
  · obtain rfl : i = mx * 2 + 100 := by omega
    have e : setR (List.replicate (mx * 2 + 100) (Value.int .u32 0)).toArray 0 (mx * 2 + 100) (v32 MAX32) = ((Bd.new mx).idx.map v32).toArray := by
      unfold setR Bd.new
      simp
    rw [e]
    refine run_seq ?_
    refine run_region rfl ?_
    refine op_cmp_f rfl rfl rfl rfl (by first | (simp only [cmpP]; done) | (simp only [cmpP]; omega)) ?_
    refine ops_nil ?_
    refine fin_code ?_
    refine run_seq ?_
    refine run_cond_f rfl ?_
    refine run_exit ?_
    refine fin_exit_code ?_
    refine fin_exit_inv ?_
    refine fin_exit_here ?_
    refine fin_code ?_
    refine run_seq ?_
    refine run_region rfl ?_
    refine op_move rfl rfl ?_
    refine op_assign rfl rfl ?_
    refine ops_nil ?_
    refine fin_code ?_
    refine run_ret ?_
    refine fin_ret1 rfl rfl ?_
    intro w' g
    refine hR _ _ (post_of g ⟨q, g1, .slice (some ⟨g2, 0, none⟩) 0 mx, .slice (some ⟨g3, 0, none⟩) 0 mx, [⟨g2, .cells ((List.replicate mx (Value.nilIface).cells.toList).flatten).toArray 77 (0, 0)⟩], [⟨g3, .cells ((List.replicate mx z256.cells.toList).flatten).toArray 121 (0, 0)⟩]⟩ ⟨Own.room ?_ ?_, Own.room ?_ ?_, ?_, ?_⟩ rfl ?_)
    rotate_right 1
    · dsimp only [bdH, bdC]
      rw [show (Bd.new mx).idx.length = mx * 2 + 100 by simp [Bd.new]]
      (apply le_of_picks; (repeat (first | exact Picks.nil | (apply Picks.cons; (· (repeat (first | exact Pick.here | apply Pick.there)))) | apply Picks.empty)))
    · simp [Value.cells]
    · simp only [maxLen]; omega
    · simp [z256, Value.cells]
    · simp only [maxLen]; omega
    · simp [Bd.new]
    · simp [Bd.new]; omega
end Go.Proofs.Eng
