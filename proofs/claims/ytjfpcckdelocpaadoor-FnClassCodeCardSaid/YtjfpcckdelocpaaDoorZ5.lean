/- A part of the proof: what functions of the program do, step by step. -/
import Derived.Test.YtjfpcckdelocpaaDoorZ1
import Derived.Test.YtjfpcckdelocpaaDoorEngL
set_option linter.unusedVariables false
set_option linter.unusedSimpArgs false
namespace Go.Proofs.Eng
open Go.RowKit
def q2 (p : Nat × Nat) : List Value := [.int .u8 p.1, .int .u8 p.2]
def encQ (q : List (Nat × Nat)) : List Value := q.flatMap q2
set_option maxRecDepth 100000 in
set_option maxHeartbeats 2000000 in
theorem seq2_any (w : World) (g1 g2 c1 c2 a0 a1 b0 b1 : Nat) (ra rb : List Value) (hA : RdB w w.heap.size g1 (.int .u8 a0 :: .int .u8 a1 :: ra)) (hB : RdB w w.heap.size g2 (.int .u8 b0 :: .int .u8 b1 :: rb)) :
    Calls Tryd.prog 47 #[.slice (some ⟨g1, 0, none⟩) 2 c1, .slice (some ⟨g2, 0, none⟩) 2 c2] w (Post w ([] : List Hp).flatten (fun g : Nat => .tuple #[.slice (some ⟨g, 0, none⟩) 2 2, .nilIface])
      (fun g => ([[⟨g, .cells #[.int .u8 a0, .int .u8 b0, .int .u8 a1, .int .u8 b1] 71 (0, 0)⟩]] : List Hp).flatten) (fun _ => True)) := by
  refine enter [] Tryd.func47 rfl rfl (At.nil w) (Le.refl _) ?_
  intro R hR
  refine run_seq ?_
  refine run_region rfl ?_
  refine op_assign rfl rfl ?_
  refine op_assign rfl rfl ?_
  refine ops_nil ?_
  refine fin_code ?_
  refine run_seq ?_
  refine run_seq ?_
  refine run_region rfl ?_
  refine op_move rfl rfl ?_
  refine op_len rfl rfl ?_
  refine op_move rfl rfl ?_
  refine op_len rfl rfl ?_
  (refine op_cmp_f rfl rfl rfl rfl (fun h => h rfl) ?_)
  refine ops_nil ?_
  refine fin_code ?_
  refine run_cond_f rfl ?_
  refine run_skip ?_
  refine fin_code ?_
  refine run_seq ?_
  refine run_seq ?_
  refine run_region rfl ?_
  refine op_move rfl rfl ?_
  refine op_len rfl rfl ?_
  refine ops_nil ?_
  refine fin_code ?_
  refine run_block ?_
  refine run_seq ?_
  refine run_region rfl ?_
  refine op_cmp_t rfl rfl rfl rfl (by first | (simp only [cmpP]; done) | (simp only [cmpP]; omega)) ?_
  refine op_assign rfl rfl ?_
  refine ops_nil ?_
  refine fin_code ?_
  refine run_cond_t rfl ?_
  refine run_seq ?_
  refine run_drawS [] (by kernel_rfl) ?_
  refine dr_stab 0 rfl rfl (Val.s (val_move rfl)) (by decide +kernel) rfl rfl ?_
  refine dr_stab 1 rfl rfl (Val.s (val_index rfl rfl (by omega) (by first | (rw [Int.toNat_natCast, Nat.mul_one, Nat.zero_add]) | (rw [Int.toNat_natCast, Nat.mul_one]) | (rw [Int.toNat_natCast, Nat.zero_add]) | (rw [Int.toNat_natCast]) | exact rfl))) (by decide +kernel) rfl rfl ?_
  (apply dr_stab 2; (· exact rfl); (· exact rfl); (· apply ValAt.s; (first | (apply val_load; (· exact rfl); (· apply cell_of_has; (· (repeat (first | exact Has.here | apply Has.there))); (· first | exact rfl | exact nats_get _ _ _ (by omega)))) | (apply val_load; (· exact rfl); (· first | exact RdB.cell hA (by simp [ids]) rfl | exact RdB.cell hB (by simp [ids]) rfl)))); (· decide +kernel); (· exact rfl); (· exact rfl))
  refine dr_stab 3 rfl rfl (Val.s (val_move rfl)) (by decide +kernel) rfl rfl ?_
  refine dr_stab 4 rfl rfl (Val.s (val_index rfl rfl (by omega) (by first | (rw [Int.toNat_natCast, Nat.mul_one, Nat.zero_add]) | (rw [Int.toNat_natCast, Nat.mul_one]) | (rw [Int.toNat_natCast, Nat.zero_add]) | (rw [Int.toNat_natCast]) | exact rfl))) (by decide +kernel) rfl rfl ?_
  (apply dr_stab 5; (· exact rfl); (· exact rfl); (· apply ValAt.s; (first | (apply val_load; (· exact rfl); (· apply cell_of_has; (· (repeat (first | exact Has.here | apply Has.there))); (· first | exact rfl | exact nats_get _ _ _ (by omega)))) | (apply val_load; (· exact rfl); (· first | exact RdB.cell hA (by simp [ids]) rfl | exact RdB.cell hB (by simp [ids]) rfl)))); (· decide +kernel); (· exact rfl); (· exact rfl))
  refine dr_stab 6 rfl rfl (Val.s (val_build rfl rfl (ones rfl) rfl)) (by decide +kernel) rfl rfl ?_
  refine dr_stab 7 rfl rfl (Val.s (val_move rfl)) (by decide +kernel) rfl rfl ?_
  refine dr_stab 8 rfl rfl (Val.s (val_index rfl rfl (by omega) (by first | (rw [Int.toNat_natCast, Nat.mul_one, Nat.zero_add]) | (rw [Int.toNat_natCast, Nat.mul_one]) | (rw [Int.toNat_natCast, Nat.zero_add]) | (rw [Int.toNat_natCast]) | exact rfl))) (by decide +kernel) rfl rfl ?_
  (apply dr_stab 9; (· exact rfl); (· exact rfl); (· apply ValAt.s; (first | (apply val_load; (· exact rfl); (· apply cell_of_has; (· (repeat (first | exact Has.here | apply Has.there))); (· first | exact rfl | exact nats_get _ _ _ (by omega)))) | (apply val_load; (· exact rfl); (· first | exact RdB.cell hA (by simp [ids]) rfl | exact RdB.cell hB (by simp [ids]) rfl)))); (· decide +kernel); (· exact rfl); (· exact rfl))
  refine dr_stab 10 rfl rfl (Val.s (val_move rfl)) (by decide +kernel) rfl rfl ?_
  refine dr_stab 11 rfl rfl (Val.s (val_index rfl rfl (by omega) (by first | (rw [Int.toNat_natCast, Nat.mul_one, Nat.zero_add]) | (rw [Int.toNat_natCast, Nat.mul_one]) | (rw [Int.toNat_natCast, Nat.zero_add]) | (rw [Int.toNat_natCast]) | exact rfl))) (by decide +kernel) rfl rfl ?_
  (apply dr_stab 12; (· exact rfl); (· exact rfl); (· apply ValAt.s; (first | (apply val_load; (· exact rfl); (· apply cell_of_has; (· (repeat (first | exact Has.here | apply Has.there))); (· first | exact rfl | exact nats_get _ _ _ (by omega)))) | (apply val_load; (· exact rfl); (· first | exact RdB.cell hA (by simp [ids]) rfl | exact RdB.cell hB (by simp [ids]) rfl)))); (· decide +kernel); (· exact rfl); (· exact rfl))
  refine dr_stab 13 rfl rfl (Val.s (val_build rfl rfl (ones rfl) rfl)) (by decide +kernel) rfl rfl ?_
  (refine dr_one 14 rfl (by decide +kernel) (by (apply le_of_picks; (repeat (first | exact Picks.nil | (apply Picks.cons; (· (repeat (first | exact Pick.here | apply Pick.there)))) | apply Picks.empty)))) ?_)
  (refine op_sliceC rfl rfl rfl rfl rfl (by decide) rfl rfl ?_; intro _ _)
  refine ops_nil ?_
  refine fin_draw ?_
  refine dr_stab 15 rfl rfl (Val.s (val_assign rfl)) (by decide +kernel) rfl rfl ?_
  refine dr_stab 16 rfl rfl (Val.s (val_assign rfl)) (by decide +kernel) rfl rfl ?_
  (refine dr_done (by decide +kernel) (by (apply le_of_picks; (repeat (first | exact Picks.nil | (apply Picks.cons; (· (repeat (first | exact Pick.here | apply Pick.there)))) | apply Picks.empty)))) ?_)
  refine fin_code ?_
  refine run_ret ?_
  refine fin_ret_block ?_
  refine fin_ret_code ?_
  rename_i g0 _
  refine fin_ret2 rfl rfl rfl ?_
  intro w' g
  exact hR _ _ (post_of g g0 trivial rfl (by (apply le_of_picks; (repeat (first | exact Picks.nil | (apply Picks.cons; (· (repeat (first | exact Pick.here | apply Pick.there)))) | apply Picks.empty)))))
set_option maxRecDepth 100000 in
set_option maxHeartbeats 4000000 in
theorem seq3_any (w : World) (g1 g2 c1 c2 a0 a1 a2 b0 b1 b2 : Nat) (ra rb : List Value) (hA : RdB w w.heap.size g1 (.int .u8 a0 :: .int .u8 a1 :: .int .u8 a2 :: ra)) (hB : RdB w w.heap.size g2 (.int .u8 b0 :: .int .u8 b1 :: .int .u8 b2 :: rb)) :
    Calls Tryd.prog 47 #[.slice (some ⟨g1, 0, none⟩) 3 c1, .slice (some ⟨g2, 0, none⟩) 3 c2] w (Post w ([] : List Hp).flatten (fun g : Nat => .tuple #[.slice (some ⟨g, 0, none⟩) 3 3, .nilIface])
      (fun g => ([[⟨g, .cells #[.int .u8 a0, .int .u8 b0, .int .u8 a1, .int .u8 b1, .int .u8 a2, .int .u8 b2] 71 (0, 0)⟩]] : List Hp).flatten) (fun _ => True)) := by
  refine enter [] Tryd.func47 rfl rfl (At.nil w) (Le.refl _) ?_
  intro R hR
  refine run_seq ?_
  refine run_region rfl ?_
  refine op_assign rfl rfl ?_
  refine op_assign rfl rfl ?_
  refine ops_nil ?_
  refine fin_code ?_
  refine run_seq ?_
  refine run_seq ?_
  refine run_region rfl ?_
  refine op_move rfl rfl ?_
  refine op_len rfl rfl ?_
  refine op_move rfl rfl ?_
  refine op_len rfl rfl ?_
  (refine op_cmp_f rfl rfl rfl rfl (fun h => h rfl) ?_)
  refine ops_nil ?_
  refine fin_code ?_
  refine run_cond_f rfl ?_
  refine run_skip ?_
  refine fin_code ?_
  refine run_seq ?_
  refine run_seq ?_
  refine run_region rfl ?_
  refine op_move rfl rfl ?_
  refine op_len rfl rfl ?_
  refine ops_nil ?_
  refine fin_code ?_
  refine run_block ?_
  refine run_seq ?_
  refine run_region rfl ?_
  refine op_cmp_f rfl rfl rfl rfl (by first | (simp only [cmpP]; done) | (simp only [cmpP]; omega)) ?_
  refine op_assign rfl rfl ?_
  refine ops_nil ?_
  refine fin_code ?_
  refine run_cond_f rfl ?_
  refine run_seq ?_
  refine run_region rfl ?_
  refine op_cmp_t rfl rfl rfl rfl (by first | (simp only [cmpP]; done) | (simp only [cmpP]; omega)) ?_
  refine op_assign rfl rfl ?_
  refine ops_nil ?_
  refine fin_code ?_
  refine run_cond_t rfl ?_
  refine run_seq ?_
  refine run_drawS [] (by kernel_rfl) ?_
  refine dr_stab 0 rfl rfl (Val.s (val_move rfl)) (by decide +kernel) rfl rfl ?_
  refine dr_stab 1 rfl rfl (Val.s (val_index rfl rfl (by omega) (by first | (rw [Int.toNat_natCast, Nat.mul_one, Nat.zero_add]) | (rw [Int.toNat_natCast, Nat.mul_one]) | (rw [Int.toNat_natCast, Nat.zero_add]) | (rw [Int.toNat_natCast]) | exact rfl))) (by decide +kernel) rfl rfl ?_
  (apply dr_stab 2; (· exact rfl); (· exact rfl); (· apply ValAt.s; (first | (apply val_load; (· exact rfl); (· apply cell_of_has; (· (repeat (first | exact Has.here | apply Has.there))); (· first | exact rfl | exact nats_get _ _ _ (by omega)))) | (apply val_load; (· exact rfl); (· first | exact RdB.cell hA (by simp [ids]) rfl | exact RdB.cell hB (by simp [ids]) rfl)))); (· decide +kernel); (· exact rfl); (· exact rfl))
  refine dr_stab 3 rfl rfl (Val.s (val_move rfl)) (by decide +kernel) rfl rfl ?_
  refine dr_stab 4 rfl rfl (Val.s (val_index rfl rfl (by omega) (by first | (rw [Int.toNat_natCast, Nat.mul_one, Nat.zero_add]) | (rw [Int.toNat_natCast, Nat.mul_one]) | (rw [Int.toNat_natCast, Nat.zero_add]) | (rw [Int.toNat_natCast]) | exact rfl))) (by decide +kernel) rfl rfl ?_
  (apply dr_stab 5; (· exact rfl); (· exact rfl); (· apply ValAt.s; (first | (apply val_load; (· exact rfl); (· apply cell_of_has; (· (repeat (first | exact Has.here | apply Has.there))); (· first | exact rfl | exact nats_get _ _ _ (by omega)))) | (apply val_load; (· exact rfl); (· first | exact RdB.cell hA (by simp [ids]) rfl | exact RdB.cell hB (by simp [ids]) rfl)))); (· decide +kernel); (· exact rfl); (· exact rfl))
  refine dr_stab 6 rfl rfl (Val.s (val_build rfl rfl (ones rfl) rfl)) (by decide +kernel) rfl rfl ?_
  refine dr_stab 7 rfl rfl (Val.s (val_move rfl)) (by decide +kernel) rfl rfl ?_
  refine dr_stab 8 rfl rfl (Val.s (val_index rfl rfl (by omega) (by first | (rw [Int.toNat_natCast, Nat.mul_one, Nat.zero_add]) | (rw [Int.toNat_natCast, Nat.mul_one]) | (rw [Int.toNat_natCast, Nat.zero_add]) | (rw [Int.toNat_natCast]) | exact rfl))) (by decide +kernel) rfl rfl ?_
  (apply dr_stab 9; (· exact rfl); (· exact rfl); (· apply ValAt.s; (first | (apply val_load; (· exact rfl); (· apply cell_of_has; (· (repeat (first | exact Has.here | apply Has.there))); (· first | exact rfl | exact nats_get _ _ _ (by omega)))) | (apply val_load; (· exact rfl); (· first | exact RdB.cell hA (by simp [ids]) rfl | exact RdB.cell hB (by simp [ids]) rfl)))); (· decide +kernel); (· exact rfl); (· exact rfl))
  refine dr_stab 10 rfl rfl (Val.s (val_move rfl)) (by decide +kernel) rfl rfl ?_
  refine dr_stab 11 rfl rfl (Val.s (val_index rfl rfl (by omega) (by first | (rw [Int.toNat_natCast, Nat.mul_one, Nat.zero_add]) | (rw [Int.toNat_natCast, Nat.mul_one]) | (rw [Int.toNat_natCast, Nat.zero_add]) | (rw [Int.toNat_natCast]) | exact rfl))) (by decide +kernel) rfl rfl ?_
  (apply dr_stab 12; (· exact rfl); (· exact rfl); (· apply ValAt.s; (first | (apply val_load; (· exact rfl); (· apply cell_of_has; (· (repeat (first | exact Has.here | apply Has.there))); (· first | exact rfl | exact nats_get _ _ _ (by omega)))) | (apply val_load; (· exact rfl); (· first | exact RdB.cell hA (by simp [ids]) rfl | exact RdB.cell hB (by simp [ids]) rfl)))); (· decide +kernel); (· exact rfl); (· exact rfl))
  refine dr_stab 13 rfl rfl (Val.s (val_build rfl rfl (ones rfl) rfl)) (by decide +kernel) rfl rfl ?_
  refine dr_stab 14 rfl rfl (Val.s (val_move rfl)) (by decide +kernel) rfl rfl ?_
  refine dr_stab 15 rfl rfl (Val.s (val_index rfl rfl (by omega) (by first | (rw [Int.toNat_natCast, Nat.mul_one, Nat.zero_add]) | (rw [Int.toNat_natCast, Nat.mul_one]) | (rw [Int.toNat_natCast, Nat.zero_add]) | (rw [Int.toNat_natCast]) | exact rfl))) (by decide +kernel) rfl rfl ?_
  (apply dr_stab 16; (· exact rfl); (· exact rfl); (· apply ValAt.s; (first | (apply val_load; (· exact rfl); (· apply cell_of_has; (· (repeat (first | exact Has.here | apply Has.there))); (· first | exact rfl | exact nats_get _ _ _ (by omega)))) | (apply val_load; (· exact rfl); (· first | exact RdB.cell hA (by simp [ids]) rfl | exact RdB.cell hB (by simp [ids]) rfl)))); (· decide +kernel); (· exact rfl); (· exact rfl))
  refine dr_stab 17 rfl rfl (Val.s (val_move rfl)) (by decide +kernel) rfl rfl ?_
  refine dr_stab 18 rfl rfl (Val.s (val_index rfl rfl (by omega) (by first | (rw [Int.toNat_natCast, Nat.mul_one, Nat.zero_add]) | (rw [Int.toNat_natCast, Nat.mul_one]) | (rw [Int.toNat_natCast, Nat.zero_add]) | (rw [Int.toNat_natCast]) | exact rfl))) (by decide +kernel) rfl rfl ?_
  (apply dr_stab 19; (· exact rfl); (· exact rfl); (· apply ValAt.s; (first | (apply val_load; (· exact rfl); (· apply cell_of_has; (· (repeat (first | exact Has.here | apply Has.there))); (· first | exact rfl | exact nats_get _ _ _ (by omega)))) | (apply val_load; (· exact rfl); (· first | exact RdB.cell hA (by simp [ids]) rfl | exact RdB.cell hB (by simp [ids]) rfl)))); (· decide +kernel); (· exact rfl); (· exact rfl))
  refine dr_stab 20 rfl rfl (Val.s (val_build rfl rfl (ones rfl) rfl)) (by decide +kernel) rfl rfl ?_
  (refine dr_one 21 rfl (by decide +kernel) (by (apply le_of_picks; (repeat (first | exact Picks.nil | (apply Picks.cons; (· (repeat (first | exact Pick.here | apply Pick.there)))) | apply Picks.empty)))) ?_)
  (refine op_sliceC rfl rfl rfl rfl rfl (by decide) rfl rfl ?_; intro _ _)
  refine ops_nil ?_
  refine fin_draw ?_
  refine dr_stab 22 rfl rfl (Val.s (val_assign rfl)) (by decide +kernel) rfl rfl ?_
  refine dr_stab 23 rfl rfl (Val.s (val_assign rfl)) (by decide +kernel) rfl rfl ?_
  (refine dr_done (by decide +kernel) (by (apply le_of_picks; (repeat (first | exact Picks.nil | (apply Picks.cons; (· (repeat (first | exact Pick.here | apply Pick.there)))) | apply Picks.empty)))) ?_)
  refine fin_code ?_
  refine run_ret ?_
  refine fin_ret_block ?_
  refine fin_ret_code ?_
  rename_i g0 _
  refine fin_ret2 rfl rfl rfl ?_
  intro w' g
  exact hR _ _ (post_of g g0 trivial rfl (by (apply le_of_picks; (repeat (first | exact Picks.nil | (apply Picks.cons; (· (repeat (first | exact Pick.here | apply Pick.there)))) | apply Picks.empty)))))
end Go.Proofs.Eng
