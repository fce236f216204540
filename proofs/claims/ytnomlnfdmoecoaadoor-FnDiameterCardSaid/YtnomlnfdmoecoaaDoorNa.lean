/- A part of the proof: what functions of the program do, step by step. -/
import Derived.Test.YtnomlnfdmoecoaaDoorN9
set_option linter.unusedVariables false
set_option linter.unusedSimpArgs false
namespace Go.Proofs.Eng
open Go.RowKit
structure NSok (s : NS) : Prop where
  o : s.o ≤ 100000
  d : s.d ≤ 255
def nsB (p : Nat) (s : NS) : Hp := [⟨p, .cells (nsV s).toArray 87 (0, 0)⟩]
set_option maxRecDepth 100000 in
set_option maxHeartbeats 32000000 in
theorem imply_any (w : World) (p : Nat) (s o : NS) (hs : NSok s) (ho : NSok o) (hw : At w ([nsB p s] : List Hp).flatten) :
    Calls Tryd.prog 40 #[.pointer (some ⟨p, 0, none⟩), .agg (nsV o).toArray] w (Post w ([nsB p s] : List Hp).flatten (fun _ : Unit => .bool (implyB s o)) (fun _ => ([nsB p s] : List Hp).flatten) (fun _ => True)) := by
  obtain ⟨so, sd, st⟩ := s
  obtain ⟨oo, od, ot⟩ := o
  obtain ⟨hs1, hs2⟩ := hs
  obtain ⟨ho1, ho2⟩ := ho
  dsimp only at hs1 hs2 ho1 ho2
  refine enter [nsB p ⟨so, sd, st⟩] Tryd.func40 rfl rfl hw (Le.refl _) ?_
  intro R hR
  dsimp only [nsB, nsV] at hR ⊢
  unfold implyB at hR
  dsimp only at hR
  refine run_seq ?_
  refine run_region rfl ?_
  refine op_box rfl rfl ?_
  intro q _
  rw [show (Value.agg [Value.int .u32 oo, .int .u8 od, .bool ot].toArray).cells = #[.int .u32 oo, .int .u8 od, .bool ot] by simp [Value.cells]]
  refine op_assign rfl rfl ?_
  refine ops_nil ?_
  refine fin_code ?_
  refine run_seq ?_
  refine run_region rfl ?_
  refine op_move rfl rfl ?_
  refine op_nilCheck rfl rfl ?_
  refine op_fieldAddr rfl rfl ?_
  (apply op_load; (· exact rfl); (· exact rfl); (· apply cell_of_has; (· (repeat (first | exact Has.here | apply Has.there))); (· first | exact rfl)))
  refine op_assign rfl rfl ?_
  refine ops_nil ?_
  refine fin_code ?_
  refine run_seq ?_
  refine run_seq ?_
  refine run_region rfl ?_
  refine op_fieldAddr rfl rfl ?_
  (apply op_load; (· exact rfl); (· exact rfl); (· apply cell_of_has; (· (repeat (first | exact Has.here | apply Has.there))); (· first | exact rfl)))
  refine op_not rfl rfl ?_
  refine ops_nil ?_
  refine fin_code ?_
  refine run_join (α := Bool) (fun b => [(0, .pointer (some ⟨p, 0, none⟩)), (3, .pointer (some ⟨q, 0, none⟩)), (5, .bool b)]) (fun _ => [[⟨p, .cells #[.int .u32 so, .int .u8 sd, .bool st] 87 (0, 0)⟩], [⟨q, .cells #[.int .u32 oo, .int .u8 od, .bool ot] 87 (0, 0)⟩]]) (fun b => b = (st || !ot)) ?_ ?_
  rotate_left 1
  · intro J
    cases ot with
    | false =>
      have J1 := J true (by simp)
      refine run_cond_t rfl ?_
      refine run_region rfl ?_
      refine op_fieldAddr rfl rfl ?_
      (apply op_load; (· exact rfl); (· exact rfl); (· apply cell_of_has; (· (repeat (first | exact Has.here | apply Has.there))); (· first | exact rfl)))
      refine op_not rfl rfl ?_
      refine op_assign rfl rfl ?_
      refine ops_nil ?_
      (apply J1)
      · (repeat (first | exact Sub.nil _ | (refine Sub.cons rfl ?_)))
      · (apply le_of_picks; (repeat (first | exact Picks.nil | (apply Picks.cons; (· (repeat (first | exact Pick.here | apply Pick.there)))) | apply Picks.empty)))
    | true =>
      have J1 := J st (by simp)
      refine run_cond_f rfl ?_
      refine run_skip ?_
      (apply J1)
      · (repeat (first | exact Sub.nil _ | (refine Sub.cons rfl ?_)))
      · (apply le_of_picks; (repeat (first | exact Picks.nil | (apply Picks.cons; (· (repeat (first | exact Pick.here | apply Pick.there)))) | apply Picks.empty)))
  rintro b hb
  rw [← hb] at hR
  clear hb
  by_cases hlt : so < oo
  · simp only [if_pos hlt] at hR
    refine fin_code ?_
    refine run_seq ?_
    refine run_drawS [[⟨p, .cells #[.int .u32 so, .int .u8 sd, .bool st] 87 (0, 0)⟩], [⟨q, .cells #[.int .u32 oo, .int .u8 od, .bool ot] 87 (0, 0)⟩]] (by kernel_rfl) ?_
    refine dr_stab 0 rfl rfl (Val.s (val_move rfl)) (by decide +kernel) rfl rfl ?_
    refine dr_stab 1 rfl rfl (Val.s (val_nilCheck rfl)) (by decide +kernel) rfl rfl ?_
    refine dr_stab 2 rfl rfl (Val.s (val_fieldAddr rfl)) (by decide +kernel) rfl rfl ?_
    (apply dr_stab 3; (· exact rfl); (· exact rfl); (· apply ValAt.s; (first | (apply val_load; (· exact rfl); (· apply cell_of_has; (· (repeat (first | exact Has.here | apply Has.there))); (· first | exact rfl))) | fail)); (· decide +kernel); (· exact rfl); (· exact rfl))
    refine dr_stab 4 rfl rfl (Val.s (val_fieldAddr rfl)) (by decide +kernel) rfl rfl ?_
    (apply dr_stab 5; (· exact rfl); (· exact rfl); (· apply ValAt.s; (first | (apply val_load; (· exact rfl); (· apply cell_of_has; (· (repeat (first | exact Has.here | apply Has.there))); (· first | exact rfl))) | fail)); (· decide +kernel); (· exact rfl); (· exact rfl))
    (apply dr_stab 6; (· exact rfl); (· exact rfl); (· apply Val.s; first | first | exact val_subw rfl rfl | exact val_cmp_f rfl rfl rfl (fun h => h rfl)); (· decide +kernel); (· exact rfl); (· exact rfl))
    refine dr_stab 7 rfl rfl (Val.s (val_assign rfl)) (by decide +kernel) rfl rfl ?_
    (refine dr_done (by decide +kernel) (by (apply le_of_picks; (repeat (first | exact Picks.nil | (apply Picks.cons; (· (repeat (first | exact Pick.here | apply Pick.there)))) | apply Picks.empty)))) ?_)
    refine fin_code ?_
    refine run_seq ?_
    refine run_seq ?_
    refine run_drawS [[⟨p, .cells #[.int .u32 so, .int .u8 sd, .bool st] 87 (0, 0)⟩], [⟨q, .cells #[.int .u32 oo, .int .u8 od, .bool ot] 87 (0, 0)⟩]] (by kernel_rfl) ?_
    refine dr_stab 0 rfl rfl (Val.s (val_move rfl)) (by decide +kernel) rfl rfl ?_
    refine dr_stab 1 rfl rfl (Val.s (val_nilCheck rfl)) (by decide +kernel) rfl rfl ?_
    refine dr_stab 2 rfl rfl (Val.s (val_fieldAddr rfl)) (by decide +kernel) rfl rfl ?_
    (apply dr_stab 3; (· exact rfl); (· exact rfl); (· apply ValAt.s; (first | (apply val_load; (· exact rfl); (· apply cell_of_has; (· (repeat (first | exact Has.here | apply Has.there))); (· first | exact rfl))) | fail)); (· decide +kernel); (· exact rfl); (· exact rfl))
    refine dr_stab 4 rfl rfl (Val.s (val_fieldAddr rfl)) (by decide +kernel) rfl rfl ?_
    (apply dr_stab 5; (· exact rfl); (· exact rfl); (· apply ValAt.s; (first | (apply val_load; (· exact rfl); (· apply cell_of_has; (· (repeat (first | exact Has.here | apply Has.there))); (· first | exact rfl))) | fail)); (· decide +kernel); (· exact rfl); (· exact rfl))
    refine dr_stab 6 rfl rfl (Val.s (val_cmp_t rfl rfl rfl (by first | (simp only [cmpP]; done) | (simp only [cmpP]; omega)))) (by decide +kernel) rfl rfl ?_
    (refine dr_done (by decide +kernel) (by (apply le_of_picks; (repeat (first | exact Picks.nil | (apply Picks.cons; (· (repeat (first | exact Pick.here | apply Pick.there)))) | apply Picks.empty)))) ?_)
    refine fin_code ?_
    refine run_cond_t rfl ?_
    refine run_drawS [[⟨p, .cells #[.int .u32 so, .int .u8 sd, .bool st] 87 (0, 0)⟩], [⟨q, .cells #[.int .u32 oo, .int .u8 od, .bool ot] 87 (0, 0)⟩]] (by kernel_rfl) ?_
    refine dr_stab 0 rfl rfl (Val.s (val_fieldAddr rfl)) (by decide +kernel) rfl rfl ?_
    (apply dr_stab 1; (· exact rfl); (· exact rfl); (· apply ValAt.s; (first | (apply val_load; (· exact rfl); (· apply cell_of_has; (· (repeat (first | exact Has.here | apply Has.there))); (· first | exact rfl))) | fail)); (· decide +kernel); (· exact rfl); (· exact rfl))
    refine dr_stab 2 rfl rfl (Val.s (val_move rfl)) (by decide +kernel) rfl rfl ?_
    refine dr_stab 3 rfl rfl (Val.s (val_nilCheck rfl)) (by decide +kernel) rfl rfl ?_
    refine dr_stab 4 rfl rfl (Val.s (val_fieldAddr rfl)) (by decide +kernel) rfl rfl ?_
    (apply dr_stab 5; (· exact rfl); (· exact rfl); (· apply ValAt.s; (first | (apply val_load; (· exact rfl); (· apply cell_of_has; (· (repeat (first | exact Has.here | apply Has.there))); (· first | exact rfl))) | fail)); (· decide +kernel); (· exact rfl); (· exact rfl))
    refine dr_stab 6 rfl rfl (Val.s (val_sub rfl rfl (by simp only [kLo, kHi]; omega))) (by decide +kernel) rfl rfl ?_
    refine dr_stab 7 rfl rfl (Val.s (val_assign rfl)) (by decide +kernel) rfl rfl ?_
    (refine dr_done (by decide +kernel) (by (apply le_of_picks; (repeat (first | exact Picks.nil | (apply Picks.cons; (· (repeat (first | exact Pick.here | apply Pick.there)))) | apply Picks.empty)))) ?_)
    cases b with
    | true =>
      simp only [if_true] at hR
      by_cases hc : sd + (oo - so) ≤ od
      · rw [decide_eq_true hc] at hR
        refine fin_code ?_
        refine run_seq ?_
        refine run_seq ?_
        refine run_region rfl ?_
        refine op_move rfl rfl ?_
        refine ops_nil ?_
        refine fin_code ?_
        refine run_cond_t rfl ?_
        refine run_seq ?_
        refine run_drawS [[⟨p, .cells #[.int .u32 so, .int .u8 sd, .bool st] 87 (0, 0)⟩], [⟨q, .cells #[.int .u32 oo, .int .u8 od, .bool ot] 87 (0, 0)⟩]] (by kernel_rfl) ?_
        refine dr_stab 0 rfl rfl (Val.s (val_fieldAddr rfl)) (by decide +kernel) rfl rfl ?_
        (apply dr_stab 1; (· exact rfl); (· exact rfl); (· apply ValAt.s; (first | (apply val_load; (· exact rfl); (· apply cell_of_has; (· (repeat (first | exact Has.here | apply Has.there))); (· first | exact rfl))) | fail)); (· decide +kernel); (· exact rfl); (· exact rfl))
        refine dr_stab 2 rfl rfl (Val.s (val_conv rfl (by simp only [kLo, kHi]; omega))) (by decide +kernel) rfl rfl ?_
        refine dr_stab 3 rfl rfl (Val.s (val_move rfl)) (by decide +kernel) rfl rfl ?_
        refine dr_stab 4 rfl rfl (Val.s (val_nilCheck rfl)) (by decide +kernel) rfl rfl ?_
        refine dr_stab 5 rfl rfl (Val.s (val_fieldAddr rfl)) (by decide +kernel) rfl rfl ?_
        (apply dr_stab 6; (· exact rfl); (· exact rfl); (· apply ValAt.s; (first | (apply val_load; (· exact rfl); (· apply cell_of_has; (· (repeat (first | exact Has.here | apply Has.there))); (· first | exact rfl))) | fail)); (· decide +kernel); (· exact rfl); (· exact rfl))
        refine dr_stab 7 rfl rfl (Val.s (val_conv rfl (by simp only [kLo, kHi]; omega))) (by decide +kernel) rfl rfl ?_
        refine dr_stab 8 rfl rfl (Val.s (val_move rfl)) (by decide +kernel) rfl rfl ?_
        refine dr_stab 9 rfl rfl (Val.s (val_add rfl rfl (by simp only [kLo, kHi]; omega))) (by decide +kernel) rfl rfl ?_
        refine dr_stab 10 rfl rfl (Val.s (val_cmp_t rfl rfl rfl (by first | (simp only [cmpP]; done) | (simp only [cmpP]; omega)))) (by decide +kernel) rfl rfl ?_
        refine dr_stab 11 rfl rfl (Val.s (val_assign rfl)) (by decide +kernel) rfl rfl ?_
        (refine dr_done (by decide +kernel) (by (apply le_of_picks; (repeat (first | exact Picks.nil | (apply Picks.cons; (· (repeat (first | exact Pick.here | apply Pick.there)))) | apply Picks.empty)))) ?_)
        refine fin_code ?_
        refine run_ret ?_
        refine fin_ret_code ?_
        refine fin_ret1 rfl rfl ?_
        intro w' g
        exact hR _ _ (post_of g () trivial rfl (by (apply le_of_picks; (repeat (first | exact Picks.nil | (apply Picks.cons; (· (repeat (first | exact Pick.here | apply Pick.there)))) | apply Picks.empty)))))
      · rw [decide_eq_false hc] at hR
        refine fin_code ?_
        refine run_seq ?_
        refine run_seq ?_
        refine run_region rfl ?_
        refine op_move rfl rfl ?_
        refine ops_nil ?_
        refine fin_code ?_
        refine run_cond_t rfl ?_
        refine run_seq ?_
        refine run_drawS [[⟨p, .cells #[.int .u32 so, .int .u8 sd, .bool st] 87 (0, 0)⟩], [⟨q, .cells #[.int .u32 oo, .int .u8 od, .bool ot] 87 (0, 0)⟩]] (by kernel_rfl) ?_
        refine dr_stab 0 rfl rfl (Val.s (val_fieldAddr rfl)) (by decide +kernel) rfl rfl ?_
        (apply dr_stab 1; (· exact rfl); (· exact rfl); (· apply ValAt.s; (first | (apply val_load; (· exact rfl); (· apply cell_of_has; (· (repeat (first | exact Has.here | apply Has.there))); (· first | exact rfl))) | fail)); (· decide +kernel); (· exact rfl); (· exact rfl))
        refine dr_stab 2 rfl rfl (Val.s (val_conv rfl (by simp only [kLo, kHi]; omega))) (by decide +kernel) rfl rfl ?_
        refine dr_stab 3 rfl rfl (Val.s (val_move rfl)) (by decide +kernel) rfl rfl ?_
        refine dr_stab 4 rfl rfl (Val.s (val_nilCheck rfl)) (by decide +kernel) rfl rfl ?_
        refine dr_stab 5 rfl rfl (Val.s (val_fieldAddr rfl)) (by decide +kernel) rfl rfl ?_
        (apply dr_stab 6; (· exact rfl); (· exact rfl); (· apply ValAt.s; (first | (apply val_load; (· exact rfl); (· apply cell_of_has; (· (repeat (first | exact Has.here | apply Has.there))); (· first | exact rfl))) | fail)); (· decide +kernel); (· exact rfl); (· exact rfl))
        refine dr_stab 7 rfl rfl (Val.s (val_conv rfl (by simp only [kLo, kHi]; omega))) (by decide +kernel) rfl rfl ?_
        refine dr_stab 8 rfl rfl (Val.s (val_move rfl)) (by decide +kernel) rfl rfl ?_
        refine dr_stab 9 rfl rfl (Val.s (val_add rfl rfl (by simp only [kLo, kHi]; omega))) (by decide +kernel) rfl rfl ?_
        refine dr_stab 10 rfl rfl (Val.s (val_cmp_f rfl rfl rfl (by first | (simp only [cmpP]; done) | (simp only [cmpP]; omega)))) (by decide +kernel) rfl rfl ?_
        refine dr_stab 11 rfl rfl (Val.s (val_assign rfl)) (by decide +kernel) rfl rfl ?_
        (refine dr_done (by decide +kernel) (by (apply le_of_picks; (repeat (first | exact Picks.nil | (apply Picks.cons; (· (repeat (first | exact Pick.here | apply Pick.there)))) | apply Picks.empty)))) ?_)
        refine fin_code ?_
        refine run_ret ?_
        refine fin_ret_code ?_
        refine fin_ret1 rfl rfl ?_
        intro w' g
        exact hR _ _ (post_of g () trivial rfl (by (apply le_of_picks; (repeat (first | exact Picks.nil | (apply Picks.cons; (· (repeat (first | exact Pick.here | apply Pick.there)))) | apply Picks.empty)))))
    | false =>
      simp only [if_false, Bool.false_eq_true] at hR
      by_cases hc : sd + (oo - so) < od
      · rw [decide_eq_true hc] at hR
        refine fin_code ?_
        refine run_seq ?_
        refine run_seq ?_
        refine run_region rfl ?_
        refine op_move rfl rfl ?_
        refine ops_nil ?_
        refine fin_code ?_
        refine run_cond_f rfl ?_
        refine run_skip ?_
        refine fin_code ?_
        refine run_seq ?_
        refine run_drawS [[⟨p, .cells #[.int .u32 so, .int .u8 sd, .bool st] 87 (0, 0)⟩], [⟨q, .cells #[.int .u32 oo, .int .u8 od, .bool ot] 87 (0, 0)⟩]] (by kernel_rfl) ?_
        refine dr_stab 0 rfl rfl (Val.s (val_fieldAddr rfl)) (by decide +kernel) rfl rfl ?_
        (apply dr_stab 1; (· exact rfl); (· exact rfl); (· apply ValAt.s; (first | (apply val_load; (· exact rfl); (· apply cell_of_has; (· (repeat (first | exact Has.here | apply Has.there))); (· first | exact rfl))) | fail)); (· decide +kernel); (· exact rfl); (· exact rfl))
        refine dr_stab 2 rfl rfl (Val.s (val_conv rfl (by simp only [kLo, kHi]; omega))) (by decide +kernel) rfl rfl ?_
        refine dr_stab 3 rfl rfl (Val.s (val_move rfl)) (by decide +kernel) rfl rfl ?_
        refine dr_stab 4 rfl rfl (Val.s (val_nilCheck rfl)) (by decide +kernel) rfl rfl ?_
        refine dr_stab 5 rfl rfl (Val.s (val_fieldAddr rfl)) (by decide +kernel) rfl rfl ?_
        (apply dr_stab 6; (· exact rfl); (· exact rfl); (· apply ValAt.s; (first | (apply val_load; (· exact rfl); (· apply cell_of_has; (· (repeat (first | exact Has.here | apply Has.there))); (· first | exact rfl))) | fail)); (· decide +kernel); (· exact rfl); (· exact rfl))
        refine dr_stab 7 rfl rfl (Val.s (val_conv rfl (by simp only [kLo, kHi]; omega))) (by decide +kernel) rfl rfl ?_
        refine dr_stab 8 rfl rfl (Val.s (val_move rfl)) (by decide +kernel) rfl rfl ?_
        refine dr_stab 9 rfl rfl (Val.s (val_add rfl rfl (by simp only [kLo, kHi]; omega))) (by decide +kernel) rfl rfl ?_
        refine dr_stab 10 rfl rfl (Val.s (val_cmp_t rfl rfl rfl (by first | (simp only [cmpP]; done) | (simp only [cmpP]; omega)))) (by decide +kernel) rfl rfl ?_
        refine dr_stab 11 rfl rfl (Val.s (val_assign rfl)) (by decide +kernel) rfl rfl ?_
        (refine dr_done (by decide +kernel) (by (apply le_of_picks; (repeat (first | exact Picks.nil | (apply Picks.cons; (· (repeat (first | exact Pick.here | apply Pick.there)))) | apply Picks.empty)))) ?_)
        refine fin_code ?_
        refine run_ret ?_
        refine fin_ret1 rfl rfl ?_
        intro w' g
        exact hR _ _ (post_of g () trivial rfl (by (apply le_of_picks; (repeat (first | exact Picks.nil | (apply Picks.cons; (· (repeat (first | exact Pick.here | apply Pick.there)))) | apply Picks.empty)))))
      · rw [decide_eq_false hc] at hR
        refine fin_code ?_
        refine run_seq ?_
        refine run_seq ?_
        refine run_region rfl ?_
        refine op_move rfl rfl ?_
        refine ops_nil ?_
        refine fin_code ?_
        refine run_cond_f rfl ?_
        refine run_skip ?_
        refine fin_code ?_
        refine run_seq ?_
        refine run_drawS [[⟨p, .cells #[.int .u32 so, .int .u8 sd, .bool st] 87 (0, 0)⟩], [⟨q, .cells #[.int .u32 oo, .int .u8 od, .bool ot] 87 (0, 0)⟩]] (by kernel_rfl) ?_
        refine dr_stab 0 rfl rfl (Val.s (val_fieldAddr rfl)) (by decide +kernel) rfl rfl ?_
        (apply dr_stab 1; (· exact rfl); (· exact rfl); (· apply ValAt.s; (first | (apply val_load; (· exact rfl); (· apply cell_of_has; (· (repeat (first | exact Has.here | apply Has.there))); (· first | exact rfl))) | fail)); (· decide +kernel); (· exact rfl); (· exact rfl))
        refine dr_stab 2 rfl rfl (Val.s (val_conv rfl (by simp only [kLo, kHi]; omega))) (by decide +kernel) rfl rfl ?_
        refine dr_stab 3 rfl rfl (Val.s (val_move rfl)) (by decide +kernel) rfl rfl ?_
        refine dr_stab 4 rfl rfl (Val.s (val_nilCheck rfl)) (by decide +kernel) rfl rfl ?_
        refine dr_stab 5 rfl rfl (Val.s (val_fieldAddr rfl)) (by decide +kernel) rfl rfl ?_
        (apply dr_stab 6; (· exact rfl); (· exact rfl); (· apply ValAt.s; (first | (apply val_load; (· exact rfl); (· apply cell_of_has; (· (repeat (first | exact Has.here | apply Has.there))); (· first | exact rfl))) | fail)); (· decide +kernel); (· exact rfl); (· exact rfl))
        refine dr_stab 7 rfl rfl (Val.s (val_conv rfl (by simp only [kLo, kHi]; omega))) (by decide +kernel) rfl rfl ?_
        refine dr_stab 8 rfl rfl (Val.s (val_move rfl)) (by decide +kernel) rfl rfl ?_
        refine dr_stab 9 rfl rfl (Val.s (val_add rfl rfl (by simp only [kLo, kHi]; omega))) (by decide +kernel) rfl rfl ?_
        refine dr_stab 10 rfl rfl (Val.s (val_cmp_f rfl rfl rfl (by first | (simp only [cmpP]; done) | (simp only [cmpP]; omega)))) (by decide +kernel) rfl rfl ?_
        refine dr_stab 11 rfl rfl (Val.s (val_assign rfl)) (by decide +kernel) rfl rfl ?_
        (refine dr_done (by decide +kernel) (by (apply le_of_picks; (repeat (first | exact Picks.nil | (apply Picks.cons; (· (repeat (first | exact Pick.here | apply Pick.there)))) | apply Picks.empty)))) ?_)
        refine fin_code ?_
        refine run_ret ?_
        refine fin_ret1 rfl rfl ?_
        intro w' g
        exact hR _ _ (post_of g () trivial rfl (by (apply le_of_picks; (repeat (first | exact Picks.nil | (apply Picks.cons; (· (repeat (first | exact Pick.here | apply Pick.there)))) | apply Picks.empty)))))
  · simp only [if_neg hlt] at hR
    refine fin_code ?_
    refine run_seq ?_
    refine run_drawS [[⟨p, .cells #[.int .u32 so, .int .u8 sd, .bool st] 87 (0, 0)⟩], [⟨q, .cells #[.int .u32 oo, .int .u8 od, .bool ot] 87 (0, 0)⟩]] (by kernel_rfl) ?_
    refine dr_stab 0 rfl rfl (Val.s (val_move rfl)) (by decide +kernel) rfl rfl ?_
    refine dr_stab 1 rfl rfl (Val.s (val_nilCheck rfl)) (by decide +kernel) rfl rfl ?_
    refine dr_stab 2 rfl rfl (Val.s (val_fieldAddr rfl)) (by decide +kernel) rfl rfl ?_
    (apply dr_stab 3; (· exact rfl); (· exact rfl); (· apply ValAt.s; (first | (apply val_load; (· exact rfl); (· apply cell_of_has; (· (repeat (first | exact Has.here | apply Has.there))); (· first | exact rfl))) | fail)); (· decide +kernel); (· exact rfl); (· exact rfl))
    refine dr_stab 4 rfl rfl (Val.s (val_fieldAddr rfl)) (by decide +kernel) rfl rfl ?_
    (apply dr_stab 5; (· exact rfl); (· exact rfl); (· apply ValAt.s; (first | (apply val_load; (· exact rfl); (· apply cell_of_has; (· (repeat (first | exact Has.here | apply Has.there))); (· first | exact rfl))) | fail)); (· decide +kernel); (· exact rfl); (· exact rfl))
    refine dr_stab 6 rfl rfl (Val.s (val_sub rfl rfl (by simp only [kLo, kHi]; omega))) (by decide +kernel) rfl rfl ?_
    refine dr_stab 7 rfl rfl (Val.s (val_assign rfl)) (by decide +kernel) rfl rfl ?_
    (refine dr_done (by decide +kernel) (by (apply le_of_picks; (repeat (first | exact Picks.nil | (apply Picks.cons; (· (repeat (first | exact Pick.here | apply Pick.there)))) | apply Picks.empty)))) ?_)
    refine fin_code ?_
    refine run_seq ?_
    refine run_seq ?_
    refine run_drawS [[⟨p, .cells #[.int .u32 so, .int .u8 sd, .bool st] 87 (0, 0)⟩], [⟨q, .cells #[.int .u32 oo, .int .u8 od, .bool ot] 87 (0, 0)⟩]] (by kernel_rfl) ?_
    refine dr_stab 0 rfl rfl (Val.s (val_move rfl)) (by decide +kernel) rfl rfl ?_
    refine dr_stab 1 rfl rfl (Val.s (val_nilCheck rfl)) (by decide +kernel) rfl rfl ?_
    refine dr_stab 2 rfl rfl (Val.s (val_fieldAddr rfl)) (by decide +kernel) rfl rfl ?_
    (apply dr_stab 3; (· exact rfl); (· exact rfl); (· apply ValAt.s; (first | (apply val_load; (· exact rfl); (· apply cell_of_has; (· (repeat (first | exact Has.here | apply Has.there))); (· first | exact rfl))) | fail)); (· decide +kernel); (· exact rfl); (· exact rfl))
    refine dr_stab 4 rfl rfl (Val.s (val_fieldAddr rfl)) (by decide +kernel) rfl rfl ?_
    (apply dr_stab 5; (· exact rfl); (· exact rfl); (· apply ValAt.s; (first | (apply val_load; (· exact rfl); (· apply cell_of_has; (· (repeat (first | exact Has.here | apply Has.there))); (· first | exact rfl))) | fail)); (· decide +kernel); (· exact rfl); (· exact rfl))
    refine dr_stab 6 rfl rfl (Val.s (val_cmp_f rfl rfl rfl (by first | (simp only [cmpP]; done) | (simp only [cmpP]; omega)))) (by decide +kernel) rfl rfl ?_
    (refine dr_done (by decide +kernel) (by (apply le_of_picks; (repeat (first | exact Picks.nil | (apply Picks.cons; (· (repeat (first | exact Pick.here | apply Pick.there)))) | apply Picks.empty)))) ?_)
    cases b with
    | true =>
      simp only [if_true] at hR
      by_cases hc : sd + (so - oo) ≤ od
      · rw [decide_eq_true hc] at hR
        refine fin_code ?_
        refine run_cond_f rfl ?_
        refine run_skip ?_
        refine fin_code ?_
        refine run_seq ?_
        refine run_seq ?_
        refine run_region rfl ?_
        refine op_move rfl rfl ?_
        refine ops_nil ?_
        refine fin_code ?_
        refine run_cond_t rfl ?_
        refine run_seq ?_
        refine run_drawS [[⟨p, .cells #[.int .u32 so, .int .u8 sd, .bool st] 87 (0, 0)⟩], [⟨q, .cells #[.int .u32 oo, .int .u8 od, .bool ot] 87 (0, 0)⟩]] (by kernel_rfl) ?_
        refine dr_stab 0 rfl rfl (Val.s (val_fieldAddr rfl)) (by decide +kernel) rfl rfl ?_
        (apply dr_stab 1; (· exact rfl); (· exact rfl); (· apply ValAt.s; (first | (apply val_load; (· exact rfl); (· apply cell_of_has; (· (repeat (first | exact Has.here | apply Has.there))); (· first | exact rfl))) | fail)); (· decide +kernel); (· exact rfl); (· exact rfl))
        refine dr_stab 2 rfl rfl (Val.s (val_conv rfl (by simp only [kLo, kHi]; omega))) (by decide +kernel) rfl rfl ?_
        refine dr_stab 3 rfl rfl (Val.s (val_move rfl)) (by decide +kernel) rfl rfl ?_
        refine dr_stab 4 rfl rfl (Val.s (val_nilCheck rfl)) (by decide +kernel) rfl rfl ?_
        refine dr_stab 5 rfl rfl (Val.s (val_fieldAddr rfl)) (by decide +kernel) rfl rfl ?_
        (apply dr_stab 6; (· exact rfl); (· exact rfl); (· apply ValAt.s; (first | (apply val_load; (· exact rfl); (· apply cell_of_has; (· (repeat (first | exact Has.here | apply Has.there))); (· first | exact rfl))) | fail)); (· decide +kernel); (· exact rfl); (· exact rfl))
        refine dr_stab 7 rfl rfl (Val.s (val_conv rfl (by simp only [kLo, kHi]; omega))) (by decide +kernel) rfl rfl ?_
        refine dr_stab 8 rfl rfl (Val.s (val_move rfl)) (by decide +kernel) rfl rfl ?_
        refine dr_stab 9 rfl rfl (Val.s (val_add rfl rfl (by simp only [kLo, kHi]; omega))) (by decide +kernel) rfl rfl ?_
        refine dr_stab 10 rfl rfl (Val.s (val_cmp_t rfl rfl rfl (by first | (simp only [cmpP]; done) | (simp only [cmpP]; omega)))) (by decide +kernel) rfl rfl ?_
        refine dr_stab 11 rfl rfl (Val.s (val_assign rfl)) (by decide +kernel) rfl rfl ?_
        (refine dr_done (by decide +kernel) (by (apply le_of_picks; (repeat (first | exact Picks.nil | (apply Picks.cons; (· (repeat (first | exact Pick.here | apply Pick.there)))) | apply Picks.empty)))) ?_)
        refine fin_code ?_
        refine run_ret ?_
        refine fin_ret_code ?_
        refine fin_ret1 rfl rfl ?_
        intro w' g
        exact hR _ _ (post_of g () trivial rfl (by (apply le_of_picks; (repeat (first | exact Picks.nil | (apply Picks.cons; (· (repeat (first | exact Pick.here | apply Pick.there)))) | apply Picks.empty)))))
      · rw [decide_eq_false hc] at hR
        refine fin_code ?_
        refine run_cond_f rfl ?_
        refine run_skip ?_
        refine fin_code ?_
        refine run_seq ?_
        refine run_seq ?_
        refine run_region rfl ?_
        refine op_move rfl rfl ?_
        refine ops_nil ?_
        refine fin_code ?_
        refine run_cond_t rfl ?_
        refine run_seq ?_
        refine run_drawS [[⟨p, .cells #[.int .u32 so, .int .u8 sd, .bool st] 87 (0, 0)⟩], [⟨q, .cells #[.int .u32 oo, .int .u8 od, .bool ot] 87 (0, 0)⟩]] (by kernel_rfl) ?_
        refine dr_stab 0 rfl rfl (Val.s (val_fieldAddr rfl)) (by decide +kernel) rfl rfl ?_
        (apply dr_stab 1; (· exact rfl); (· exact rfl); (· apply ValAt.s; (first | (apply val_load; (· exact rfl); (· apply cell_of_has; (· (repeat (first | exact Has.here | apply Has.there))); (· first | exact rfl))) | fail)); (· decide +kernel); (· exact rfl); (· exact rfl))
        refine dr_stab 2 rfl rfl (Val.s (val_conv rfl (by simp only [kLo, kHi]; omega))) (by decide +kernel) rfl rfl ?_
        refine dr_stab 3 rfl rfl (Val.s (val_move rfl)) (by decide +kernel) rfl rfl ?_
        refine dr_stab 4 rfl rfl (Val.s (val_nilCheck rfl)) (by decide +kernel) rfl rfl ?_
        refine dr_stab 5 rfl rfl (Val.s (val_fieldAddr rfl)) (by decide +kernel) rfl rfl ?_
        (apply dr_stab 6; (· exact rfl); (· exact rfl); (· apply ValAt.s; (first | (apply val_load; (· exact rfl); (· apply cell_of_has; (· (repeat (first | exact Has.here | apply Has.there))); (· first | exact rfl))) | fail)); (· decide +kernel); (· exact rfl); (· exact rfl))
        refine dr_stab 7 rfl rfl (Val.s (val_conv rfl (by simp only [kLo, kHi]; omega))) (by decide +kernel) rfl rfl ?_
        refine dr_stab 8 rfl rfl (Val.s (val_move rfl)) (by decide +kernel) rfl rfl ?_
        refine dr_stab 9 rfl rfl (Val.s (val_add rfl rfl (by simp only [kLo, kHi]; omega))) (by decide +kernel) rfl rfl ?_
        refine dr_stab 10 rfl rfl (Val.s (val_cmp_f rfl rfl rfl (by first | (simp only [cmpP]; done) | (simp only [cmpP]; omega)))) (by decide +kernel) rfl rfl ?_
        refine dr_stab 11 rfl rfl (Val.s (val_assign rfl)) (by decide +kernel) rfl rfl ?_
        (refine dr_done (by decide +kernel) (by (apply le_of_picks; (repeat (first | exact Picks.nil | (apply Picks.cons; (· (repeat (first | exact Pick.here | apply Pick.there)))) | apply Picks.empty)))) ?_)
        refine fin_code ?_
        refine run_ret ?_
        refine fin_ret_code ?_
        refine fin_ret1 rfl rfl ?_
        intro w' g
        exact hR _ _ (post_of g () trivial rfl (by (apply le_of_picks; (repeat (first | exact Picks.nil | (apply Picks.cons; (· (repeat (first | exact Pick.here | apply Pick.there)))) | apply Picks.empty)))))
    | false =>
      simp only [if_false, Bool.false_eq_true] at hR
      by_cases hc : sd + (so - oo) < od
      · rw [decide_eq_true hc] at hR
        refine fin_code ?_
        refine run_cond_f rfl ?_
        refine run_skip ?_
        refine fin_code ?_
        refine run_seq ?_
        refine run_seq ?_
        refine run_region rfl ?_
        refine op_move rfl rfl ?_
        refine ops_nil ?_
        refine fin_code ?_
        refine run_cond_f rfl ?_
        refine run_skip ?_
        refine fin_code ?_
        refine run_seq ?_
        refine run_drawS [[⟨p, .cells #[.int .u32 so, .int .u8 sd, .bool st] 87 (0, 0)⟩], [⟨q, .cells #[.int .u32 oo, .int .u8 od, .bool ot] 87 (0, 0)⟩]] (by kernel_rfl) ?_
        refine dr_stab 0 rfl rfl (Val.s (val_fieldAddr rfl)) (by decide +kernel) rfl rfl ?_
        (apply dr_stab 1; (· exact rfl); (· exact rfl); (· apply ValAt.s; (first | (apply val_load; (· exact rfl); (· apply cell_of_has; (· (repeat (first | exact Has.here | apply Has.there))); (· first | exact rfl))) | fail)); (· decide +kernel); (· exact rfl); (· exact rfl))
        refine dr_stab 2 rfl rfl (Val.s (val_conv rfl (by simp only [kLo, kHi]; omega))) (by decide +kernel) rfl rfl ?_
        refine dr_stab 3 rfl rfl (Val.s (val_move rfl)) (by decide +kernel) rfl rfl ?_
        refine dr_stab 4 rfl rfl (Val.s (val_nilCheck rfl)) (by decide +kernel) rfl rfl ?_
        refine dr_stab 5 rfl rfl (Val.s (val_fieldAddr rfl)) (by decide +kernel) rfl rfl ?_
        (apply dr_stab 6; (· exact rfl); (· exact rfl); (· apply ValAt.s; (first | (apply val_load; (· exact rfl); (· apply cell_of_has; (· (repeat (first | exact Has.here | apply Has.there))); (· first | exact rfl))) | fail)); (· decide +kernel); (· exact rfl); (· exact rfl))
        refine dr_stab 7 rfl rfl (Val.s (val_conv rfl (by simp only [kLo, kHi]; omega))) (by decide +kernel) rfl rfl ?_
        refine dr_stab 8 rfl rfl (Val.s (val_move rfl)) (by decide +kernel) rfl rfl ?_
        refine dr_stab 9 rfl rfl (Val.s (val_add rfl rfl (by simp only [kLo, kHi]; omega))) (by decide +kernel) rfl rfl ?_
        refine dr_stab 10 rfl rfl (Val.s (val_cmp_t rfl rfl rfl (by first | (simp only [cmpP]; done) | (simp only [cmpP]; omega)))) (by decide +kernel) rfl rfl ?_
        refine dr_stab 11 rfl rfl (Val.s (val_assign rfl)) (by decide +kernel) rfl rfl ?_
        (refine dr_done (by decide +kernel) (by (apply le_of_picks; (repeat (first | exact Picks.nil | (apply Picks.cons; (· (repeat (first | exact Pick.here | apply Pick.there)))) | apply Picks.empty)))) ?_)
        refine fin_code ?_
        refine run_ret ?_
        refine fin_ret1 rfl rfl ?_
        intro w' g
        exact hR _ _ (post_of g () trivial rfl (by (apply le_of_picks; (repeat (first | exact Picks.nil | (apply Picks.cons; (· (repeat (first | exact Pick.here | apply Pick.there)))) | apply Picks.empty)))))
      · rw [decide_eq_false hc] at hR
        refine fin_code ?_
        refine run_cond_f rfl ?_
        refine run_skip ?_
        refine fin_code ?_
        refine run_seq ?_
        refine run_seq ?_
        refine run_region rfl ?_
        refine op_move rfl rfl ?_
        refine ops_nil ?_
        refine fin_code ?_
        refine run_cond_f rfl ?_
        refine run_skip ?_
        refine fin_code ?_
        refine run_seq ?_
        refine run_drawS [[⟨p, .cells #[.int .u32 so, .int .u8 sd, .bool st] 87 (0, 0)⟩], [⟨q, .cells #[.int .u32 oo, .int .u8 od, .bool ot] 87 (0, 0)⟩]] (by kernel_rfl) ?_
        refine dr_stab 0 rfl rfl (Val.s (val_fieldAddr rfl)) (by decide +kernel) rfl rfl ?_
        (apply dr_stab 1; (· exact rfl); (· exact rfl); (· apply ValAt.s; (first | (apply val_load; (· exact rfl); (· apply cell_of_has; (· (repeat (first | exact Has.here | apply Has.there))); (· first | exact rfl))) | fail)); (· decide +kernel); (· exact rfl); (· exact rfl))
        refine dr_stab 2 rfl rfl (Val.s (val_conv rfl (by simp only [kLo, kHi]; omega))) (by decide +kernel) rfl rfl ?_
        refine dr_stab 3 rfl rfl (Val.s (val_move rfl)) (by decide +kernel) rfl rfl ?_
        refine dr_stab 4 rfl rfl (Val.s (val_nilCheck rfl)) (by decide +kernel) rfl rfl ?_
        refine dr_stab 5 rfl rfl (Val.s (val_fieldAddr rfl)) (by decide +kernel) rfl rfl ?_
        (apply dr_stab 6; (· exact rfl); (· exact rfl); (· apply ValAt.s; (first | (apply val_load; (· exact rfl); (· apply cell_of_has; (· (repeat (first | exact Has.here | apply Has.there))); (· first | exact rfl))) | fail)); (· decide +kernel); (· exact rfl); (· exact rfl))
        refine dr_stab 7 rfl rfl (Val.s (val_conv rfl (by simp only [kLo, kHi]; omega))) (by decide +kernel) rfl rfl ?_
        refine dr_stab 8 rfl rfl (Val.s (val_move rfl)) (by decide +kernel) rfl rfl ?_
        refine dr_stab 9 rfl rfl (Val.s (val_add rfl rfl (by simp only [kLo, kHi]; omega))) (by decide +kernel) rfl rfl ?_
        refine dr_stab 10 rfl rfl (Val.s (val_cmp_f rfl rfl rfl (by first | (simp only [cmpP]; done) | (simp only [cmpP]; omega)))) (by decide +kernel) rfl rfl ?_
        refine dr_stab 11 rfl rfl (Val.s (val_assign rfl)) (by decide +kernel) rfl rfl ?_
        (refine dr_done (by decide +kernel) (by (apply le_of_picks; (repeat (first | exact Picks.nil | (apply Picks.cons; (· (repeat (first | exact Pick.here | apply Pick.there)))) | apply Picks.empty)))) ?_)
        refine fin_code ?_
        refine run_ret ?_
        refine fin_ret1 rfl rfl ?_
        intro w' g
        exact hR _ _ (post_of g () trivial rfl (by (apply le_of_picks; (repeat (first | exact Picks.nil | (apply Picks.cons; (· (repeat (first | exact Pick.here | apply Pick.there)))) | apply Picks.empty)))))
set_option maxRecDepth 100000 in
set_option maxHeartbeats 8000000 in
theorem xbit_any (w : World) (x i : Nat) (hx : x < 18446744073709551616) (hi : i ≤ 63) :
    Calls Tryd.prog 41 #[.int .u64 x, .int .u8 i] w (Post w ([] : List Hp).flatten (fun _ : Unit => .bool (bitN x i)) (fun _ => ([] : List Hp).flatten) (fun _ => True)) := by
  refine enter [] Tryd.func41 rfl rfl (At.nil w) (Le.refl _) ?_
  intro R hR
  unfold bitN at hR
  have hsh : ((x : Nat) : Int).fdiv (2 ^ (min ((i : Nat) : Int).toNat IntKind.u64.bits)) = ((x / 2 ^ i : Nat) : Int) := by
    rw [Int.toNat_natCast, show min i IntKind.u64.bits = i by simp [IntKind.bits]; omega, Int.fdiv_eq_ediv_of_nonneg _ (by exact Int.le_of_lt (Int.pow_pos (by omega)))]
    rw [Int.natCast_ediv, Int.natCast_pow]
    rfl
  have hle : x / 2 ^ i ≤ x := Nat.div_le_self _ _
  generalize x / 2 ^ i = y at *
  have hand : bitop .and .u64 (y : Int) 1 = ((y % 2 : Nat) : Int) := by
    have h := u64_and (UInt64.ofNat y) 1 (by omega)
    rw [show (UInt64.ofNat y).toNat = y by rw [UInt64.toNat_ofNat']; omega, Nat.and_one_is_mod] at h
    exact h
  by_cases h1 : y % 2 = 1
  · rw [decide_eq_true h1] at hR
    refine run_seq ?_
    refine run_region rfl ?_
    refine op_assign rfl rfl ?_
    refine ops_nil ?_
    refine fin_code ?_
    refine run_seq ?_
    refine run_region rfl ?_
    refine op_move rfl rfl ?_
    refine op_move rfl rfl ?_
    (refine op_shrE rfl rfl rfl (by omega) (by assumption) ?_)
    refine op_assign rfl rfl ?_
    refine ops_nil ?_
    refine fin_code ?_
    refine run_seq ?_
    refine run_region rfl ?_
    refine op_move rfl rfl ?_
    (refine op_bitsE rfl rfl rfl rfl (by assumption) ?_)
    refine op_assign rfl rfl ?_
    refine ops_nil ?_
    refine fin_code ?_
    refine run_seq ?_
    refine run_region rfl ?_
    refine op_move rfl rfl ?_
    refine op_cmp_t rfl rfl rfl rfl (by first | (simp only [cmpP]; done) | (simp only [cmpP]; omega)) ?_
    refine op_assign rfl rfl ?_
    refine ops_nil ?_
    refine fin_code ?_
    refine run_ret ?_
    refine fin_ret1 rfl rfl ?_
    intro w' g
    exact hR _ _ (post_of g () trivial rfl (by (apply le_of_picks; (repeat (first | exact Picks.nil | (apply Picks.cons; (· (repeat (first | exact Pick.here | apply Pick.there)))) | apply Picks.empty)))))
  · rw [decide_eq_false h1] at hR
    refine run_seq ?_
    refine run_region rfl ?_
    refine op_assign rfl rfl ?_
    refine ops_nil ?_
    refine fin_code ?_
    refine run_seq ?_
    refine run_region rfl ?_
    refine op_move rfl rfl ?_
    refine op_move rfl rfl ?_
    (refine op_shrE rfl rfl rfl (by omega) (by assumption) ?_)
    refine op_assign rfl rfl ?_
    refine ops_nil ?_
    refine fin_code ?_
    refine run_seq ?_
    refine run_region rfl ?_
    refine op_move rfl rfl ?_
    (refine op_bitsE rfl rfl rfl rfl (by assumption) ?_)
    refine op_assign rfl rfl ?_
    refine ops_nil ?_
    refine fin_code ?_
    refine run_seq ?_
    refine run_region rfl ?_
    refine op_move rfl rfl ?_
    refine op_cmp_f rfl rfl rfl rfl (by first | (simp only [cmpP]; done) | (simp only [cmpP]; omega)) ?_
    refine op_assign rfl rfl ?_
    refine ops_nil ?_
    refine fin_code ?_
    refine run_ret ?_
    refine fin_ret1 rfl rfl ?_
    intro w' g
    exact hR _ _ (post_of g () trivial rfl (by (apply le_of_picks; (repeat (first | exact Picks.nil | (apply Picks.cons; (· (repeat (first | exact Pick.here | apply Pick.there)))) | apply Picks.empty)))))
end Go.Proofs.Eng
