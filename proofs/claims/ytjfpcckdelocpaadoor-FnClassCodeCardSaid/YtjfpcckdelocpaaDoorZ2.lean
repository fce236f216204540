/- A part of the proof: what functions of the program do, step by step. -/
import Derived.Test.YtjfpcckdelocpaaDoorZ1
set_option linter.unusedVariables false
set_option linter.unusedSimpArgs false
namespace Go.Proofs.Eng
open Go.RowKit
theorem u2_one (a b : Int) : ∀ v ∈ (#[Value.int .u8 a, .int .u8 b]).toList, v.oneCell' = true := by
  intro v hv
  simp at hv
  rcases hv with rfl | rfl <;> rfl
theorem op_convE {C : Ctx} {ks : List Kont} {E : Env} {Ls : List Hp} {ops : Array Oper} {rest : List Oper} {ty : Nat} {pos : String} {af : Array Edge} {d : Nat} {x : Operand} {s e : Nat} {ik ik' : IntKind} {m r : Int} [c : TInt C.P e ik'] [c' : TInt C.P s ik] (hn : Nat.blt d C.fn.ntmps = true) (hx : ev E x = some (.int ik m)) (hr : ik'.wrap m = r) (k : Ops C ops rest ks ((d, .int ik' r) :: E) Ls) : Ops C ops (⟨some d, .convert s e x, ty, pos, af, none⟩ :: rest) ks E Ls := by
  subst hr; exact op_convw (hn := hn) hx k
theorem op_shrE {C : Ctx} {ks : List Kont} {E : Env} {Ls : List Hp} {ops : Array Oper} {rest : List Oper} {ty : Nat} {pos : String} {af : Array Edge} {d : Nat} {bt bt' : Nat} {x y : Operand} {ik yk : IntKind} {m n r : Int} (hn : Nat.blt d C.fn.ntmps = true) (hx : ev E x = some (.int ik m)) (hy : ev E y = some (.int yk n)) (h : 0 ≤ n) (hr : m.fdiv (2 ^ (min n.toNat ik.bits)) = r) (k : Ops C ops rest ks ((d, .int ik r) :: E) Ls) : Ops C ops (⟨some d, .binOp .shr bt x y bt', ty, pos, af, none⟩ :: rest) ks E Ls := by
  subst hr; exact op_shr (hn := hn) hx hy h k
set_option maxRecDepth 100000 in
set_option maxHeartbeats 1000000 in
theorem split_yes (w : World) (q s e : Nat) (hgl : RdB w w.heap.size 5 (r2 (65535, 0))) (hrn : RdB w w.heap.size q (r2 (s, e))) (h1 : s < 57344) (h2 : 55295 < e) :
    Calls Tryd.prog 42 #[.pointer (some ⟨q, 0, none⟩)] w (Post w ([] : List Hp).flatten (fun _ : Unit => .tuple #[.agg (r2 (s, 55295)).toArray, .agg (r2 (57344, e)).toArray]) (fun _ => ([] : List Hp).flatten) (fun _ => True)) := by
  refine enter [] Tryd.func42 rfl rfl (At.nil w) (Le.refl _) ?_
  intro R hR
  refine run_seq ?_
  refine run_region rfl ?_
  (refine op_alloc rfl ?_; intro _ _)
  (refine op_alloc rfl ?_; intro _ _)
  refine ops_nil ?_
  refine fin_code ?_
  refine run_seq ?_
  refine run_seq ?_
  refine run_region rfl ?_
  refine op_move rfl rfl ?_
  refine op_nilCheck rfl rfl ?_
  refine op_fieldAddr rfl rfl ?_
  (apply op_load; (· exact rfl); (· exact rfl); (· exact RdB.cell hrn (by simp [ids]) rfl))
  refine op_cmp_t rfl rfl rfl rfl (by first | (simp only [cmpP]; done) | (simp only [cmpP]; omega)) ?_
  refine op_move rfl rfl ?_
  refine ops_guard_yes rfl rfl rfl ?_
  refine op_move rfl rfl ?_
  refine ops_guard_yes rfl rfl rfl ?_
  refine op_nilCheck rfl rfl ?_
  refine ops_guard_yes rfl rfl rfl ?_
  refine op_fieldAddr rfl rfl ?_
  refine ops_guard_yes rfl rfl rfl ?_
  (apply op_load; (· exact rfl); (· exact rfl); (· exact RdB.cell hrn (by simp [ids]) rfl))
  refine ops_guard_yes rfl rfl rfl ?_
  refine op_cmp_t rfl rfl rfl rfl (by first | (simp only [cmpP]; done) | (simp only [cmpP]; omega)) ?_
  refine op_pick_t rfl rfl rfl ?_
  refine ops_nil ?_
  refine fin_code ?_
  refine run_cond_t rfl ?_
  refine run_seq ?_
  refine run_drawS [] (by kernel_rfl) ?_
  refine dr_stab 0 rfl rfl (Val.s (val_move rfl)) (by decide +kernel) rfl rfl ?_
  refine dr_stab 1 rfl rfl (Val.s (val_nilCheck rfl)) (by decide +kernel) rfl rfl ?_
  refine dr_stab 2 rfl rfl (Val.s (val_fieldAddr rfl)) (by decide +kernel) rfl rfl ?_
  (apply dr_stab 3; (· exact rfl); (· exact rfl); (· apply ValAt.s; (first | (apply val_load; (· exact rfl); (· apply cell_of_has; (· (repeat (first | exact Has.here | apply Has.there))); (· first | exact rfl | exact nats_get _ _ _ (by omega)))) | (apply val_load; (· exact rfl); (· exact RdB.cell hrn (by simp [ids]) rfl)) | exact val_loadA rfl (show (r2 (65535, 0)).length = 2 from rfl) (fun j v hv => by rw [Nat.zero_add]; exact RdB.cell hgl (by simp [ids]) hv))); (· decide +kernel); (· exact rfl); (· exact rfl))
  refine dr_stab 4 rfl rfl (Val.s (val_build rfl rfl (ones rfl) rfl)) (by decide +kernel) rfl rfl ?_
  refine dr_stab 5 rfl rfl (Val.s (val_move rfl)) (by decide +kernel) rfl rfl ?_
  refine dr_stab 6 rfl rfl (Val.s (val_nilCheck rfl)) (by decide +kernel) rfl rfl ?_
  refine dr_stab 7 rfl rfl (Val.s (val_fieldAddr rfl)) (by decide +kernel) rfl rfl ?_
  (apply dr_stab 8; (· exact rfl); (· exact rfl); (· apply ValAt.s; (first | (apply val_load; (· exact rfl); (· apply cell_of_has; (· (repeat (first | exact Has.here | apply Has.there))); (· first | exact rfl | exact nats_get _ _ _ (by omega)))) | (apply val_load; (· exact rfl); (· exact RdB.cell hrn (by simp [ids]) rfl)) | exact val_loadA rfl (show (r2 (65535, 0)).length = 2 from rfl) (fun j v hv => by rw [Nat.zero_add]; exact RdB.cell hgl (by simp [ids]) hv))); (· decide +kernel); (· exact rfl); (· exact rfl))
  refine dr_stab 9 rfl rfl (Val.s (val_build rfl rfl (ones rfl) rfl)) (by decide +kernel) rfl rfl ?_
  (refine dr_one 10 rfl (by decide +kernel) (by (apply le_of_picks; (repeat (first | exact Picks.nil | (apply Picks.cons; (· (repeat (first | exact Pick.here | apply Pick.there)))) | apply Picks.empty)))) ?_)
  (apply op_storeAll; (· exact rfl); (· exact rfl); (· exact rfl); (· first | exact r2_one _ _ | exact u2_one _ _); (· (repeat (first | exact Swap.here | apply Swap.there))); (· exact rfl))
  refine ops_nil ?_
  refine fin_draw ?_
  (refine dr_one 11 rfl (by decide +kernel) (by (apply le_of_picks; (repeat (first | exact Picks.nil | (apply Picks.cons; (· (repeat (first | exact Pick.here | apply Pick.there)))) | apply Picks.empty)))) ?_)
  (apply op_storeAll; (· exact rfl); (· exact rfl); (· exact rfl); (· first | exact r2_one _ _ | exact u2_one _ _); (· (repeat (first | exact Swap.here | apply Swap.there))); (· exact rfl))
  refine ops_nil ?_
  refine fin_draw ?_
  (refine dr_done (by decide +kernel) (by (apply le_of_picks; (repeat (first | exact Picks.nil | (apply Picks.cons; (· (repeat (first | exact Pick.here | apply Pick.there)))) | apply Picks.empty)))) ?_)
  refine fin_code ?_
  refine run_ret ?_
  refine fin_ret_code ?_
  refine fin_retCC (n := 2) (n' := 2) rfl rfl rfl (by (repeat (first | exact Has.here | apply Has.there))) rfl (by (repeat (first | exact Has.here | apply Has.there))) rfl ?_
  intro w' g
  exact hR _ _ (post_of g () trivial rfl (by (apply le_of_picks; (repeat (first | exact Picks.nil | (apply Picks.cons; (· (repeat (first | exact Pick.here | apply Pick.there)))) | apply Picks.empty)))))
set_option maxRecDepth 100000 in
set_option maxHeartbeats 1000000 in
theorem split_no (w : World) (q s e : Nat) (hgl : RdB w w.heap.size 5 (r2 (65535, 0))) (hrn : RdB w w.heap.size q (r2 (s, e))) (h : ¬ (s < 57344 ∧ 55295 < e)) :
    Calls Tryd.prog 42 #[.pointer (some ⟨q, 0, none⟩)] w (Post w ([] : List Hp).flatten (fun _ : Unit => .tuple #[.agg (r2 (65535, 0)).toArray, .agg (r2 (65535, 0)).toArray]) (fun _ => ([] : List Hp).flatten) (fun _ => True)) := by
  refine enter [] Tryd.func42 rfl rfl (At.nil w) (Le.refl _) ?_
  intro R hR
  by_cases h1 : s < 57344
  · have h2 : ¬ 55295 < e := fun h2 => h ⟨h1, h2⟩
    refine run_seq ?_
    refine run_region rfl ?_
    (refine op_alloc rfl ?_; intro _ _)
    (refine op_alloc rfl ?_; intro _ _)
    refine ops_nil ?_
    refine fin_code ?_
    refine run_seq ?_
    refine run_seq ?_
    refine run_region rfl ?_
    refine op_move rfl rfl ?_
    refine op_nilCheck rfl rfl ?_
    refine op_fieldAddr rfl rfl ?_
    (apply op_load; (· exact rfl); (· exact rfl); (· exact RdB.cell hrn (by simp [ids]) rfl))
    refine op_cmp_t rfl rfl rfl rfl (by first | (simp only [cmpP]; done) | (simp only [cmpP]; omega)) ?_
    refine op_move rfl rfl ?_
    refine ops_guard_yes rfl rfl rfl ?_
    refine op_move rfl rfl ?_
    refine ops_guard_yes rfl rfl rfl ?_
    refine op_nilCheck rfl rfl ?_
    refine ops_guard_yes rfl rfl rfl ?_
    refine op_fieldAddr rfl rfl ?_
    refine ops_guard_yes rfl rfl rfl ?_
    (apply op_load; (· exact rfl); (· exact rfl); (· exact RdB.cell hrn (by simp [ids]) rfl))
    refine ops_guard_yes rfl rfl rfl ?_
    refine op_cmp_f rfl rfl rfl rfl (by first | (simp only [cmpP]; done) | (simp only [cmpP]; omega)) ?_
    refine op_pick_t rfl rfl rfl ?_
    refine ops_nil ?_
    refine fin_code ?_
    refine run_cond_f rfl ?_
    refine run_skip ?_
    refine fin_code ?_
    refine run_seq ?_
    refine run_drawS [] (by kernel_rfl) ?_
    (apply dr_stab 0; (· exact rfl); (· exact rfl); (· apply ValAt.s; (first | (apply val_load; (· exact rfl); (· apply cell_of_has; (· (repeat (first | exact Has.here | apply Has.there))); (· first | exact rfl | exact nats_get _ _ _ (by omega)))) | (apply val_load; (· exact rfl); (· exact RdB.cell hrn (by simp [ids]) rfl)) | exact val_loadA rfl (show (r2 (65535, 0)).length = 2 from rfl) (fun j v hv => by rw [Nat.zero_add]; exact RdB.cell hgl (by simp [ids]) hv))); (· decide +kernel); (· exact rfl); (· exact rfl))
    (apply dr_stab 1; (· exact rfl); (· exact rfl); (· apply ValAt.s; (first | (apply val_load; (· exact rfl); (· apply cell_of_has; (· (repeat (first | exact Has.here | apply Has.there))); (· first | exact rfl | exact nats_get _ _ _ (by omega)))) | (apply val_load; (· exact rfl); (· exact RdB.cell hrn (by simp [ids]) rfl)) | exact val_loadA rfl (show (r2 (65535, 0)).length = 2 from rfl) (fun j v hv => by rw [Nat.zero_add]; exact RdB.cell hgl (by simp [ids]) hv))); (· decide +kernel); (· exact rfl); (· exact rfl))
    (refine dr_one 2 rfl (by decide +kernel) (by (apply le_of_picks; (repeat (first | exact Picks.nil | (apply Picks.cons; (· (repeat (first | exact Pick.here | apply Pick.there)))) | apply Picks.empty)))) ?_)
    (apply op_storeAll; (· exact rfl); (· exact rfl); (· exact rfl); (· first | exact r2_one _ _ | exact u2_one _ _); (· (repeat (first | exact Swap.here | apply Swap.there))); (· exact rfl))
    refine ops_nil ?_
    refine fin_draw ?_
    (refine dr_one 3 rfl (by decide +kernel) (by (apply le_of_picks; (repeat (first | exact Picks.nil | (apply Picks.cons; (· (repeat (first | exact Pick.here | apply Pick.there)))) | apply Picks.empty)))) ?_)
    (apply op_storeAll; (· exact rfl); (· exact rfl); (· exact rfl); (· first | exact r2_one _ _ | exact u2_one _ _); (· (repeat (first | exact Swap.here | apply Swap.there))); (· exact rfl))
    refine ops_nil ?_
    refine fin_draw ?_
    (refine dr_done (by decide +kernel) (by (apply le_of_picks; (repeat (first | exact Picks.nil | (apply Picks.cons; (· (repeat (first | exact Pick.here | apply Pick.there)))) | apply Picks.empty)))) ?_)
    refine fin_code ?_
    refine run_ret ?_
    refine fin_retCC (n := 2) (n' := 2) rfl rfl rfl (by (repeat (first | exact Has.here | apply Has.there))) rfl (by (repeat (first | exact Has.here | apply Has.there))) rfl ?_
    intro w' g
    exact hR _ _ (post_of g () trivial rfl (by (apply le_of_picks; (repeat (first | exact Picks.nil | (apply Picks.cons; (· (repeat (first | exact Pick.here | apply Pick.there)))) | apply Picks.empty)))))
  · refine run_seq ?_
    refine run_region rfl ?_
    (refine op_alloc rfl ?_; intro _ _)
    (refine op_alloc rfl ?_; intro _ _)
    refine ops_nil ?_
    refine fin_code ?_
    refine run_seq ?_
    refine run_seq ?_
    refine run_region rfl ?_
    refine op_move rfl rfl ?_
    refine op_nilCheck rfl rfl ?_
    refine op_fieldAddr rfl rfl ?_
    (apply op_load; (· exact rfl); (· exact rfl); (· exact RdB.cell hrn (by simp [ids]) rfl))
    refine op_cmp_f rfl rfl rfl rfl (by first | (simp only [cmpP]; done) | (simp only [cmpP]; omega)) ?_
    refine op_move rfl rfl ?_
    refine ops_off1 rfl rfl ?_
    refine ops_off1 rfl rfl ?_
    refine ops_off1 rfl rfl ?_
    refine ops_off1 rfl rfl ?_
    refine ops_off1 rfl rfl ?_
    refine op_pick_f rfl rfl rfl ?_
    refine ops_nil ?_
    refine fin_code ?_
    refine run_cond_f rfl ?_
    refine run_skip ?_
    refine fin_code ?_
    refine run_seq ?_
    refine run_drawS [] (by kernel_rfl) ?_
    (apply dr_stab 0; (· exact rfl); (· exact rfl); (· apply ValAt.s; (first | (apply val_load; (· exact rfl); (· apply cell_of_has; (· (repeat (first | exact Has.here | apply Has.there))); (· first | exact rfl | exact nats_get _ _ _ (by omega)))) | (apply val_load; (· exact rfl); (· exact RdB.cell hrn (by simp [ids]) rfl)) | exact val_loadA rfl (show (r2 (65535, 0)).length = 2 from rfl) (fun j v hv => by rw [Nat.zero_add]; exact RdB.cell hgl (by simp [ids]) hv))); (· decide +kernel); (· exact rfl); (· exact rfl))
    (apply dr_stab 1; (· exact rfl); (· exact rfl); (· apply ValAt.s; (first | (apply val_load; (· exact rfl); (· apply cell_of_has; (· (repeat (first | exact Has.here | apply Has.there))); (· first | exact rfl | exact nats_get _ _ _ (by omega)))) | (apply val_load; (· exact rfl); (· exact RdB.cell hrn (by simp [ids]) rfl)) | exact val_loadA rfl (show (r2 (65535, 0)).length = 2 from rfl) (fun j v hv => by rw [Nat.zero_add]; exact RdB.cell hgl (by simp [ids]) hv))); (· decide +kernel); (· exact rfl); (· exact rfl))
    (refine dr_one 2 rfl (by decide +kernel) (by (apply le_of_picks; (repeat (first | exact Picks.nil | (apply Picks.cons; (· (repeat (first | exact Pick.here | apply Pick.there)))) | apply Picks.empty)))) ?_)
    (apply op_storeAll; (· exact rfl); (· exact rfl); (· exact rfl); (· first | exact r2_one _ _ | exact u2_one _ _); (· (repeat (first | exact Swap.here | apply Swap.there))); (· exact rfl))
    refine ops_nil ?_
    refine fin_draw ?_
    (refine dr_one 3 rfl (by decide +kernel) (by (apply le_of_picks; (repeat (first | exact Picks.nil | (apply Picks.cons; (· (repeat (first | exact Pick.here | apply Pick.there)))) | apply Picks.empty)))) ?_)
    (apply op_storeAll; (· exact rfl); (· exact rfl); (· exact rfl); (· first | exact r2_one _ _ | exact u2_one _ _); (· (repeat (first | exact Swap.here | apply Swap.there))); (· exact rfl))
    refine ops_nil ?_
    refine fin_draw ?_
    (refine dr_done (by decide +kernel) (by (apply le_of_picks; (repeat (first | exact Picks.nil | (apply Picks.cons; (· (repeat (first | exact Pick.here | apply Pick.there)))) | apply Picks.empty)))) ?_)
    refine fin_code ?_
    refine run_ret ?_
    refine fin_retCC (n := 2) (n' := 2) rfl rfl rfl (by (repeat (first | exact Has.here | apply Has.there))) rfl (by (repeat (first | exact Has.here | apply Has.there))) rfl ?_
    intro w' g
    exact hR _ _ (post_of g () trivial rfl (by (apply le_of_picks; (repeat (first | exact Picks.nil | (apply Picks.cons; (· (repeat (first | exact Pick.here | apply Pick.there)))) | apply Picks.empty)))))
set_option maxRecDepth 100000 in
set_option maxHeartbeats 1000000 in
theorem valid_any (w : World) (q s e : Nat) (b : Bool) (hb : decide (s ≤ e) = b) (hrn : RdB w w.heap.size q (r2 (s, e))) :
    Calls Tryd.prog 43 #[.pointer (some ⟨q, 0, none⟩)] w (Post w ([] : List Hp).flatten (fun _ : Unit => .bool b) (fun _ => ([] : List Hp).flatten) (fun _ => True)) := by
  refine enter [] Tryd.func43 rfl rfl (At.nil w) (Le.refl _) ?_
  intro R hR
  by_cases h : s ≤ e
  · obtain rfl : b = true := by rw [← hb]; simp [h]
    refine run_seq ?_
    refine run_region rfl ?_
    refine op_assign rfl rfl ?_
    refine ops_nil ?_
    refine fin_code ?_
    refine run_seq ?_
    refine run_drawS [] (by kernel_rfl) ?_
    refine dr_stab 0 rfl rfl (Val.s (val_move rfl)) (by decide +kernel) rfl rfl ?_
    refine dr_stab 1 rfl rfl (Val.s (val_nilCheck rfl)) (by decide +kernel) rfl rfl ?_
    refine dr_stab 2 rfl rfl (Val.s (val_fieldAddr rfl)) (by decide +kernel) rfl rfl ?_
    (apply dr_stab 3; (· exact rfl); (· exact rfl); (· apply ValAt.s; (first | (apply val_load; (· exact rfl); (· apply cell_of_has; (· (repeat (first | exact Has.here | apply Has.there))); (· first | exact rfl | exact nats_get _ _ _ (by omega)))) | (apply val_load; (· exact rfl); (· exact RdB.cell hrn (by simp [ids]) rfl)) | exact val_loadA rfl (show (r2 (65535, 0)).length = 2 from rfl) (fun j v hv => by rw [Nat.zero_add]; exact RdB.cell hgl (by simp [ids]) hv))); (· decide +kernel); (· exact rfl); (· exact rfl))
    refine dr_stab 4 rfl rfl (Val.s (val_move rfl)) (by decide +kernel) rfl rfl ?_
    refine dr_stab 5 rfl rfl (Val.s (val_nilCheck rfl)) (by decide +kernel) rfl rfl ?_
    refine dr_stab 6 rfl rfl (Val.s (val_fieldAddr rfl)) (by decide +kernel) rfl rfl ?_
    (apply dr_stab 7; (· exact rfl); (· exact rfl); (· apply ValAt.s; (first | (apply val_load; (· exact rfl); (· apply cell_of_has; (· (repeat (first | exact Has.here | apply Has.there))); (· first | exact rfl | exact nats_get _ _ _ (by omega)))) | (apply val_load; (· exact rfl); (· exact RdB.cell hrn (by simp [ids]) rfl)) | exact val_loadA rfl (show (r2 (65535, 0)).length = 2 from rfl) (fun j v hv => by rw [Nat.zero_add]; exact RdB.cell hgl (by simp [ids]) hv))); (· decide +kernel); (· exact rfl); (· exact rfl))
    refine dr_stab 8 rfl rfl (Val.s (val_cmp_t rfl rfl rfl (by first | (simp only [cmpP]; done) | (simp only [cmpP]; omega)))) (by decide +kernel) rfl rfl ?_
    refine dr_stab 9 rfl rfl (Val.s (val_assign rfl)) (by decide +kernel) rfl rfl ?_
    (refine dr_done (by decide +kernel) (by (apply le_of_picks; (repeat (first | exact Picks.nil | (apply Picks.cons; (· (repeat (first | exact Pick.here | apply Pick.there)))) | apply Picks.empty)))) ?_)
    refine fin_code ?_
    refine run_ret ?_
    refine fin_ret1 rfl rfl ?_
    intro w' g
    exact hR _ _ (post_of g () trivial rfl (by (apply le_of_picks; (repeat (first | exact Picks.nil | (apply Picks.cons; (· (repeat (first | exact Pick.here | apply Pick.there)))) | apply Picks.empty)))))
  · obtain rfl : b = false := by rw [← hb]; simp [h]
    refine run_seq ?_
    refine run_region rfl ?_
    refine op_assign rfl rfl ?_
    refine ops_nil ?_
    refine fin_code ?_
    refine run_seq ?_
    refine run_drawS [] (by kernel_rfl) ?_
    refine dr_stab 0 rfl rfl (Val.s (val_move rfl)) (by decide +kernel) rfl rfl ?_
    refine dr_stab 1 rfl rfl (Val.s (val_nilCheck rfl)) (by decide +kernel) rfl rfl ?_
    refine dr_stab 2 rfl rfl (Val.s (val_fieldAddr rfl)) (by decide +kernel) rfl rfl ?_
    (apply dr_stab 3; (· exact rfl); (· exact rfl); (· apply ValAt.s; (first | (apply val_load; (· exact rfl); (· apply cell_of_has; (· (repeat (first | exact Has.here | apply Has.there))); (· first | exact rfl | exact nats_get _ _ _ (by omega)))) | (apply val_load; (· exact rfl); (· exact RdB.cell hrn (by simp [ids]) rfl)) | exact val_loadA rfl (show (r2 (65535, 0)).length = 2 from rfl) (fun j v hv => by rw [Nat.zero_add]; exact RdB.cell hgl (by simp [ids]) hv))); (· decide +kernel); (· exact rfl); (· exact rfl))
    refine dr_stab 4 rfl rfl (Val.s (val_move rfl)) (by decide +kernel) rfl rfl ?_
    refine dr_stab 5 rfl rfl (Val.s (val_nilCheck rfl)) (by decide +kernel) rfl rfl ?_
    refine dr_stab 6 rfl rfl (Val.s (val_fieldAddr rfl)) (by decide +kernel) rfl rfl ?_
    (apply dr_stab 7; (· exact rfl); (· exact rfl); (· apply ValAt.s; (first | (apply val_load; (· exact rfl); (· apply cell_of_has; (· (repeat (first | exact Has.here | apply Has.there))); (· first | exact rfl | exact nats_get _ _ _ (by omega)))) | (apply val_load; (· exact rfl); (· exact RdB.cell hrn (by simp [ids]) rfl)) | exact val_loadA rfl (show (r2 (65535, 0)).length = 2 from rfl) (fun j v hv => by rw [Nat.zero_add]; exact RdB.cell hgl (by simp [ids]) hv))); (· decide +kernel); (· exact rfl); (· exact rfl))
    refine dr_stab 8 rfl rfl (Val.s (val_cmp_f rfl rfl rfl (by first | (simp only [cmpP]; done) | (simp only [cmpP]; omega)))) (by decide +kernel) rfl rfl ?_
    refine dr_stab 9 rfl rfl (Val.s (val_assign rfl)) (by decide +kernel) rfl rfl ?_
    (refine dr_done (by decide +kernel) (by (apply le_of_picks; (repeat (first | exact Picks.nil | (apply Picks.cons; (· (repeat (first | exact Pick.here | apply Pick.there)))) | apply Picks.empty)))) ?_)
    refine fin_code ?_
    refine run_ret ?_
    refine fin_ret1 rfl rfl ?_
    intro w' g
    exact hR _ _ (post_of g () trivial rfl (by (apply le_of_picks; (repeat (first | exact Picks.nil | (apply Picks.cons; (· (repeat (first | exact Pick.here | apply Pick.there)))) | apply Picks.empty)))))
def mxS (n : Nat) : Nat := if n = 1 then 127 else if n = 2 then 2047 else 65535
set_option maxRecDepth 100000 in
theorem maxS_any (w : World) (n : Nat) (h1 : 1 ≤ n) (h2 : n ≤ 3) :
    Calls Tryd.prog 44 #[.int .i64 n] w (Post w ([] : List Hp).flatten (fun _ : Unit => .int .i32 (mxS n)) (fun _ => ([] : List Hp).flatten) (fun _ => True)) := by
  refine enter [] Tryd.func44 rfl rfl (At.nil w) (Le.refl _) ?_
  intro R hR
  have hn : n = 1 ∨ n = 2 ∨ n = 3 := by omega
  rcases hn with rfl | rfl | rfl
  all_goals
    first | (refine run_seq ?_; refine run_region rfl ?_; refine op_assign rfl rfl ?_; refine ops_nil ?_; refine fin_code ?_; refine run_seq ?_; refine run_region rfl ?_; refine op_move rfl rfl ?_; refine ops_nil ?_; refine fin_code ?_; refine run_block ?_; refine run_seq ?_; refine run_region rfl ?_; refine op_cmp_f rfl rfl rfl rfl (by first | (simp only [cmpP]; done) | (simp only [cmpP]; omega)) ?_; refine op_assign rfl rfl ?_; refine ops_nil ?_; refine fin_code ?_; refine run_cond_f rfl ?_; refine run_seq ?_; refine run_region rfl ?_; refine op_cmp_f rfl rfl rfl rfl (by first | (simp only [cmpP]; done) | (simp only [cmpP]; omega)) ?_; refine op_assign rfl rfl ?_; refine ops_nil ?_; refine fin_code ?_; refine run_cond_f rfl ?_; refine run_seq ?_; refine run_region rfl ?_; refine op_cmp_t rfl rfl rfl rfl (by first | (simp only [cmpP]; done) | (simp only [cmpP]; omega)) ?_; refine op_assign rfl rfl ?_; refine ops_nil ?_; refine fin_code ?_; refine run_cond_t rfl ?_; refine run_seq ?_; refine run_region rfl ?_; refine op_assign rfl rfl ?_; refine ops_nil ?_; refine fin_code ?_; refine run_ret ?_; refine fin_ret_block ?_) | (refine run_seq ?_; refine run_region rfl ?_; refine op_assign rfl rfl ?_; refine ops_nil ?_; refine fin_code ?_; refine run_seq ?_; refine run_region rfl ?_; refine op_move rfl rfl ?_; refine ops_nil ?_; refine fin_code ?_; refine run_block ?_; refine run_seq ?_; refine run_region rfl ?_; refine op_cmp_f rfl rfl rfl rfl (by first | (simp only [cmpP]; done) | (simp only [cmpP]; omega)) ?_; refine op_assign rfl rfl ?_; refine ops_nil ?_; refine fin_code ?_; refine run_cond_f rfl ?_; refine run_seq ?_; refine run_region rfl ?_; refine op_cmp_t rfl rfl rfl rfl (by first | (simp only [cmpP]; done) | (simp only [cmpP]; omega)) ?_; refine op_assign rfl rfl ?_; refine ops_nil ?_; refine fin_code ?_; refine run_cond_t rfl ?_; refine run_seq ?_; refine run_region rfl ?_; refine op_assign rfl rfl ?_; refine ops_nil ?_; refine fin_code ?_; refine run_ret ?_; refine fin_ret_block ?_) | (refine run_seq ?_; refine run_region rfl ?_; refine op_assign rfl rfl ?_; refine ops_nil ?_; refine fin_code ?_; refine run_seq ?_; refine run_region rfl ?_; refine op_move rfl rfl ?_; refine ops_nil ?_; refine fin_code ?_; refine run_block ?_; refine run_seq ?_; refine run_region rfl ?_; refine op_cmp_t rfl rfl rfl rfl (by first | (simp only [cmpP]; done) | (simp only [cmpP]; omega)) ?_; refine op_assign rfl rfl ?_; refine ops_nil ?_; refine fin_code ?_; refine run_cond_t rfl ?_; refine run_seq ?_; refine run_region rfl ?_; refine op_assign rfl rfl ?_; refine ops_nil ?_; refine fin_code ?_; refine run_ret ?_; refine fin_ret_block ?_)
    refine fin_ret1 rfl rfl ?_
    intro w' g
    exact hR _ _ (post_of g () trivial rfl (by (apply le_of_picks; (repeat (first | exact Picks.nil | (apply Picks.cons; (· (repeat (first | exact Pick.here | apply Pick.there)))) | apply Picks.empty)))))
set_option maxRecDepth 100000 in
set_option maxHeartbeats 1000000 in
theorem ascii_yes (w : World) (q s e : Nat) (hrn : RdB w w.heap.size q (r2 (s, e))) (h1 : s ≤ e) (h2 : e ≤ 127) :
    Calls Tryd.prog 45 #[.pointer (some ⟨q, 0, none⟩)] w (Post w ([] : List Hp).flatten (fun _ : Unit => .agg #[.int .u8 s, .int .u8 e]) (fun _ => ([] : List Hp).flatten) (fun _ => True)) := by
  refine enter [] Tryd.func45 rfl rfl (At.nil w) (Le.refl _) ?_
  intro R hR
  refine run_seq ?_
  refine run_region rfl ?_
  (refine op_alloc rfl ?_; intro _ _)
  refine ops_nil ?_
  refine fin_code ?_
  refine run_seq ?_
  refine run_seq ?_
  refine run_region rfl ?_
  refine op_move rfl rfl ?_
  ((first | (apply op_call; (· exact rfl)) | apply op_call0); (· exact rfl)); (case' hc => (refine fun w hG hw => valid_any w q s e true (by simp [h1]) ?_)); (case hp => (repeat (first | exact Picks.nil | (apply Picks.cons; (· (repeat (first | exact Pick.here | apply Pick.there)))) | apply Picks.empty)))
  · exact hrn.now hG
  intro _ _
  refine op_move rfl rfl ?_
  refine ops_guard_yes rfl rfl rfl ?_
  refine op_move rfl rfl ?_
  refine ops_guard_yes rfl rfl rfl ?_
  refine op_nilCheck rfl rfl ?_
  refine ops_guard_yes rfl rfl rfl ?_
  refine op_fieldAddr rfl rfl ?_
  refine ops_guard_yes rfl rfl rfl ?_
  (apply op_load; (· exact rfl); (· exact rfl); (· exact RdB.cell hrn (by simp [ids]) rfl))
  refine ops_guard_yes rfl rfl rfl ?_
  refine op_cmp_t rfl rfl rfl rfl (by first | (simp only [cmpP]; done) | (simp only [cmpP]; omega)) ?_
  refine op_pick_t rfl rfl rfl ?_
  refine ops_nil ?_
  refine fin_code ?_
  refine run_cond_t rfl ?_
  refine run_seq ?_
  refine run_drawS [] (by kernel_rfl) ?_
  refine dr_stab 0 rfl rfl (Val.s (val_move rfl)) (by decide +kernel) rfl rfl ?_
  refine dr_stab 1 rfl rfl (Val.s (val_nilCheck rfl)) (by decide +kernel) rfl rfl ?_
  refine dr_stab 2 rfl rfl (Val.s (val_fieldAddr rfl)) (by decide +kernel) rfl rfl ?_
  (apply dr_stab 3; (· exact rfl); (· exact rfl); (· apply ValAt.s; (first | (apply val_load; (· exact rfl); (· apply cell_of_has; (· (repeat (first | exact Has.here | apply Has.there))); (· first | exact rfl | exact nats_get _ _ _ (by omega)))) | (apply val_load; (· exact rfl); (· exact RdB.cell hrn (by simp [ids]) rfl)) | exact val_loadA rfl (show (r2 (65535, 0)).length = 2 from rfl) (fun j v hv => by rw [Nat.zero_add]; exact RdB.cell hgl (by simp [ids]) hv))); (· decide +kernel); (· exact rfl); (· exact rfl))
  refine dr_stab 4 rfl rfl (Val.s (val_conv rfl (by simp only [kLo, kHi]; omega))) (by decide +kernel) rfl rfl ?_
  refine dr_stab 5 rfl rfl (Val.s (val_move rfl)) (by decide +kernel) rfl rfl ?_
  refine dr_stab 6 rfl rfl (Val.s (val_nilCheck rfl)) (by decide +kernel) rfl rfl ?_
  refine dr_stab 7 rfl rfl (Val.s (val_fieldAddr rfl)) (by decide +kernel) rfl rfl ?_
  (apply dr_stab 8; (· exact rfl); (· exact rfl); (· apply ValAt.s; (first | (apply val_load; (· exact rfl); (· apply cell_of_has; (· (repeat (first | exact Has.here | apply Has.there))); (· first | exact rfl | exact nats_get _ _ _ (by omega)))) | (apply val_load; (· exact rfl); (· exact RdB.cell hrn (by simp [ids]) rfl)) | exact val_loadA rfl (show (r2 (65535, 0)).length = 2 from rfl) (fun j v hv => by rw [Nat.zero_add]; exact RdB.cell hgl (by simp [ids]) hv))); (· decide +kernel); (· exact rfl); (· exact rfl))
  refine dr_stab 9 rfl rfl (Val.s (val_conv rfl (by simp only [kLo, kHi]; omega))) (by decide +kernel) rfl rfl ?_
  refine dr_stab 10 rfl rfl (Val.s (val_build rfl rfl (ones rfl) rfl)) (by decide +kernel) rfl rfl ?_
  (refine dr_one 11 rfl (by decide +kernel) (by (apply le_of_picks; (repeat (first | exact Picks.nil | (apply Picks.cons; (· (repeat (first | exact Pick.here | apply Pick.there)))) | apply Picks.empty)))) ?_)
  (apply op_storeAll; (· exact rfl); (· exact rfl); (· exact rfl); (· first | exact r2_one _ _ | exact u2_one _ _); (· (repeat (first | exact Swap.here | apply Swap.there))); (· exact rfl))
  refine ops_nil ?_
  refine fin_draw ?_
  (refine dr_done (by decide +kernel) (by (apply le_of_picks; (repeat (first | exact Picks.nil | (apply Picks.cons; (· (repeat (first | exact Pick.here | apply Pick.there)))) | apply Picks.empty)))) ?_)
  refine fin_code ?_
  refine run_ret ?_
  refine fin_ret_code ?_
  refine fin_retC (n := 2) rfl rfl (by (repeat (first | exact Has.here | apply Has.there))) rfl ?_
  intro w' g
  exact hR _ _ (post_of g () trivial rfl (by (apply le_of_picks; (repeat (first | exact Picks.nil | (apply Picks.cons; (· (repeat (first | exact Pick.here | apply Pick.there)))) | apply Picks.empty)))))
set_option maxRecDepth 100000 in
set_option maxHeartbeats 1000000 in
theorem ascii_no (w : World) (q s e : Nat) (hgl6 : RdB w w.heap.size 6 [.int .u8 255, .int .u8 0]) (hrn : RdB w w.heap.size q (r2 (s, e))) (h1 : s ≤ e) (h2 : ¬ e ≤ 127) :
    Calls Tryd.prog 45 #[.pointer (some ⟨q, 0, none⟩)] w (Post w ([] : List Hp).flatten (fun _ : Unit => .agg #[.int .u8 255, .int .u8 0]) (fun _ => ([] : List Hp).flatten) (fun _ => True)) := by
  refine enter [] Tryd.func45 rfl rfl (At.nil w) (Le.refl _) ?_
  intro R hR
  refine run_seq ?_
  refine run_region rfl ?_
  (refine op_alloc rfl ?_; intro _ _)
  refine ops_nil ?_
  refine fin_code ?_
  refine run_seq ?_
  refine run_seq ?_
  refine run_region rfl ?_
  refine op_move rfl rfl ?_
  ((first | (apply op_call; (· exact rfl)) | apply op_call0); (· exact rfl)); (case' hc => (refine fun w hG hw => valid_any w q s e true (by simp [h1]) ?_)); (case hp => (repeat (first | exact Picks.nil | (apply Picks.cons; (· (repeat (first | exact Pick.here | apply Pick.there)))) | apply Picks.empty)))
  · exact hrn.now hG
  intro _ _
  refine op_move rfl rfl ?_
  refine ops_guard_yes rfl rfl rfl ?_
  refine op_move rfl rfl ?_
  refine ops_guard_yes rfl rfl rfl ?_
  refine op_nilCheck rfl rfl ?_
  refine ops_guard_yes rfl rfl rfl ?_
  refine op_fieldAddr rfl rfl ?_
  refine ops_guard_yes rfl rfl rfl ?_
  (apply op_load; (· exact rfl); (· exact rfl); (· exact RdB.cell hrn (by simp [ids]) rfl))
  refine ops_guard_yes rfl rfl rfl ?_
  refine op_cmp_f rfl rfl rfl rfl (by first | (simp only [cmpP]; done) | (simp only [cmpP]; omega)) ?_
  refine op_pick_t rfl rfl rfl ?_
  refine ops_nil ?_
  refine fin_code ?_
  refine run_cond_f rfl ?_
  refine run_skip ?_
  refine fin_code ?_
  refine run_seq ?_
  refine run_region rfl ?_
  (apply op_loadA; (· exact rfl); (· exact rfl); (· exact (show ([.int .u8 255, .int .u8 0] : List Value).length = 2 from rfl)); (· exact fun j v hv => by rw [Nat.zero_add]; exact RdB.cell hgl6 (by simp [ids]) hv))
  (apply op_storeAll; (· exact rfl); (· exact rfl); (· exact rfl); (· first | exact r2_one _ _ | exact u2_one _ _); (· (repeat (first | exact Swap.here | apply Swap.there))); (· exact rfl))
  refine ops_nil ?_
  refine fin_code ?_
  refine run_ret ?_
  refine fin_retC (n := 2) rfl rfl (by (repeat (first | exact Has.here | apply Has.there))) rfl ?_
  intro w' g
  exact hR _ _ (post_of g () trivial rfl (by (apply le_of_picks; (repeat (first | exact Picks.nil | (apply Picks.cons; (· (repeat (first | exact Pick.here | apply Pick.there)))) | apply Picks.empty)))))
end Go.Proofs.Eng
