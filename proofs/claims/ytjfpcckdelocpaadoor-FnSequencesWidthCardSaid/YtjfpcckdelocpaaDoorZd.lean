/- A part of the proof: what functions of the program do, step by step. -/
import Derived.Test.YtjfpcckdelocpaaDoorZc
set_option linter.unusedVariables false
set_option linter.unusedSimpArgs false
namespace Go.Proofs.Eng
open Go.RowKit
theorem covB_len : ∀ {q : List (Nat × Nat)} {b : List Nat}, covB q b = true → q.length = b.length
  | [], [], _ => rfl
  | p :: q, x :: b, h => by
    simp only [covB, Bool.and_eq_true] at h
    simp [covB_len h.2]
  | [], _ :: _, h => by cases h
  | _ :: _, [], h => by cases h
theorem encQ_at0 {q : List (Nat × Nat)} {i : Nat} (h : i < q.length) : (encQ q)[i * 2]? = some (.int .u8 (q[i].1 : Nat)) := flat_get q2 2 (fun _ => rfl) q i h 0 _ rfl
theorem encQ_at1 {q : List (Nat × Nat)} {i : Nat} (h : i < q.length) : (encQ q)[i * 2 + 1]? = some (.int .u8 (q[i].2 : Nat)) := flat_get q2 2 (fun _ => rfl) q i h 1 _ rfl
theorem u8s_at {b : List Nat} {i : Nat} (h : i < b.length) : (u8s b)[i]? = some (.int .u8 (b[i] : Nat)) := by simp [u8s, h]
theorem u8s_len (b : List Nat) : (u8s b).length = b.length := by simp [u8s]
theorem covB_step {q : List (Nat × Nat)} {b : List Nat} {i : Nat} (h : i < q.length) (h' : i < b.length) : covB (q.drop i) (b.drop i) = (decide (q[i].1 ≤ b[i]) && decide (b[i] ≤ q[i].2) && covB (q.drop (i + 1)) (b.drop (i + 1))) := by
  rw [List.drop_eq_getElem_cons h, List.drop_eq_getElem_cons h']; rfl
set_option maxRecDepth 100000 in
set_option maxHeartbeats 4000000 in
theorem covers_any (w0 : World) (A B : Option Addr) (q : List (Nat × Nat)) (b : List Nat) (c1 c2 : Nat) (v : Bool) (hv : covB q b = v) (hl : q.length ≤ maxLen) (hrq : Rd w0 w0.heap.size A (encQ q)) (hrb : Rd w0 w0.heap.size B (u8s b)) :
    Calls Tryd.prog 26 #[.slice A q.length c1, .slice B b.length c2] w0 (Post w0 ([] : List Hp).flatten (fun _ : Unit => .bool v) (fun _ => ([] : List Hp).flatten) (fun _ => True)) := by
  refine enter [] Tryd.func26 rfl rfl (At.nil w0) (Le.refl _) ?_
  intro R hR
  simp only [maxLen] at hl
  by_cases hlb : q.length = b.length
  rotate_left 1
  · have : v = false := by
      cases v with
      | false => rfl
      | true => exact absurd (covB_len hv) hlb
    subst this
    refine run_seq ?_
    refine run_region rfl ?_
    refine op_assign rfl rfl ?_
    refine ops_nil ?_
    refine fin_code ?_
    refine run_seq ?_
    refine run_seq ?_
    refine run_region rfl ?_
    refine op_move rfl rfl ?_
    refine op_len rfl rfl ?_
    refine op_move rfl rfl ?_
    refine op_len rfl rfl ?_
    refine op_cmp_t rfl rfl rfl rfl (by first | (simp only [cmpP]; done) | (simp only [cmpP]; omega)) ?_
    refine ops_nil ?_
    refine fin_code ?_
    refine run_cond_t rfl ?_
    refine run_seq ?_
    refine run_region rfl ?_
    refine op_assign rfl rfl ?_
    refine ops_nil ?_
    refine fin_code ?_
    refine run_ret ?_
    refine fin_ret_code ?_
    refine fin_ret1 rfl rfl ?_
    intro w' g
    exact hR _ _ (post_of g () trivial rfl (by (apply le_of_picks; (repeat (first | exact Picks.nil | (apply Picks.cons; (· (repeat (first | exact Pick.here | apply Pick.there)))) | apply Picks.empty)))))
  rw [← hlb]
  refine run_seq ?_
  refine run_region rfl ?_
  refine op_assign rfl rfl ?_
  refine ops_nil ?_
  refine fin_code ?_
  refine run_seq ?_
  refine run_seq ?_
  refine run_region rfl ?_
  refine op_move rfl rfl ?_
  refine op_len rfl rfl ?_
  refine op_move rfl rfl ?_
  refine op_len rfl rfl ?_
  (refine op_cmp_f rfl rfl rfl rfl (fun h => h rfl) ?_)
  refine ops_nil ?_
  refine fin_code ?_
  refine run_cond_f rfl ?_
  refine run_skip ?_
  refine fin_code ?_
  refine run_seq ?_
  refine run_seq ?_
  refine run_region rfl ?_
  refine op_assign rfl rfl ?_
  refine ops_nil ?_
  refine fin_code ?_
  refine run_block ?_
  refine run_loop (α := Nat) (fun i => [(0, .slice A q.length c1), (1, .slice B q.length c2), (5, .int .i64 (i : Nat))]) (fun _ => []) (fun i => i ≤ q.length ∧ covB (q.drop i) (b.drop i) = v) (fun i => q.length - i) 0 ⟨Nat.zero_le _, hv⟩ (by (repeat (first | exact Sub.nil _ | (refine Sub.cons rfl ?_)))) (by (apply le_of_picks; (repeat (first | exact Picks.nil | (apply Picks.cons; (· (repeat (first | exact Pick.here | apply Pick.there)))) | apply Picks.empty)))) ?_
  rintro i ⟨hi, hcv⟩
  by_cases h : i < q.length
  · have h' : i < b.length := by omega
    obtain ⟨gq, oq, rfl, hgq, hcq⟩ := hrq.some (by rw [encQ_len]; omega)
    obtain ⟨gb, ob, rfl, hgb, hcb⟩ := hrb.some (by rw [u8s_len]; omega)
    have hq0 := encQ_at0 h
    have hq1 := encQ_at1 h
    have hb0 := u8s_at h'
    rw [covB_step h h'] at hcv
    by_cases h1 : q[i].1 ≤ b[i]
    · by_cases h2 : b[i] ≤ q[i].2
      · refine run_seq ?_
        refine run_seq ?_
        refine run_region rfl ?_
        refine op_move rfl rfl ?_
        refine op_move rfl rfl ?_
        refine op_len rfl rfl ?_
        refine op_cmp_t rfl rfl rfl rfl (by first | (simp only [cmpP]; done) | (simp only [cmpP]; omega)) ?_
        refine ops_nil ?_
        refine fin_code ?_
        refine run_cond_t rfl ?_
        refine run_skip ?_
        refine fin_code ?_
        refine run_seq ?_
        refine run_block ?_
        refine run_seq ?_
        refine run_drawS [] (by kernel_rfl) ?_
        refine dr_stab 0 rfl rfl (Val.s (val_move rfl)) (by decide +kernel) rfl rfl ?_
        refine dr_stab 1 rfl rfl (Val.s (val_move rfl)) (by decide +kernel) rfl rfl ?_
        refine dr_stab 2 rfl rfl (Val.s (val_index rfl rfl (by omega) (by first | (rw [Int.toNat_natCast, Nat.mul_one, Nat.zero_add]) | (rw [Int.toNat_natCast, Nat.mul_one]) | (rw [Int.toNat_natCast, Nat.zero_add]) | (rw [Int.toNat_natCast]) | exact rfl))) (by decide +kernel) rfl rfl ?_
        (apply dr_stab 3; (· exact rfl); (· exact rfl); (· apply ValAt.s; (first | (apply val_load; (· exact rfl); (· apply cell_of_has; (· (repeat (first | exact Has.here | apply Has.there))); (· first | exact rfl | exact nats_get _ _ _ (by omega)))) | (apply val_load; (· exact rfl); (· first | exact Rd.cellE hcq hgq (by simp [ids]) (by first | rfl | omega) hq0 | exact Rd.cellE hcq hgq (by simp [ids]) (by first | rfl | omega) hq1 | exact Rd.cellE hcb hgb (by simp [ids]) (by first | rfl | omega) hb0)) | exact val_loadA rfl (show (q2 q[i]).length = 2 from rfl) (fun j v hv => Rd.cell hcq hgq (by simp [ids]) (hqj j v hv)))); (· decide +kernel); (· exact rfl); (· exact rfl))
        refine dr_stab 4 rfl rfl (Val.s (val_move rfl)) (by decide +kernel) rfl rfl ?_
        refine dr_stab 5 rfl rfl (Val.s (val_move rfl)) (by decide +kernel) rfl rfl ?_
        refine dr_stab 6 rfl rfl (Val.s (val_index rfl rfl (by omega) (by first | (rw [Int.toNat_natCast, Nat.mul_one, Nat.zero_add]) | (rw [Int.toNat_natCast, Nat.mul_one]) | (rw [Int.toNat_natCast, Nat.zero_add]) | (rw [Int.toNat_natCast]) | exact rfl))) (by decide +kernel) rfl rfl ?_
        refine dr_stab 7 rfl rfl (Val.s (val_indexP rfl rfl (by omega))) (by decide +kernel) rfl rfl ?_
        (apply dr_stab 8; (· exact rfl); (· exact rfl); (· apply ValAt.s; (first | (apply val_load; (· exact rfl); (· apply cell_of_has; (· (repeat (first | exact Has.here | apply Has.there))); (· first | exact rfl | exact nats_get _ _ _ (by omega)))) | (apply val_load; (· exact rfl); (· first | exact Rd.cellE hcq hgq (by simp [ids]) (by first | rfl | omega) hq0 | exact Rd.cellE hcq hgq (by simp [ids]) (by first | rfl | omega) hq1 | exact Rd.cellE hcb hgb (by simp [ids]) (by first | rfl | omega) hb0)) | exact val_loadA rfl (show (q2 q[i]).length = 2 from rfl) (fun j v hv => Rd.cell hcq hgq (by simp [ids]) (hqj j v hv)))); (· decide +kernel); (· exact rfl); (· exact rfl))
        refine dr_stab 9 rfl rfl (Val.s (val_cmp_f rfl rfl rfl (by first | (simp only [cmpP]; done) | (simp only [cmpP]; omega)))) (by decide +kernel) rfl rfl ?_
        refine dr_stab 10 rfl rfl (Val.s (val_move rfl)) (by decide +kernel) rfl rfl ?_
        first | refine dr_stab 11 rfl rfl (Val.s (val_move rfl)) (by decide +kernel) rfl rfl ?_ | refine dr_off 11 rfl rfl (by decide +kernel) rfl rfl ?_
        first | refine dr_stab 12 rfl rfl (Val.s (val_move rfl)) (by decide +kernel) rfl rfl ?_ | refine dr_off 12 rfl rfl (by decide +kernel) rfl rfl ?_
        refine dr_stab 13 rfl rfl (Val.s (val_index rfl rfl (by omega) (by first | (rw [Int.toNat_natCast, Nat.mul_one, Nat.zero_add]) | (rw [Int.toNat_natCast, Nat.mul_one]) | (rw [Int.toNat_natCast, Nat.zero_add]) | (rw [Int.toNat_natCast]) | exact rfl))) (by decide +kernel) rfl rfl ?_
        (apply dr_stab 14; (· exact rfl); (· exact rfl); (· apply ValAt.s; (first | (apply val_load; (· exact rfl); (· apply cell_of_has; (· (repeat (first | exact Has.here | apply Has.there))); (· first | exact rfl | exact nats_get _ _ _ (by omega)))) | (apply val_load; (· exact rfl); (· first | exact Rd.cellE hcq hgq (by simp [ids]) (by first | rfl | omega) hq0 | exact Rd.cellE hcq hgq (by simp [ids]) (by first | rfl | omega) hq1 | exact Rd.cellE hcb hgb (by simp [ids]) (by first | rfl | omega) hb0)) | exact val_loadA rfl (show (q2 q[i]).length = 2 from rfl) (fun j v hv => Rd.cell hcq hgq (by simp [ids]) (hqj j v hv)))); (· decide +kernel); (· exact rfl); (· exact rfl))
        first | refine dr_stab 15 rfl rfl (Val.s (val_move rfl)) (by decide +kernel) rfl rfl ?_ | refine dr_off 15 rfl rfl (by decide +kernel) rfl rfl ?_
        first | refine dr_stab 16 rfl rfl (Val.s (val_move rfl)) (by decide +kernel) rfl rfl ?_ | refine dr_off 16 rfl rfl (by decide +kernel) rfl rfl ?_
        refine dr_stab 17 rfl rfl (Val.s (val_index rfl rfl (by omega) (by first | (rw [Int.toNat_natCast, Nat.mul_one, Nat.zero_add]) | (rw [Int.toNat_natCast, Nat.mul_one]) | (rw [Int.toNat_natCast, Nat.zero_add]) | (rw [Int.toNat_natCast]) | exact rfl))) (by decide +kernel) rfl rfl ?_
        refine dr_stab 18 rfl rfl (Val.s (val_indexP rfl rfl (by omega))) (by decide +kernel) rfl rfl ?_
        (apply dr_stab 19; (· exact rfl); (· exact rfl); (· apply ValAt.s; (first | (apply val_load; (· exact rfl); (· apply cell_of_has; (· (repeat (first | exact Has.here | apply Has.there))); (· first | exact rfl | exact nats_get _ _ _ (by omega)))) | (apply val_load; (· exact rfl); (· first | exact Rd.cellE hcq hgq (by simp [ids]) (by first | rfl | omega) hq0 | exact Rd.cellE hcq hgq (by simp [ids]) (by first | rfl | omega) hq1 | exact Rd.cellE hcb hgb (by simp [ids]) (by first | rfl | omega) hb0)) | exact val_loadA rfl (show (q2 q[i]).length = 2 from rfl) (fun j v hv => Rd.cell hcq hgq (by simp [ids]) (hqj j v hv)))); (· decide +kernel); (· exact rfl); (· exact rfl))
        refine dr_stab 20 rfl rfl (Val.s (val_cmp_f rfl rfl rfl (by first | (simp only [cmpP]; done) | (simp only [cmpP]; omega)))) (by decide +kernel) rfl rfl ?_
        refine dr_stab 21 rfl rfl (Val.s (val_pick_f rfl rfl)) (by decide +kernel) rfl rfl ?_
        (refine dr_done (by decide +kernel) (by (apply le_of_picks; (repeat (first | exact Picks.nil | (apply Picks.cons; (· (repeat (first | exact Pick.here | apply Pick.there)))) | apply Picks.empty)))) ?_)
        refine fin_code ?_
        refine run_cond_f rfl ?_
        refine run_skip ?_
        refine fin_block ?_
        refine fin_code ?_
        refine run_region rfl ?_
        refine op_move rfl rfl ?_
        refine op_add rfl rfl rfl (by simp only [kLo, kHi]; omega) ?_
        refine op_assign rfl rfl ?_
        refine ops_nil ?_
        refine fin_round (i + 1) (by omega) (by (repeat (first | exact Sub.nil _ | (refine Sub.cons rfl ?_)))) (by (apply le_of_picks; (repeat (first | exact Picks.nil | (apply Picks.cons; (· (repeat (first | exact Pick.here | apply Pick.there)))) | apply Picks.empty)))) ⟨by omega, ?_⟩
        simpa [h1, h2] using hcv
      · have : v = false := by rw [← hcv]; simp [h2]
        subst this
        refine run_seq ?_
        refine run_seq ?_
        refine run_region rfl ?_
        refine op_move rfl rfl ?_
        refine op_move rfl rfl ?_
        refine op_len rfl rfl ?_
        refine op_cmp_t rfl rfl rfl rfl (by first | (simp only [cmpP]; done) | (simp only [cmpP]; omega)) ?_
        refine ops_nil ?_
        refine fin_code ?_
        refine run_cond_t rfl ?_
        refine run_skip ?_
        refine fin_code ?_
        refine run_seq ?_
        refine run_block ?_
        refine run_seq ?_
        refine run_drawS [] (by kernel_rfl) ?_
        refine dr_stab 0 rfl rfl (Val.s (val_move rfl)) (by decide +kernel) rfl rfl ?_
        refine dr_stab 1 rfl rfl (Val.s (val_move rfl)) (by decide +kernel) rfl rfl ?_
        refine dr_stab 2 rfl rfl (Val.s (val_index rfl rfl (by omega) (by first | (rw [Int.toNat_natCast, Nat.mul_one, Nat.zero_add]) | (rw [Int.toNat_natCast, Nat.mul_one]) | (rw [Int.toNat_natCast, Nat.zero_add]) | (rw [Int.toNat_natCast]) | exact rfl))) (by decide +kernel) rfl rfl ?_
        (apply dr_stab 3; (· exact rfl); (· exact rfl); (· apply ValAt.s; (first | (apply val_load; (· exact rfl); (· apply cell_of_has; (· (repeat (first | exact Has.here | apply Has.there))); (· first | exact rfl | exact nats_get _ _ _ (by omega)))) | (apply val_load; (· exact rfl); (· first | exact Rd.cellE hcq hgq (by simp [ids]) (by first | rfl | omega) hq0 | exact Rd.cellE hcq hgq (by simp [ids]) (by first | rfl | omega) hq1 | exact Rd.cellE hcb hgb (by simp [ids]) (by first | rfl | omega) hb0)) | exact val_loadA rfl (show (q2 q[i]).length = 2 from rfl) (fun j v hv => Rd.cell hcq hgq (by simp [ids]) (hqj j v hv)))); (· decide +kernel); (· exact rfl); (· exact rfl))
        refine dr_stab 4 rfl rfl (Val.s (val_move rfl)) (by decide +kernel) rfl rfl ?_
        refine dr_stab 5 rfl rfl (Val.s (val_move rfl)) (by decide +kernel) rfl rfl ?_
        refine dr_stab 6 rfl rfl (Val.s (val_index rfl rfl (by omega) (by first | (rw [Int.toNat_natCast, Nat.mul_one, Nat.zero_add]) | (rw [Int.toNat_natCast, Nat.mul_one]) | (rw [Int.toNat_natCast, Nat.zero_add]) | (rw [Int.toNat_natCast]) | exact rfl))) (by decide +kernel) rfl rfl ?_
        refine dr_stab 7 rfl rfl (Val.s (val_indexP rfl rfl (by omega))) (by decide +kernel) rfl rfl ?_
        (apply dr_stab 8; (· exact rfl); (· exact rfl); (· apply ValAt.s; (first | (apply val_load; (· exact rfl); (· apply cell_of_has; (· (repeat (first | exact Has.here | apply Has.there))); (· first | exact rfl | exact nats_get _ _ _ (by omega)))) | (apply val_load; (· exact rfl); (· first | exact Rd.cellE hcq hgq (by simp [ids]) (by first | rfl | omega) hq0 | exact Rd.cellE hcq hgq (by simp [ids]) (by first | rfl | omega) hq1 | exact Rd.cellE hcb hgb (by simp [ids]) (by first | rfl | omega) hb0)) | exact val_loadA rfl (show (q2 q[i]).length = 2 from rfl) (fun j v hv => Rd.cell hcq hgq (by simp [ids]) (hqj j v hv)))); (· decide +kernel); (· exact rfl); (· exact rfl))
        refine dr_stab 9 rfl rfl (Val.s (val_cmp_f rfl rfl rfl (by first | (simp only [cmpP]; done) | (simp only [cmpP]; omega)))) (by decide +kernel) rfl rfl ?_
        refine dr_stab 10 rfl rfl (Val.s (val_move rfl)) (by decide +kernel) rfl rfl ?_
        first | refine dr_stab 11 rfl rfl (Val.s (val_move rfl)) (by decide +kernel) rfl rfl ?_ | refine dr_off 11 rfl rfl (by decide +kernel) rfl rfl ?_
        first | refine dr_stab 12 rfl rfl (Val.s (val_move rfl)) (by decide +kernel) rfl rfl ?_ | refine dr_off 12 rfl rfl (by decide +kernel) rfl rfl ?_
        refine dr_stab 13 rfl rfl (Val.s (val_index rfl rfl (by omega) (by first | (rw [Int.toNat_natCast, Nat.mul_one, Nat.zero_add]) | (rw [Int.toNat_natCast, Nat.mul_one]) | (rw [Int.toNat_natCast, Nat.zero_add]) | (rw [Int.toNat_natCast]) | exact rfl))) (by decide +kernel) rfl rfl ?_
        (apply dr_stab 14; (· exact rfl); (· exact rfl); (· apply ValAt.s; (first | (apply val_load; (· exact rfl); (· apply cell_of_has; (· (repeat (first | exact Has.here | apply Has.there))); (· first | exact rfl | exact nats_get _ _ _ (by omega)))) | (apply val_load; (· exact rfl); (· first | exact Rd.cellE hcq hgq (by simp [ids]) (by first | rfl | omega) hq0 | exact Rd.cellE hcq hgq (by simp [ids]) (by first | rfl | omega) hq1 | exact Rd.cellE hcb hgb (by simp [ids]) (by first | rfl | omega) hb0)) | exact val_loadA rfl (show (q2 q[i]).length = 2 from rfl) (fun j v hv => Rd.cell hcq hgq (by simp [ids]) (hqj j v hv)))); (· decide +kernel); (· exact rfl); (· exact rfl))
        first | refine dr_stab 15 rfl rfl (Val.s (val_move rfl)) (by decide +kernel) rfl rfl ?_ | refine dr_off 15 rfl rfl (by decide +kernel) rfl rfl ?_
        first | refine dr_stab 16 rfl rfl (Val.s (val_move rfl)) (by decide +kernel) rfl rfl ?_ | refine dr_off 16 rfl rfl (by decide +kernel) rfl rfl ?_
        refine dr_stab 17 rfl rfl (Val.s (val_index rfl rfl (by omega) (by first | (rw [Int.toNat_natCast, Nat.mul_one, Nat.zero_add]) | (rw [Int.toNat_natCast, Nat.mul_one]) | (rw [Int.toNat_natCast, Nat.zero_add]) | (rw [Int.toNat_natCast]) | exact rfl))) (by decide +kernel) rfl rfl ?_
        refine dr_stab 18 rfl rfl (Val.s (val_indexP rfl rfl (by omega))) (by decide +kernel) rfl rfl ?_
        (apply dr_stab 19; (· exact rfl); (· exact rfl); (· apply ValAt.s; (first | (apply val_load; (· exact rfl); (· apply cell_of_has; (· (repeat (first | exact Has.here | apply Has.there))); (· first | exact rfl | exact nats_get _ _ _ (by omega)))) | (apply val_load; (· exact rfl); (· first | exact Rd.cellE hcq hgq (by simp [ids]) (by first | rfl | omega) hq0 | exact Rd.cellE hcq hgq (by simp [ids]) (by first | rfl | omega) hq1 | exact Rd.cellE hcb hgb (by simp [ids]) (by first | rfl | omega) hb0)) | exact val_loadA rfl (show (q2 q[i]).length = 2 from rfl) (fun j v hv => Rd.cell hcq hgq (by simp [ids]) (hqj j v hv)))); (· decide +kernel); (· exact rfl); (· exact rfl))
        refine dr_stab 20 rfl rfl (Val.s (val_cmp_t rfl rfl rfl (by first | (simp only [cmpP]; done) | (simp only [cmpP]; omega)))) (by decide +kernel) rfl rfl ?_
        refine dr_stab 21 rfl rfl (Val.s (val_pick_f rfl rfl)) (by decide +kernel) rfl rfl ?_
        (refine dr_done (by decide +kernel) (by (apply le_of_picks; (repeat (first | exact Picks.nil | (apply Picks.cons; (· (repeat (first | exact Pick.here | apply Pick.there)))) | apply Picks.empty)))) ?_)
        refine fin_code ?_
        refine run_cond_t rfl ?_
        refine run_seq ?_
        refine run_region rfl ?_
        refine op_assign rfl rfl ?_
        refine ops_nil ?_
        refine fin_code ?_
        refine run_ret ?_
        refine fin_ret_block ?_
        refine fin_ret_code ?_
        refine fin_ret_inv ?_
        refine fin_ret_block ?_
        refine fin_ret_code ?_
        refine fin_ret1 rfl rfl ?_
        intro w' g
        exact hR _ _ (post_of g () trivial rfl (by (apply le_of_picks; (repeat (first | exact Picks.nil | (apply Picks.cons; (· (repeat (first | exact Pick.here | apply Pick.there)))) | apply Picks.empty)))))
    · have : v = false := by rw [← hcv]; simp [h1]
      subst this
      refine run_seq ?_
      refine run_seq ?_
      refine run_region rfl ?_
      refine op_move rfl rfl ?_
      refine op_move rfl rfl ?_
      refine op_len rfl rfl ?_
      refine op_cmp_t rfl rfl rfl rfl (by first | (simp only [cmpP]; done) | (simp only [cmpP]; omega)) ?_
      refine ops_nil ?_
      refine fin_code ?_
      refine run_cond_t rfl ?_
      refine run_skip ?_
      refine fin_code ?_
      refine run_seq ?_
      refine run_block ?_
      refine run_seq ?_
      refine run_drawS [] (by kernel_rfl) ?_
      refine dr_stab 0 rfl rfl (Val.s (val_move rfl)) (by decide +kernel) rfl rfl ?_
      refine dr_stab 1 rfl rfl (Val.s (val_move rfl)) (by decide +kernel) rfl rfl ?_
      refine dr_stab 2 rfl rfl (Val.s (val_index rfl rfl (by omega) (by first | (rw [Int.toNat_natCast, Nat.mul_one, Nat.zero_add]) | (rw [Int.toNat_natCast, Nat.mul_one]) | (rw [Int.toNat_natCast, Nat.zero_add]) | (rw [Int.toNat_natCast]) | exact rfl))) (by decide +kernel) rfl rfl ?_
      (apply dr_stab 3; (· exact rfl); (· exact rfl); (· apply ValAt.s; (first | (apply val_load; (· exact rfl); (· apply cell_of_has; (· (repeat (first | exact Has.here | apply Has.there))); (· first | exact rfl | exact nats_get _ _ _ (by omega)))) | (apply val_load; (· exact rfl); (· first | exact Rd.cellE hcq hgq (by simp [ids]) (by first | rfl | omega) hq0 | exact Rd.cellE hcq hgq (by simp [ids]) (by first | rfl | omega) hq1 | exact Rd.cellE hcb hgb (by simp [ids]) (by first | rfl | omega) hb0)) | exact val_loadA rfl (show (q2 q[i]).length = 2 from rfl) (fun j v hv => Rd.cell hcq hgq (by simp [ids]) (hqj j v hv)))); (· decide +kernel); (· exact rfl); (· exact rfl))
      refine dr_stab 4 rfl rfl (Val.s (val_move rfl)) (by decide +kernel) rfl rfl ?_
      refine dr_stab 5 rfl rfl (Val.s (val_move rfl)) (by decide +kernel) rfl rfl ?_
      refine dr_stab 6 rfl rfl (Val.s (val_index rfl rfl (by omega) (by first | (rw [Int.toNat_natCast, Nat.mul_one, Nat.zero_add]) | (rw [Int.toNat_natCast, Nat.mul_one]) | (rw [Int.toNat_natCast, Nat.zero_add]) | (rw [Int.toNat_natCast]) | exact rfl))) (by decide +kernel) rfl rfl ?_
      refine dr_stab 7 rfl rfl (Val.s (val_indexP rfl rfl (by omega))) (by decide +kernel) rfl rfl ?_
      (apply dr_stab 8; (· exact rfl); (· exact rfl); (· apply ValAt.s; (first | (apply val_load; (· exact rfl); (· apply cell_of_has; (· (repeat (first | exact Has.here | apply Has.there))); (· first | exact rfl | exact nats_get _ _ _ (by omega)))) | (apply val_load; (· exact rfl); (· first | exact Rd.cellE hcq hgq (by simp [ids]) (by first | rfl | omega) hq0 | exact Rd.cellE hcq hgq (by simp [ids]) (by first | rfl | omega) hq1 | exact Rd.cellE hcb hgb (by simp [ids]) (by first | rfl | omega) hb0)) | exact val_loadA rfl (show (q2 q[i]).length = 2 from rfl) (fun j v hv => Rd.cell hcq hgq (by simp [ids]) (hqj j v hv)))); (· decide +kernel); (· exact rfl); (· exact rfl))
      refine dr_stab 9 rfl rfl (Val.s (val_cmp_t rfl rfl rfl (by first | (simp only [cmpP]; done) | (simp only [cmpP]; omega)))) (by decide +kernel) rfl rfl ?_
      refine dr_stab 10 rfl rfl (Val.s (val_move rfl)) (by decide +kernel) rfl rfl ?_
      first | refine dr_stab 11 rfl rfl (Val.s (val_move rfl)) (by decide +kernel) rfl rfl ?_ | refine dr_off 11 rfl rfl (by decide +kernel) rfl rfl ?_
      first | refine dr_stab 12 rfl rfl (Val.s (val_move rfl)) (by decide +kernel) rfl rfl ?_ | refine dr_off 12 rfl rfl (by decide +kernel) rfl rfl ?_
      refine dr_off 13 rfl rfl (by decide +kernel) rfl rfl ?_
      refine dr_off 14 rfl rfl (by decide +kernel) rfl rfl ?_
      first | refine dr_stab 15 rfl rfl (Val.s (val_move rfl)) (by decide +kernel) rfl rfl ?_ | refine dr_off 15 rfl rfl (by decide +kernel) rfl rfl ?_
      first | refine dr_stab 16 rfl rfl (Val.s (val_move rfl)) (by decide +kernel) rfl rfl ?_ | refine dr_off 16 rfl rfl (by decide +kernel) rfl rfl ?_
      refine dr_off 17 rfl rfl (by decide +kernel) rfl rfl ?_
      refine dr_off 18 rfl rfl (by decide +kernel) rfl rfl ?_
      refine dr_off 19 rfl rfl (by decide +kernel) rfl rfl ?_
      refine dr_off 20 rfl rfl (by decide +kernel) rfl rfl ?_
      refine dr_stab 21 rfl rfl (Val.s (val_pick_t rfl rfl)) (by decide +kernel) rfl rfl ?_
      (refine dr_done (by decide +kernel) (by (apply le_of_picks; (repeat (first | exact Picks.nil | (apply Picks.cons; (· (repeat (first | exact Pick.here | apply Pick.there)))) | apply Picks.empty)))) ?_)
      refine fin_code ?_
      refine run_cond_t rfl ?_
      refine run_seq ?_
      refine run_region rfl ?_
      refine op_assign rfl rfl ?_
      refine ops_nil ?_
      refine fin_code ?_
      refine run_ret ?_
      refine fin_ret_block ?_
      refine fin_ret_code ?_
      refine fin_ret_inv ?_
      refine fin_ret_block ?_
      refine fin_ret_code ?_
      refine fin_ret1 rfl rfl ?_
      intro w' g
      exact hR _ _ (post_of g () trivial rfl (by (apply le_of_picks; (repeat (first | exact Picks.nil | (apply Picks.cons; (· (repeat (first | exact Pick.here | apply Pick.there)))) | apply Picks.empty)))))
  · obtain rfl : i = q.length := by omega
    have : v = true := by
      rw [← hcv, List.drop_of_length_le (Nat.le_refl _), List.drop_of_length_le (by omega)]; rfl
    subst this
    refine run_seq ?_
    refine run_seq ?_
    refine run_region rfl ?_
    refine op_move rfl rfl ?_
    refine op_move rfl rfl ?_
    refine op_len rfl rfl ?_
    refine op_cmp_f rfl rfl rfl rfl (by first | (simp only [cmpP]; done) | (simp only [cmpP]; omega)) ?_
    refine ops_nil ?_
    refine fin_code ?_
    refine run_cond_f rfl ?_
    refine run_exit ?_
    refine fin_exit_code ?_
    refine fin_exit_inv ?_
    refine fin_exit_here ?_
    refine fin_code ?_
    refine run_seq ?_
    refine run_region rfl ?_
    refine op_assign rfl rfl ?_
    refine ops_nil ?_
    refine fin_code ?_
    refine run_ret ?_
    refine fin_ret1 rfl rfl ?_
    intro w' g
    exact hR _ _ (post_of g () trivial rfl (by (apply le_of_picks; (repeat (first | exact Picks.nil | (apply Picks.cons; (· (repeat (first | exact Pick.here | apply Pick.there)))) | apply Picks.empty)))))
end Go.Proofs.Eng
