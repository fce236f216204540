/- A part of the proof: what functions of the program do, step by step. -/
import Derived.Test.YtiadbheejlhimaaXe
set_option linter.unusedVariables false
set_option linter.unusedSimpArgs false
namespace Go.Proofs.Eng
open Go.RowKit
theorem take_flat {l : List NS} {i : Nat} (h : i < l.length) : (l.take (i + 1)).flatMap nsV = (l.take i).flatMap nsV ++ nsV l[i] := by
  rw [List.take_succ_eq_append_getElem h, List.flatMap_append]
  simp
set_option maxRecDepth 100000 in
set_option maxHeartbeats 8000000 in
theorem in_any (w : World) (A : Option Addr) (n c : Nat) (l : List NS) (hl : l.length = n) (hn : n ≤ 60000) (hr : Rd w w.heap.size A (l.flatMap nsV)) :
    Calls Try.prog 22 #[.slice A n c] w (Post w ([] : List Hp).flatten (fun x : Value × Hp => x.1) (fun x => ([x.2] : List Hp).flatten) (fun x => Own 82 3 x.1 n (l.flatMap nsV) x.2)) := by
  refine enter [] Try.func22 rfl rfl (At.nil w) (Le.refl _) ?_
  intro R hR
  refine run_seq ?_
  refine run_region rfl ?_
  refine op_assign rfl rfl ?_
  refine ops_nil ?_
  refine fin_code ?_
  refine run_seq ?_
  refine run_region rfl ?_
  refine op_assign rfl rfl ?_
  refine ops_nil ?_
  refine fin_code ?_
  refine run_seq ?_
  refine run_seq ?_
  refine run_region rfl ?_
  refine op_move rfl rfl ?_
  refine op_len rfl rfl ?_
  refine op_move rfl rfl ?_
  refine ops_nil ?_
  refine fin_code ?_
  refine run_block ?_
  refine run_loop (α := Nat × Value × Hp) (fun x => [(3, x.2.1), (6, .slice A n c), (7, .int .i64 n), (8, .int .i64 (x.1 : Nat))]) (fun x => [x.2.2]) (fun x => x.1 ≤ n ∧ Own 82 3 x.2.1 x.1 ((l.take x.1).flatMap nsV) x.2.2) (fun x => n - x.1)
    (0, .slice none 0 0, []) ⟨Nat.zero_le _, Own.nil _ _⟩ (by (repeat (first | exact Sub.nil _ | (refine Sub.cons rfl ?_)))) (by (apply le_of_picks; (repeat (first | exact Picks.nil | (apply Picks.cons; (· (repeat (first | exact Pick.here | apply Pick.there)))) | apply Picks.empty)))) ?_
  rintro ⟨i, v, lv⟩ ⟨hi, ho⟩
  dsimp only at hi ho ⊢
  by_cases hin : i < n
  · have hil : i < l.length := by omega
    obtain ⟨g, o, rfl, hg, hc⟩ := hr.some (by rw [flat_len nsV 3 (fun _ => rfl)]; omega)
    have htk := take_flat hil
    refine run_seq ?_
    refine run_region rfl ?_
    refine op_cmp_t rfl rfl rfl rfl (by first | (simp only [cmpP]; done) | (simp only [cmpP]; omega)) ?_
    refine ops_nil ?_
    refine fin_code ?_
    refine run_seq ?_
    refine run_cond_t rfl ?_
    refine run_skip ?_
    refine fin_code ?_
    refine run_seq ?_
    refine run_block ?_
    refine run_seq ?_
    refine run_region rfl ?_
    refine op_index rfl rfl rfl (by omega) (by first | (rw [Int.toNat_natCast, Nat.mul_one, Nat.zero_add]) | (rw [Int.toNat_natCast, Nat.mul_one]) | (rw [Int.toNat_natCast, Nat.zero_add]) | (rw [Int.toNat_natCast]) | exact rfl) ?_
    (refine op_loadA (vs := nsV l[i]) rfl rfl rfl (fun k u hu => by rw [Nat.add_assoc]; exact Rd.cell hc hg (by simp [ids]) (flat_get nsV 3 (fun _ => rfl) l i hil k u hu)) ?_)
    (refine op_alloc rfl ?_; intro _ _)
    (apply op_storeAll; (· exact rfl); (· exact rfl); (· exact rfl); (· exact nsV_one _); (· (repeat (first | exact Swap.here | apply Swap.there))); (· exact rfl))
    refine ops_nil ?_
    refine fin_code ?_
    refine run_region rfl ?_
    refine op_move rfl rfl ?_
    refine op_fieldAddr rfl rfl ?_
    (apply op_load; (· exact rfl); (· exact rfl); (· apply cell_of_has; (· (repeat (first | exact Has.here | apply Has.there))); (· first | exact rfl)))
    refine op_fieldAddr rfl rfl ?_
    (apply op_load; (· exact rfl); (· exact rfl); (· apply cell_of_has; (· (repeat (first | exact Has.here | apply Has.there))); (· first | exact rfl)))
    refine op_fieldAddr rfl rfl ?_
    (apply op_load; (· exact rfl); (· exact rfl); (· apply cell_of_has; (· (repeat (first | exact Has.here | apply Has.there))); (· first | exact rfl)))
    refine op_build rfl rfl rfl (by first | (intro v hv; simp at hv; done) | (intro v hv; simp at hv; rcases hv with rfl | rfl | rfl | rfl | rfl | rfl | rfl <;> rfl) | (intro v hv; simp at hv; rcases hv with rfl | rfl | rfl | rfl | rfl | rfl <;> rfl) | (intro v hv; simp at hv; rcases hv with rfl | rfl | rfl | rfl | rfl <;> rfl) | (intro v hv; simp at hv; rcases hv with rfl | rfl | rfl | rfl <;> rfl) | (intro v hv; simp at hv; rcases hv with rfl | rfl | rfl <;> rfl) | (intro v hv; simp at hv; rcases hv with rfl | rfl <;> rfl) | (intro v hv; simp at hv; rcases hv with rfl; rfl)) rfl ?_
    (refine op_slice1 rfl rfl (by first | rfl | simp [Value.cells] | simp [Value.cells, nsV]) (by decide) ?_; intro _ _)
    (apply op_append1; (· exact rfl); (· exact rfl); (· exact rfl); (· exact ho); (· (repeat (first | exact Pick.here | apply Pick.there))); (· (repeat (first | exact Has.here | apply Has.there))); (· exact rfl); (· first | exact onesC rfl | (intro u hu; simp [Value.cells, nsV] at hu; rcases hu with rfl | rfl | rfl <;> rfl)); (· omega); (· omega); (· exact rfl))
    intro v' l' ho'
    refine op_assign rfl rfl ?_
    refine ops_nil ?_
    refine fin_block ?_
    refine fin_code ?_
    refine run_region rfl ?_
    refine op_add rfl rfl rfl (by simp only [kLo, kHi]; omega) ?_
    refine op_move rfl rfl ?_
    refine ops_nil ?_
    refine fin_round (i + 1, v', l') (by dsimp only; omega) (by (repeat (first | exact Sub.nil _ | (refine Sub.cons rfl ?_)))) (by (apply le_of_picks; (repeat (first | exact Picks.nil | (apply Picks.cons; (· (repeat (first | exact Pick.here | apply Pick.there)))) | apply Picks.empty)))) ⟨by dsimp only; omega, ?_⟩
    dsimp only
    rw [htk]
    simpa [Value.cells, nsV] using ho'
  · obtain rfl : i = n := by omega
    rw [List.take_of_length_le (by omega)] at ho
    refine run_seq ?_
    refine run_region rfl ?_
    refine op_cmp_f rfl rfl rfl rfl (by first | (simp only [cmpP]; done) | (simp only [cmpP]; omega)) ?_
    refine ops_nil ?_
    refine fin_code ?_
    refine run_seq ?_
    refine run_cond_f rfl ?_
    refine run_exit ?_
    refine fin_exit_code ?_
    refine fin_exit_inv ?_
    refine fin_exit_here ?_
    refine fin_code ?_
    refine run_seq ?_
    refine run_region rfl ?_
    refine op_move rfl rfl ?_
    refine op_assign rfl rfl ?_
    refine ops_nil ?_
    refine fin_code ?_
    refine run_ret ?_
    refine fin_ret1 rfl rfl ?_
    intro w' g
    exact hR _ _ (post_of g (v, lv) ho rfl (by (apply le_of_picks; (repeat (first | exact Picks.nil | (apply Picks.cons; (· (repeat (first | exact Pick.here | apply Pick.there)))) | apply Picks.empty)))))
set_option maxRecDepth 100000 in
set_option maxHeartbeats 8000000 in
theorem out_any (w : World) (A : Option Addr) (n c : Nat) (l : List NS) (hl : l.length = n) (hn : n ≤ 60000) (hr : Rd w w.heap.size A (l.flatMap nsV)) :
    Calls Try.prog 19 #[.slice A n c] w (Post w ([] : List Hp).flatten (fun x : Value × Hp => x.1) (fun x => ([x.2] : List Hp).flatten) (fun x => Own 25 3 x.1 n (l.flatMap nsV) x.2)) := by
  refine enter [] Try.func19 rfl rfl (At.nil w) (Le.refl _) ?_
  intro R hR
  refine run_seq ?_
  refine run_region rfl ?_
  refine op_assign rfl rfl ?_
  refine ops_nil ?_
  refine fin_code ?_
  refine run_seq ?_
  refine run_region rfl ?_
  refine op_assign rfl rfl ?_
  refine ops_nil ?_
  refine fin_code ?_
  refine run_seq ?_
  refine run_seq ?_
  refine run_region rfl ?_
  refine op_move rfl rfl ?_
  refine op_len rfl rfl ?_
  refine op_move rfl rfl ?_
  refine ops_nil ?_
  refine fin_code ?_
  refine run_block ?_
  refine run_loop (α := Nat × Value × Hp) (fun x => [(3, x.2.1), (6, .slice A n c), (7, .int .i64 n), (8, .int .i64 (x.1 : Nat))]) (fun x => [x.2.2]) (fun x => x.1 ≤ n ∧ Own 25 3 x.2.1 x.1 ((l.take x.1).flatMap nsV) x.2.2) (fun x => n - x.1)
    (0, .slice none 0 0, []) ⟨Nat.zero_le _, Own.nil _ _⟩ (by (repeat (first | exact Sub.nil _ | (refine Sub.cons rfl ?_)))) (by (apply le_of_picks; (repeat (first | exact Picks.nil | (apply Picks.cons; (· (repeat (first | exact Pick.here | apply Pick.there)))) | apply Picks.empty)))) ?_
  rintro ⟨i, v, lv⟩ ⟨hi, ho⟩
  dsimp only at hi ho ⊢
  by_cases hin : i < n
  · have hil : i < l.length := by omega
    obtain ⟨g, o, rfl, hg, hc⟩ := hr.some (by rw [flat_len nsV 3 (fun _ => rfl)]; omega)
    have htk := take_flat hil
    refine run_seq ?_
    refine run_region rfl ?_
    refine op_cmp_t rfl rfl rfl rfl (by first | (simp only [cmpP]; done) | (simp only [cmpP]; omega)) ?_
    refine ops_nil ?_
    refine fin_code ?_
    refine run_seq ?_
    refine run_cond_t rfl ?_
    refine run_skip ?_
    refine fin_code ?_
    refine run_seq ?_
    refine run_block ?_
    refine run_seq ?_
    refine run_region rfl ?_
    refine op_index rfl rfl rfl (by omega) (by first | (rw [Int.toNat_natCast, Nat.mul_one, Nat.zero_add]) | (rw [Int.toNat_natCast, Nat.mul_one]) | (rw [Int.toNat_natCast, Nat.zero_add]) | (rw [Int.toNat_natCast]) | exact rfl) ?_
    (refine op_loadA (vs := nsV l[i]) rfl rfl rfl (fun k u hu => by rw [Nat.add_assoc]; exact Rd.cell hc hg (by simp [ids]) (flat_get nsV 3 (fun _ => rfl) l i hil k u hu)) ?_)
    (refine op_alloc rfl ?_; intro _ _)
    (apply op_storeAll; (· exact rfl); (· exact rfl); (· exact rfl); (· exact nsV_one _); (· (repeat (first | exact Swap.here | apply Swap.there))); (· exact rfl))
    refine ops_nil ?_
    refine fin_code ?_
    refine run_region rfl ?_
    refine op_move rfl rfl ?_
    refine op_fieldAddr rfl rfl ?_
    (apply op_load; (· exact rfl); (· exact rfl); (· apply cell_of_has; (· (repeat (first | exact Has.here | apply Has.there))); (· first | exact rfl)))
    refine op_fieldAddr rfl rfl ?_
    (apply op_load; (· exact rfl); (· exact rfl); (· apply cell_of_has; (· (repeat (first | exact Has.here | apply Has.there))); (· first | exact rfl)))
    refine op_fieldAddr rfl rfl ?_
    (apply op_load; (· exact rfl); (· exact rfl); (· apply cell_of_has; (· (repeat (first | exact Has.here | apply Has.there))); (· first | exact rfl)))
    refine op_build rfl rfl rfl (by first | (intro v hv; simp at hv; done) | (intro v hv; simp at hv; rcases hv with rfl | rfl | rfl | rfl | rfl | rfl | rfl <;> rfl) | (intro v hv; simp at hv; rcases hv with rfl | rfl | rfl | rfl | rfl | rfl <;> rfl) | (intro v hv; simp at hv; rcases hv with rfl | rfl | rfl | rfl | rfl <;> rfl) | (intro v hv; simp at hv; rcases hv with rfl | rfl | rfl | rfl <;> rfl) | (intro v hv; simp at hv; rcases hv with rfl | rfl | rfl <;> rfl) | (intro v hv; simp at hv; rcases hv with rfl | rfl <;> rfl) | (intro v hv; simp at hv; rcases hv with rfl; rfl)) rfl ?_
    (refine op_slice1 rfl rfl (by first | rfl | simp [Value.cells] | simp [Value.cells, nsV]) (by decide) ?_; intro _ _)
    (apply op_append1; (· exact rfl); (· exact rfl); (· exact rfl); (· exact ho); (· (repeat (first | exact Pick.here | apply Pick.there))); (· (repeat (first | exact Has.here | apply Has.there))); (· exact rfl); (· first | exact onesC rfl | (intro u hu; simp [Value.cells, nsV] at hu; rcases hu with rfl | rfl | rfl <;> rfl)); (· omega); (· omega); (· exact rfl))
    intro v' l' ho'
    refine op_assign rfl rfl ?_
    refine ops_nil ?_
    refine fin_block ?_
    refine fin_code ?_
    refine run_region rfl ?_
    refine op_add rfl rfl rfl (by simp only [kLo, kHi]; omega) ?_
    refine op_move rfl rfl ?_
    refine ops_nil ?_
    refine fin_round (i + 1, v', l') (by dsimp only; omega) (by (repeat (first | exact Sub.nil _ | (refine Sub.cons rfl ?_)))) (by (apply le_of_picks; (repeat (first | exact Picks.nil | (apply Picks.cons; (· (repeat (first | exact Pick.here | apply Pick.there)))) | apply Picks.empty)))) ⟨by dsimp only; omega, ?_⟩
    dsimp only
    rw [htk]
    simpa [Value.cells, nsV] using ho'
  · obtain rfl : i = n := by omega
    rw [List.take_of_length_le (by omega)] at ho
    refine run_seq ?_
    refine run_region rfl ?_
    refine op_cmp_f rfl rfl rfl rfl (by first | (simp only [cmpP]; done) | (simp only [cmpP]; omega)) ?_
    refine ops_nil ?_
    refine fin_code ?_
    refine run_seq ?_
    refine run_cond_f rfl ?_
    refine run_exit ?_
    refine fin_exit_code ?_
    refine fin_exit_inv ?_
    refine fin_exit_here ?_
    refine fin_code ?_
    refine run_seq ?_
    refine run_region rfl ?_
    refine op_move rfl rfl ?_
    refine op_assign rfl rfl ?_
    refine ops_nil ?_
    refine fin_code ?_
    refine run_ret ?_
    refine fin_ret1 rfl rfl ?_
    intro w' g
    exact hR _ _ (post_of g (v, lv) ho rfl (by (apply le_of_picks; (repeat (first | exact Picks.nil | (apply Picks.cons; (· (repeat (first | exact Pick.here | apply Pick.there)))) | apply Picks.empty)))))
set_option maxRecDepth 100000 in
set_option maxHeartbeats 8000000 in
theorem zzTrans_any (w : World) (p md : Nat) (dam : Bool) (v1 : Value) (l : List NS) (lv1 : Hp) (scv N : Nat) (ho1 : Own 82 3 v1 l.length (l.flatMap nsV) lv1)
    (hl : ∀ s ∈ l, s.o + 2 + md ≤ N ∧ s.d ≤ md) (hN : N ≤ 3000) (hmd : md ≤ 8) (hlen : l.length ≤ 60000) (hx : scv < 18446744073709551616) (hw : At w ([laB p md dam, lv1] : List Hp).flatten) :
    Calls Try.prog 20 #[.pointer (some ⟨p, 0, none⟩), v1, .int .u64 scv] w (Post w ([laB p md dam, lv1] : List Hp).flatten (fun y : Value × Hp => y.1)
      (fun y => ([laB p md dam, lv1, y.2] : List Hp).flatten) (fun y => Own 82 3 y.1 (stepP md dam scv l).length ((stepP md dam scv l).flatMap nsV) y.2 ∧ (∀ s ∈ stepP md dam scv l, Bn N md s) ∧ (stepP md dam scv l).Nodup)) := by
  refine enter [laB p md dam, lv1] Try.func20 rfl rfl hw (Le.refl _) ?_
  intro R hR
  obtain ⟨A1, c1, rfl⟩ := ho1.isSlice
  refine run_seq ?_
  refine run_region rfl ?_
  refine op_assign rfl rfl ?_
  refine ops_nil ?_
  refine fin_code ?_
  refine run_seq ?_
  refine run_region rfl ?_
  ((first | (apply op_call; (· exact rfl)) | apply op_call0); (· exact rfl); rotate_left 1; (· exact fun w hG hw => newMS_any w); rotate_right 1; (· (repeat (first | exact Picks.nil | (apply Picks.cons; (· (repeat (first | exact Pick.here | apply Pick.there)))) | apply Picks.empty))))
  rintro ⟨q, A2, c2, lv2⟩ ho2
  dsimp only at ho2 ⊢
  have TR := fun (c : Nat) (w : World) hw => trans_any w p md dam c q (.slice A1 l.length c1) l lv1 A2 c2 lv2 scv N ho1 ho2 hl hN hmd hlen hx hw
  dsimp only [laB, msB] at TR ⊢
  refine op_assign rfl rfl ?_
  refine ops_nil ?_
  refine fin_code ?_
  refine run_seq ?_
  refine run_region rfl ?_
  refine op_move rfl rfl ?_
  refine op_move rfl rfl ?_
  refine op_build rfl rfl rfl (by first | (intro v hv; simp at hv; done) | (intro v hv; simp at hv; rcases hv with rfl | rfl | rfl | rfl | rfl | rfl | rfl <;> rfl) | (intro v hv; simp at hv; rcases hv with rfl | rfl | rfl | rfl | rfl | rfl <;> rfl) | (intro v hv; simp at hv; rcases hv with rfl | rfl | rfl | rfl | rfl <;> rfl) | (intro v hv; simp at hv; rcases hv with rfl | rfl | rfl | rfl <;> rfl) | (intro v hv; simp at hv; rcases hv with rfl | rfl | rfl <;> rfl) | (intro v hv; simp at hv; rcases hv with rfl | rfl <;> rfl) | (intro v hv; simp at hv; rcases hv with rfl; rfl)) rfl ?_
  refine op_boxE (cs := #[.slice A1 l.length c1]) rfl rfl (by simp [Value.cells]) ?_
  intro c _
  refine op_move rfl rfl ?_
  refine op_move rfl rfl ?_
  ((first | (apply op_call; (· exact rfl)) | apply op_call0); (· exact rfl); rotate_left 1; (· exact fun w hG hw => TR c w hw); rotate_right 1; (· (repeat (first | exact Picks.nil | (apply Picks.cons; (· (repeat (first | exact Pick.here | apply Pick.there)))) | apply Picks.empty))))
  rintro ⟨v, lv⟩ ⟨h1, h2, h3⟩
  dsimp only at h1 ⊢
  refine ops_nil ?_
  refine fin_code ?_
  refine run_seq ?_
  refine run_region rfl ?_
  refine op_move rfl rfl ?_
  refine op_nilCheck rfl rfl ?_
  refine op_fieldAddr rfl rfl ?_
  (apply op_load; (· exact rfl); (· exact rfl); (· apply cell_of_has; (· (repeat (first | exact Has.here | apply Has.there))); (· first | exact rfl)))
  refine op_assign rfl rfl ?_
  refine ops_nil ?_
  refine fin_code ?_
  refine run_ret ?_
  refine fin_ret1 rfl rfl ?_
  intro w' g
  exact hR _ _ (post_of g (v, lv) ⟨h1, h2, h3⟩ rfl (by dsimp only [laB]; (apply le_of_picks; (repeat (first | exact Picks.nil | (apply Picks.cons; (· (repeat (first | exact Pick.here | apply Pick.there)))) | apply Picks.empty)))))
set_option maxRecDepth 100000 in
set_option maxHeartbeats 8000000 in
theorem step_any (w : World) (A : Option Addr) (n c md : Nat) (dam : Bool) (l : List NS) (scv N : Nat) (hln : l.length = n) (hr : Rd w w.heap.size A (l.flatMap nsV))
    (hl : ∀ s ∈ l, s.o + 2 + md ≤ N ∧ s.d ≤ md) (hN : N ≤ 3000) (hmd : md ≤ 8) (hlen : n ≤ 60000) (hx : scv < 18446744073709551616) :
    Calls Try.prog 7 #[.slice A n c, .int .u64 scv, .int .u8 md, .bool dam] w (Post w ([] : List Hp).flatten (fun y : Value × Hp => y.1) (fun y => ([y.2] : List Hp).flatten) (fun y => Own 25 3 y.1 (stepP md dam scv l).length ((stepP md dam scv l).flatMap nsV) y.2 ∧ (∀ s ∈ stepP md dam scv l, Bn N md s) ∧ (stepP md dam scv l).Nodup)) := by
  subst hln
  refine enter [] Try.func7 rfl rfl (At.nil w) (Le.refl _) ?_
  intro R hR
  refine run_seq ?_
  refine run_region rfl ?_
  refine op_assign rfl rfl ?_
  refine ops_nil ?_
  refine fin_code ?_
  refine run_seq ?_
  refine run_region rfl ?_
  refine op_move rfl rfl ?_
  refine op_move rfl rfl ?_
  ((first | (apply op_call; (· exact rfl)) | apply op_call0); (· exact rfl); rotate_left 1; (· exact fun w hG hw => zzNfa_any w md dam); rotate_right 1; (· (repeat (first | exact Picks.nil | (apply Picks.cons; (· (repeat (first | exact Pick.here | apply Pick.there)))) | apply Picks.empty))))
  intro p _
  refine op_move rfl rfl ?_
  ((first | (apply op_call; (· exact rfl)) | apply op_call0); (· exact rfl)); (case' hc => (refine fun w hG hw => in_any w A l.length c l rfl hlen ?_)); (case hp => (repeat (first | exact Picks.nil | (apply Picks.cons; (· (repeat (first | exact Pick.here | apply Pick.there)))) | apply Picks.empty)))
  · exact hr.now hG
  rintro ⟨v1, lv1⟩ ho1
  dsimp only at ho1 ⊢
  refine op_move rfl rfl ?_
  ((first | (apply op_call; (· exact rfl)) | apply op_call0); (· exact rfl); rotate_left 1; (· exact fun w hG hw => zzTrans_any w p md dam v1 l lv1 scv N ho1 hl hN hmd hlen hx hw); rotate_right 1; (· (repeat (first | exact Picks.nil | (apply Picks.cons; (· (repeat (first | exact Pick.here | apply Pick.there)))) | apply Picks.empty))))
  rintro ⟨v2, lv2⟩ ⟨h1, h2, h3⟩
  dsimp only at h1 ⊢
  have hbl := bn_len h3 h2
  have hbl2 : (N + 1) * (md + 1) * 2 ≤ 3001 * 9 * 2 := Nat.mul_le_mul_right _ (Nat.mul_le_mul (by omega) (by omega))
  obtain ⟨A2, c2, rfl⟩ := h1.isSlice
  skip
  ((first | (apply op_call; (· exact rfl)) | apply op_call0); (· exact rfl)); (case' hc => (refine fun w hG hw => out_any w A2 (stepP md dam scv l).length c2 (stepP md dam scv l) rfl (by omega) ?_)); (case hp => (repeat (first | exact Picks.nil | (apply Picks.cons; (· (repeat (first | exact Pick.here | apply Pick.there)))) | apply Picks.empty)))
  · exact h1.rd (At.item hG.now (by (repeat (first | exact Pick.here | apply Pick.there))))
  rintro ⟨v3, lv3⟩ ho3
  dsimp only at ho3 ⊢
  refine op_assign rfl rfl ?_
  refine ops_nil ?_
  refine fin_code ?_
  refine run_ret ?_
  refine fin_ret1 rfl rfl ?_
  intro w' g
  exact hR _ _ (post_of g (v3, lv3) ⟨ho3, h2, h3⟩ rfl (by (apply le_of_picks; (repeat (first | exact Picks.nil | (apply Picks.cons; (· (repeat (first | exact Pick.here | apply Pick.there)))) | apply Picks.empty)))))
end Go.Proofs.Eng
