/- A part of the proof: what functions of the program do, step by step. -/
import Derived.Test.YtjfpcckdelocpaaDoorZf
set_option linter.unusedVariables false
set_option linter.unusedSimpArgs false
namespace Go.Proofs.Eng
open Go.RowKit
def p2 (p : Int × Int) : List Value := [.int .i32 p.1, .int .i32 p.2]
def encP (l : List (Int × Int)) : List Value := l.flatMap p2
theorem encP_len (l : List (Int × Int)) : (encP l).length = l.length * 2 := flat_len p2 2 (fun _ => rfl) l
theorem encP_at0 {l : List (Int × Int)} {i : Nat} (h : i < l.length) : (encP l)[i * 2]? = some (.int .i32 l[i].1) := flat_get p2 2 (fun _ => rfl) l i h 0 _ rfl
theorem encP_at1 {l : List (Int × Int)} {i : Nat} (h : i < l.length) : (encP l)[i * 2 + 1]? = some (.int .i32 l[i].2) := flat_get p2 2 (fun _ => rfl) l i h 1 _ rfl
set_option maxRecDepth 100000 in
set_option maxHeartbeats 8000000 in
theorem lawClass_any (w0 : World) (A0 : Option Addr) (ps : List (Int × Int)) (c0 : Nat) (hpl : ps.length ≤ maxLen) (hrp : Rd w0 w0.heap.size A0 (encP ps)) (A : Option Addr) (b : List Nat) (cap : Nat) (hb : ∀ x ∈ b, x ≤ 255) (hlen : b.length ≤ maxLen) (hrd : Rd w0 w0.heap.size A (u8s b))
    (hgl : RdB w0 w0.heap.size 5 (r2 (65535, 0))) (hgl6 : RdB w0 w0.heap.size 6 [.int .u8 255, .int .u8 0]) :
    Calls Tryd.prog 5 #[.slice A0 ps.length c0, .slice A b.length cap] w0 (Post w0 ([] : List Hp).flatten (fun _ : Unit => .bool true) (fun _ => ([] : List Hp).flatten) (fun _ => True)) := by
  refine enter [] Tryd.func5 rfl rfl (At.nil w0) (Le.refl _) ?_
  intro R hR
  simp only [maxLen] at hlen hpl
  by_cases hbig1 : 2147483647 < ps.length
  · refine run_seq ?_
    refine run_region rfl ?_
    refine op_assign rfl rfl ?_
    refine ops_nil ?_
    refine fin_code ?_
    refine run_seq ?_
    refine run_seq ?_
    refine run_region rfl ?_
    refine op_move rfl rfl ?_
    refine op_len rfl rfl ?_
    refine op_cmp_t rfl rfl rfl rfl (by first | (simp only [cmpP]; done) | (simp only [cmpP]; omega)) ?_
    refine op_move rfl rfl ?_
    refine ops_off1 rfl rfl ?_
    refine ops_off1 rfl rfl ?_
    refine ops_off1 rfl rfl ?_
    refine op_pick_t rfl rfl rfl ?_
    refine ops_nil ?_
    refine fin_code ?_
    refine run_cond_t rfl ?_
    refine run_seq ?_
    refine run_region rfl ?_
    refine op_assign rfl rfl ?_
    refine ops_nil ?_
    refine fin_code ?_
    refine run_ret ?_
    refine fin_ret_code ?_
    refine fin_ret1 rfl rfl ?_
    intro w' g
    exact hR _ _ (post_of g () trivial rfl (by (apply le_of_picks; (repeat (first | exact Picks.nil | (apply Picks.cons; (· (repeat (first | exact Pick.here | apply Pick.there)))) | apply Picks.empty)))))
  by_cases hbig : 2147483647 < b.length
  · refine run_seq ?_
    refine run_region rfl ?_
    refine op_assign rfl rfl ?_
    refine ops_nil ?_
    refine fin_code ?_
    refine run_seq ?_
    refine run_seq ?_
    refine run_region rfl ?_
    refine op_move rfl rfl ?_
    refine op_len rfl rfl ?_
    refine op_cmp_f rfl rfl rfl rfl (by first | (simp only [cmpP]; done) | (simp only [cmpP]; omega)) ?_
    refine op_move rfl rfl ?_
    refine ops_guard_yes rfl rfl rfl ?_
    refine op_move rfl rfl ?_
    refine ops_guard_yes rfl rfl rfl ?_
    refine op_len rfl rfl ?_
    refine ops_guard_yes rfl rfl rfl ?_
    refine op_cmp_t rfl rfl rfl rfl (by first | (simp only [cmpP]; done) | (simp only [cmpP]; omega)) ?_
    refine op_pick_f rfl rfl rfl ?_
    refine ops_nil ?_
    refine fin_code ?_
    refine run_cond_t rfl ?_
    refine run_seq ?_
    refine run_region rfl ?_
    refine op_assign rfl rfl ?_
    refine ops_nil ?_
    refine fin_code ?_
    refine run_ret ?_
    refine fin_ret_code ?_
    refine fin_ret1 rfl rfl ?_
    intro w' g
    exact hR _ _ (post_of g () trivial rfl (by (apply le_of_picks; (repeat (first | exact Picks.nil | (apply Picks.cons; (· (repeat (first | exact Pick.here | apply Pick.there)))) | apply Picks.empty)))))
  by_cases h60 : 60 < ps.length
  · refine run_seq ?_
    refine run_region rfl ?_
    refine op_assign rfl rfl ?_
    refine ops_nil ?_
    refine fin_code ?_
    refine run_seq ?_
    refine run_seq ?_
    refine run_region rfl ?_
    refine op_move rfl rfl ?_
    refine op_len rfl rfl ?_
    refine op_cmp_f rfl rfl rfl rfl (by first | (simp only [cmpP]; done) | (simp only [cmpP]; omega)) ?_
    refine op_move rfl rfl ?_
    refine ops_guard_yes rfl rfl rfl ?_
    refine op_move rfl rfl ?_
    refine ops_guard_yes rfl rfl rfl ?_
    refine op_len rfl rfl ?_
    refine ops_guard_yes rfl rfl rfl ?_
    refine op_cmp_f rfl rfl rfl rfl (by first | (simp only [cmpP]; done) | (simp only [cmpP]; omega)) ?_
    refine op_pick_f rfl rfl rfl ?_
    refine ops_nil ?_
    refine fin_code ?_
    refine run_cond_f rfl ?_
    refine run_skip ?_
    refine fin_code ?_
    refine run_seq ?_
    refine run_seq ?_
    refine run_region rfl ?_
    refine op_move rfl rfl ?_
    refine op_len rfl rfl ?_
    refine op_cmp_t rfl rfl rfl rfl (by first | (simp only [cmpP]; done) | (simp only [cmpP]; omega)) ?_
    refine ops_nil ?_
    refine fin_code ?_
    refine run_cond_t rfl ?_
    refine run_seq ?_
    refine run_region rfl ?_
    refine op_assign rfl rfl ?_
    refine ops_nil ?_
    refine fin_code ?_
    refine run_ret ?_
    refine fin_ret_code ?_
    refine fin_ret1 rfl rfl ?_
    intro w' g
    exact hR _ _ (post_of g () trivial rfl (by (apply le_of_picks; (repeat (first | exact Picks.nil | (apply Picks.cons; (· (repeat (first | exact Pick.here | apply Pick.there)))) | apply Picks.empty)))))
  refine run_seq ?_
  refine run_region rfl ?_
  refine op_assign rfl rfl ?_
  refine ops_nil ?_
  refine fin_code ?_
  refine run_seq ?_
  refine run_seq ?_
  refine run_region rfl ?_
  refine op_move rfl rfl ?_
  refine op_len rfl rfl ?_
  refine op_cmp_f rfl rfl rfl rfl (by first | (simp only [cmpP]; done) | (simp only [cmpP]; omega)) ?_
  refine op_move rfl rfl ?_
  refine ops_guard_yes rfl rfl rfl ?_
  refine op_move rfl rfl ?_
  refine ops_guard_yes rfl rfl rfl ?_
  refine op_len rfl rfl ?_
  refine ops_guard_yes rfl rfl rfl ?_
  refine op_cmp_f rfl rfl rfl rfl (by first | (simp only [cmpP]; done) | (simp only [cmpP]; omega)) ?_
  refine op_pick_f rfl rfl rfl ?_
  refine ops_nil ?_
  refine fin_code ?_
  refine run_cond_f rfl ?_
  refine run_skip ?_
  refine fin_code ?_
  refine run_seq ?_
  refine run_seq ?_
  refine run_region rfl ?_
  refine op_move rfl rfl ?_
  refine op_len rfl rfl ?_
  refine op_cmp_f rfl rfl rfl rfl (by first | (simp only [cmpP]; done) | (simp only [cmpP]; omega)) ?_
  refine ops_nil ?_
  refine fin_code ?_
  refine run_cond_f rfl ?_
  refine run_skip ?_
  refine fin_code ?_
  refine run_seq ?_
  refine run_region rfl ?_
  refine op_move rfl rfl ?_
  ((first | (apply op_call; (· exact rfl)) | apply op_call0); (· exact rfl)); (case' hc => (refine fun w hG hw => letter_any w A b cap hb (by simp only [maxLen]; omega) ?_)); (case hp => (repeat (first | exact Picks.nil | (apply Picks.cons; (· (repeat (first | exact Pick.here | apply Pick.there)))) | apply Picks.empty)))
  · exact hrd.now hG
  rintro ⟨r, k⟩ hlet
  dsimp only
  have hkl : k ≤ 4 := by
    rcases hlet with ⟨h, _⟩ | ⟨_, h, _⟩ <;> dsimp only at h
    · omega
    · rw [h]; exact encN_len4 r
  have hrl : r ≤ 1114111 := by
    rcases hlet with ⟨_, h, _⟩ | ⟨h, _⟩
    · dsimp only at h; omega
    · exact h.1
  refine op_move rfl rfl ?_
  refine op_extract rfl rfl rfl ?_
  refine op_extract rfl rfl rfl ?_
  refine op_assign rfl rfl ?_
  refine op_assign rfl rfl ?_
  refine ops_nil ?_
  refine fin_code ?_
  refine run_seq ?_
  refine run_region rfl ?_
  refine op_assign rfl rfl ?_
  refine op_assign rfl rfl ?_
  refine ops_nil ?_
  refine fin_code ?_
  refine run_seq ?_
  refine run_seq ?_
  refine run_region rfl ?_
  refine op_assign rfl rfl ?_
  refine ops_nil ?_
  refine fin_code ?_
  refine run_block ?_
  refine run_loop (α := Nat × Bool) (fun x => [(0, .slice A0 ps.length c0), (1, .slice A b.length cap), (5, .int .i64 (r : Nat)), (6, .int .i64 (k : Nat)), (7, .bool x.2), (8, .bool x.2), (9, .int .i64 (x.1 : Nat))]) (fun _ => []) (fun x => x.1 ≤ ps.length) (fun x => ps.length - x.1) (0, false) (Nat.zero_le _) (by (repeat (first | exact Sub.nil _ | (refine Sub.cons rfl ?_)))) (by (apply le_of_picks; (repeat (first | exact Picks.nil | (apply Picks.cons; (· (repeat (first | exact Pick.here | apply Pick.there)))) | apply Picks.empty)))) ?_
  rintro ⟨i, v⟩ hi
  dsimp only at hi ⊢
  by_cases h : i < ps.length
  rotate_left 1
  · refine run_seq ?_
    refine run_seq ?_
    refine run_region rfl ?_
    refine op_move rfl rfl ?_
    refine op_move rfl rfl ?_
    refine op_len rfl rfl ?_
    refine op_cmp_f rfl rfl rfl rfl (by first | (simp only [cmpP]; done) | (simp only [cmpP]; omega)) ?_
    refine ops_nil ?_
    refine fin_code ?_
    refine run_cond_f rfl ?_
    refine run_exit ?_
    refine fin_exit_code ?_
    refine fin_exit_inv ?_
    refine fin_exit_here ?_
    refine fin_code ?_
    refine run_seq ?_
    refine run_region rfl ?_
    refine op_move rfl rfl ?_
    refine op_move rfl rfl ?_
    (refine op_eqb rfl rfl rfl ?_)
    refine op_assign rfl rfl ?_
    refine ops_nil ?_
    refine fin_code ?_
    refine run_ret ?_
    refine fin_ret1 rfl rfl ?_
    intro w' g
    exact hR _ _ (post_of g () trivial (by simp) (by (apply le_of_picks; (repeat (first | exact Picks.nil | (apply Picks.cons; (· (repeat (first | exact Pick.here | apply Pick.there)))) | apply Picks.empty)))))
  obtain ⟨gp, op, rfl, hgp, hcp⟩ := hrp.some (by rw [encP_len]; omega)
  have hp0 := encP_at0 h
  have hp1 := encP_at1 h
  generalize hpi : ps[i] = p at hp0 hp1
  obtain ⟨fi, la⟩ := p
  dsimp only at hp0 hp1
  refine run_seq ?_
  refine run_seq ?_
  refine run_region rfl ?_
  refine op_move rfl rfl ?_
  refine op_move rfl rfl ?_
  refine op_len rfl rfl ?_
  refine op_cmp_t rfl rfl rfl rfl (by first | (simp only [cmpP]; done) | (simp only [cmpP]; omega)) ?_
  refine ops_nil ?_
  refine fin_code ?_
  refine run_cond_t rfl ?_
  refine run_skip ?_
  refine fin_code ?_
  refine run_seq ?_
  refine run_block ?_
  refine run_seq ?_
  refine run_seq ?_
  refine run_drawS [] (by kernel_rfl) ?_
  refine dr_stab 0 rfl rfl (Val.s (val_move rfl)) (by decide +kernel) rfl rfl ?_
  refine dr_stab 1 rfl rfl (Val.s (val_move rfl)) (by decide +kernel) rfl rfl ?_
  refine dr_stab 2 rfl rfl (Val.s (val_index rfl rfl (by omega) (by first | (rw [Int.toNat_natCast, Nat.mul_one, Nat.zero_add]) | (rw [Int.toNat_natCast, Nat.mul_one]) | (rw [Int.toNat_natCast, Nat.zero_add]) | (rw [Int.toNat_natCast]) | exact rfl))) (by decide +kernel) rfl rfl ?_
  refine dr_stab 3 rfl rfl (Val.s (val_indexP rfl rfl (by omega))) (by decide +kernel) rfl rfl ?_
  (apply dr_stab 4; (· exact rfl); (· exact rfl); (· apply ValAt.s; (first | (apply val_load; (· exact rfl); (· apply cell_of_has; (· (repeat (first | exact Has.here | apply Has.there))); (· first | exact rfl | exact hget))) | (apply val_load; (· exact rfl); (· first | exact Rd.cellE hcp hgp (by simp [ids]) (by first | rfl | omega) hp0 | exact Rd.cellE hcp hgp (by simp [ids]) (by first | rfl | omega) hp1)))); (· decide +kernel); (· exact rfl); (· exact rfl))
  refine dr_stab 5 rfl rfl (Val.s (val_move rfl)) (by decide +kernel) rfl rfl ?_
  refine dr_stab 6 rfl rfl (Val.s (val_move rfl)) (by decide +kernel) rfl rfl ?_
  refine dr_stab 7 rfl rfl (Val.s (val_index rfl rfl (by omega) (by first | (rw [Int.toNat_natCast, Nat.mul_one, Nat.zero_add]) | (rw [Int.toNat_natCast, Nat.mul_one]) | (rw [Int.toNat_natCast, Nat.zero_add]) | (rw [Int.toNat_natCast]) | exact rfl))) (by decide +kernel) rfl rfl ?_
  refine dr_stab 8 rfl rfl (Val.s (val_indexP rfl rfl (by omega))) (by decide +kernel) rfl rfl ?_
  (apply dr_stab 9; (· exact rfl); (· exact rfl); (· apply ValAt.s; (first | (apply val_load; (· exact rfl); (· apply cell_of_has; (· (repeat (first | exact Has.here | apply Has.there))); (· first | exact rfl | exact hget))) | (apply val_load; (· exact rfl); (· first | exact Rd.cellE hcp hgp (by simp [ids]) (by first | rfl | omega) hp0 | exact Rd.cellE hcp hgp (by simp [ids]) (by first | rfl | omega) hp1)))); (· decide +kernel); (· exact rfl); (· exact rfl))
  (refine dr_one 10 rfl (by decide +kernel) (by (apply le_of_picks; (repeat (first | exact Picks.nil | (apply Picks.cons; (· (repeat (first | exact Pick.here | apply Pick.there)))) | apply Picks.empty)))) ?_)
  by_cases h2 : 0 ≤ fi ∧ fi ≤ la ∧ la ≤ 1114111
  rotate_left 1
  · ((first | (apply op_call; (· exact rfl)) | apply op_call0); (· exact rfl); rotate_left 1; (· exact fun w hG hw => ranged_any w fi la false (by simp only [Bool.false_eq_true, false_iff]; exact h2)); rotate_right 1; (· (repeat (first | exact Picks.nil | (apply Picks.cons; (· (repeat (first | exact Pick.here | apply Pick.there)))) | apply Picks.empty))))
    intro _ _
    refine ops_nil ?_
    refine fin_draw ?_
    refine dr_stab 11 rfl rfl (Val.s (val_not rfl)) (by decide +kernel) rfl rfl ?_
    (refine dr_done (by decide +kernel) (by (apply le_of_picks; (repeat (first | exact Picks.nil | (apply Picks.cons; (· (repeat (first | exact Pick.here | apply Pick.there)))) | apply Picks.empty)))) ?_)
    refine fin_code ?_
    refine run_cond_t rfl ?_
    refine run_seq ?_
    refine run_region rfl ?_
    refine op_assign rfl rfl ?_
    refine ops_nil ?_
    refine fin_code ?_
    refine run_ret ?_
    refine fin_ret_code ?_
    refine fin_ret_block ?_
    refine fin_ret_code ?_
    refine fin_ret_inv ?_
    refine fin_ret_block ?_
    refine fin_ret_code ?_
    refine fin_ret1 rfl rfl ?_
    intro w' g
    exact hR _ _ (post_of g () trivial rfl (by (apply le_of_picks; (repeat (first | exact Picks.nil | (apply Picks.cons; (· (repeat (first | exact Pick.here | apply Pick.there)))) | apply Picks.empty)))))
  ((first | (apply op_call; (· exact rfl)) | apply op_call0); (· exact rfl); rotate_left 1; (· exact fun w hG hw => ranged_any w fi la true (by simp only [true_iff]; exact h2)); rotate_right 1; (· (repeat (first | exact Picks.nil | (apply Picks.cons; (· (repeat (first | exact Pick.here | apply Pick.there)))) | apply Picks.empty))))
  intro _ _
  refine ops_nil ?_
  refine fin_draw ?_
  refine dr_stab 11 rfl rfl (Val.s (val_not rfl)) (by decide +kernel) rfl rfl ?_
  (refine dr_done (by decide +kernel) (by (apply le_of_picks; (repeat (first | exact Picks.nil | (apply Picks.cons; (· (repeat (first | exact Pick.here | apply Pick.there)))) | apply Picks.empty)))) ?_)
  obtain ⟨f, rfl⟩ : ∃ n : Nat, fi = n := ⟨fi.toNat, by omega⟩
  obtain ⟨l, rfl⟩ : ∃ n : Nat, la = n := ⟨la.toNat, by omega⟩
  have hiff := hlet.s.iff (lo := f) (hi := l)
  dsimp only at hiff
  refine fin_code ?_
  refine run_cond_f rfl ?_
  refine run_skip ?_
  refine fin_code ?_
  refine run_seq ?_
  refine run_region rfl ?_
  refine op_move rfl rfl ?_
  refine op_move rfl rfl ?_
  refine ops_join (α := Bool) (fun u => [(0, .slice (some ⟨gp, op, none⟩) ps.length c0), (1, .slice A b.length cap), (5, .int .i64 (r : Nat)), (6, .int .i64 (k : Nat)), (7, .bool u), (8, .bool v), (9, .int .i64 (i : Nat))]) (fun _ => [])
    (fun u => u = true ↔ (v = true ∨ (0 < k ∧ k = b.length ∧ f ≤ r ∧ r ≤ l))) ?_ ?_
  rotate_left 1
  · intro J
    cases v with
    | true =>
      have J1 := J true (by simp)
      refine ops_off1 rfl rfl ?_
      refine ops_off1 rfl rfl ?_
      refine ops_off1 rfl rfl ?_
      refine ops_off1 rfl rfl ?_
      refine ops_off1 rfl rfl ?_
      refine ops_off1 rfl rfl ?_
      refine ops_off1 rfl rfl ?_
      refine ops_off1 rfl rfl ?_
      refine ops_off1 rfl rfl ?_
      refine ops_off1 rfl rfl ?_
      refine ops_off1 rfl rfl ?_
      refine ops_off1 rfl rfl ?_
      refine ops_off1 rfl rfl ?_
      refine ops_off1 rfl rfl ?_
      refine ops_off1 rfl rfl ?_
      refine ops_off1 rfl rfl ?_
      refine ops_off1 rfl rfl ?_
      refine ops_off1 rfl rfl ?_
      refine ops_off1 rfl rfl ?_
      refine ops_off1 rfl rfl ?_
      refine ops_off1 rfl rfl ?_
      refine ops_off1 rfl rfl ?_
      refine ops_off1 rfl rfl ?_
      refine ops_off1 rfl rfl ?_
      refine ops_off1 rfl rfl ?_
      refine ops_off1 rfl rfl ?_
      refine ops_off1 rfl rfl ?_
      refine ops_off1 rfl rfl ?_
      refine op_pick_t rfl rfl rfl ?_
      refine op_assign rfl rfl ?_
      refine ops_nil ?_
      (apply J1)
      · (repeat (first | exact Sub.nil _ | (refine Sub.cons rfl ?_)))
      · (apply le_of_picks; (repeat (first | exact Picks.nil | (apply Picks.cons; (· (repeat (first | exact Pick.here | apply Pick.there)))) | apply Picks.empty)))
    | false =>
      by_cases g1 : 0 < k
      · by_cases g2 : k = b.length
        · by_cases g3 : f ≤ r
          · by_cases g4 : r ≤ l
            · have J1 := J true (by simp only [true_iff]; exact .inr ⟨g1, g2, g3, g4⟩)
              refine ops_guard_yes rfl rfl rfl ?_
              refine op_move rfl rfl ?_
              refine ops_guard_yes rfl rfl rfl ?_
              refine op_cmp_t rfl rfl rfl rfl (by first | (simp only [cmpP]; done) | (simp only [cmpP]; omega)) ?_
              refine ops_guard_yes rfl rfl rfl ?_
              refine op_move rfl rfl ?_
              refine ops_guard_yes rfl rfl rfl ?_
              refine op_move rfl rfl ?_
              refine ops_guard_yes rfl rfl rfl ?_
              refine op_move rfl rfl ?_
              refine ops_guard_yes rfl rfl rfl ?_
              refine op_len rfl rfl ?_
              refine ops_guard_yes rfl rfl rfl ?_
              refine op_cmp_t rfl rfl rfl rfl (by first | (simp only [cmpP]; done) | (simp only [cmpP]; omega)) ?_
              refine ops_guard_yes rfl rfl rfl ?_
              refine op_pick_t rfl rfl rfl ?_
              refine ops_guard_yes rfl rfl rfl ?_
              refine op_move rfl rfl ?_
              refine ops_guard_yes rfl rfl rfl ?_
              refine op_move rfl rfl ?_
              refine ops_guard_yes rfl rfl rfl ?_
              refine op_move rfl rfl ?_
              refine ops_guard_yes rfl rfl rfl ?_
              refine op_move rfl rfl ?_
              refine ops_guard_yes rfl rfl rfl ?_
              refine op_index rfl rfl rfl (by omega) (by first | (rw [Int.toNat_natCast, Nat.mul_one, Nat.zero_add]) | (rw [Int.toNat_natCast, Nat.mul_one]) | (rw [Int.toNat_natCast, Nat.zero_add]) | (rw [Int.toNat_natCast]) | exact rfl) ?_
              refine ops_guard_yes rfl rfl rfl ?_
              (refine op_indexP rfl rfl rfl (by omega) ?_)
              refine ops_guard_yes rfl rfl rfl ?_
              (apply op_load; (· exact rfl); (· exact rfl); (· first | exact Rd.cellE hcp hgp (by simp [ids]) (by first | rfl | omega) hp0 | exact Rd.cellE hcp hgp (by simp [ids]) (by first | rfl | omega) hp1))
              refine ops_guard_yes rfl rfl rfl ?_
              refine op_conv rfl rfl (by simp only [kLo, kHi]; omega) ?_
              refine ops_guard_yes rfl rfl rfl ?_
              refine op_cmp_t rfl rfl rfl rfl (by first | (simp only [cmpP]; done) | (simp only [cmpP]; omega)) ?_
              refine ops_guard_yes rfl rfl rfl ?_
              refine op_pick_t rfl rfl rfl ?_
              refine ops_guard_yes rfl rfl rfl ?_
              refine op_move rfl rfl ?_
              refine ops_guard_yes rfl rfl rfl ?_
              refine op_move rfl rfl ?_
              refine ops_guard_yes rfl rfl rfl ?_
              refine op_move rfl rfl ?_
              refine ops_guard_yes rfl rfl rfl ?_
              refine op_move rfl rfl ?_
              refine ops_guard_yes rfl rfl rfl ?_
              refine op_index rfl rfl rfl (by omega) (by first | (rw [Int.toNat_natCast, Nat.mul_one, Nat.zero_add]) | (rw [Int.toNat_natCast, Nat.mul_one]) | (rw [Int.toNat_natCast, Nat.zero_add]) | (rw [Int.toNat_natCast]) | exact rfl) ?_
              refine ops_guard_yes rfl rfl rfl ?_
              (refine op_indexP rfl rfl rfl (by omega) ?_)
              refine ops_guard_yes rfl rfl rfl ?_
              (apply op_load; (· exact rfl); (· exact rfl); (· first | exact Rd.cellE hcp hgp (by simp [ids]) (by first | rfl | omega) hp0 | exact Rd.cellE hcp hgp (by simp [ids]) (by first | rfl | omega) hp1))
              refine ops_guard_yes rfl rfl rfl ?_
              refine op_conv rfl rfl (by simp only [kLo, kHi]; omega) ?_
              refine ops_guard_yes rfl rfl rfl ?_
              refine op_cmp_t rfl rfl rfl rfl (by first | (simp only [cmpP]; done) | (simp only [cmpP]; omega)) ?_
              refine ops_guard_yes rfl rfl rfl ?_
              refine op_pick_t rfl rfl rfl ?_
              refine op_pick_f rfl rfl rfl ?_
              refine op_assign rfl rfl ?_
              refine ops_nil ?_
              (apply J1)
              · (repeat (first | exact Sub.nil _ | (refine Sub.cons rfl ?_)))
              · (apply le_of_picks; (repeat (first | exact Picks.nil | (apply Picks.cons; (· (repeat (first | exact Pick.here | apply Pick.there)))) | apply Picks.empty)))
            · have J1 := J false (by simp only [Bool.false_eq_true, false_iff, false_or]; omega)
              refine ops_guard_yes rfl rfl rfl ?_
              refine op_move rfl rfl ?_
              refine ops_guard_yes rfl rfl rfl ?_
              refine op_cmp_t rfl rfl rfl rfl (by first | (simp only [cmpP]; done) | (simp only [cmpP]; omega)) ?_
              refine ops_guard_yes rfl rfl rfl ?_
              refine op_move rfl rfl ?_
              refine ops_guard_yes rfl rfl rfl ?_
              refine op_move rfl rfl ?_
              refine ops_guard_yes rfl rfl rfl ?_
              refine op_move rfl rfl ?_
              refine ops_guard_yes rfl rfl rfl ?_
              refine op_len rfl rfl ?_
              refine ops_guard_yes rfl rfl rfl ?_
              refine op_cmp_t rfl rfl rfl rfl (by first | (simp only [cmpP]; done) | (simp only [cmpP]; omega)) ?_
              refine ops_guard_yes rfl rfl rfl ?_
              refine op_pick_t rfl rfl rfl ?_
              refine ops_guard_yes rfl rfl rfl ?_
              refine op_move rfl rfl ?_
              refine ops_guard_yes rfl rfl rfl ?_
              refine op_move rfl rfl ?_
              refine ops_guard_yes rfl rfl rfl ?_
              refine op_move rfl rfl ?_
              refine ops_guard_yes rfl rfl rfl ?_
              refine op_move rfl rfl ?_
              refine ops_guard_yes rfl rfl rfl ?_
              refine op_index rfl rfl rfl (by omega) (by first | (rw [Int.toNat_natCast, Nat.mul_one, Nat.zero_add]) | (rw [Int.toNat_natCast, Nat.mul_one]) | (rw [Int.toNat_natCast, Nat.zero_add]) | (rw [Int.toNat_natCast]) | exact rfl) ?_
              refine ops_guard_yes rfl rfl rfl ?_
              (refine op_indexP rfl rfl rfl (by omega) ?_)
              refine ops_guard_yes rfl rfl rfl ?_
              (apply op_load; (· exact rfl); (· exact rfl); (· first | exact Rd.cellE hcp hgp (by simp [ids]) (by first | rfl | omega) hp0 | exact Rd.cellE hcp hgp (by simp [ids]) (by first | rfl | omega) hp1))
              refine ops_guard_yes rfl rfl rfl ?_
              refine op_conv rfl rfl (by simp only [kLo, kHi]; omega) ?_
              refine ops_guard_yes rfl rfl rfl ?_
              refine op_cmp_t rfl rfl rfl rfl (by first | (simp only [cmpP]; done) | (simp only [cmpP]; omega)) ?_
              refine ops_guard_yes rfl rfl rfl ?_
              refine op_pick_t rfl rfl rfl ?_
              refine ops_guard_yes rfl rfl rfl ?_
              refine op_move rfl rfl ?_
              refine ops_guard_yes rfl rfl rfl ?_
              refine op_move rfl rfl ?_
              refine ops_guard_yes rfl rfl rfl ?_
              refine op_move rfl rfl ?_
              refine ops_guard_yes rfl rfl rfl ?_
              refine op_move rfl rfl ?_
              refine ops_guard_yes rfl rfl rfl ?_
              refine op_index rfl rfl rfl (by omega) (by first | (rw [Int.toNat_natCast, Nat.mul_one, Nat.zero_add]) | (rw [Int.toNat_natCast, Nat.mul_one]) | (rw [Int.toNat_natCast, Nat.zero_add]) | (rw [Int.toNat_natCast]) | exact rfl) ?_
              refine ops_guard_yes rfl rfl rfl ?_
              (refine op_indexP rfl rfl rfl (by omega) ?_)
              refine ops_guard_yes rfl rfl rfl ?_
              (apply op_load; (· exact rfl); (· exact rfl); (· first | exact Rd.cellE hcp hgp (by simp [ids]) (by first | rfl | omega) hp0 | exact Rd.cellE hcp hgp (by simp [ids]) (by first | rfl | omega) hp1))
              refine ops_guard_yes rfl rfl rfl ?_
              refine op_conv rfl rfl (by simp only [kLo, kHi]; omega) ?_
              refine ops_guard_yes rfl rfl rfl ?_
              refine op_cmp_f rfl rfl rfl rfl (by first | (simp only [cmpP]; done) | (simp only [cmpP]; omega)) ?_
              refine ops_guard_yes rfl rfl rfl ?_
              refine op_pick_t rfl rfl rfl ?_
              refine op_pick_f rfl rfl rfl ?_
              refine op_assign rfl rfl ?_
              refine ops_nil ?_
              (apply J1)
              · (repeat (first | exact Sub.nil _ | (refine Sub.cons rfl ?_)))
              · (apply le_of_picks; (repeat (first | exact Picks.nil | (apply Picks.cons; (· (repeat (first | exact Pick.here | apply Pick.there)))) | apply Picks.empty)))
          · have J1 := J false (by simp only [Bool.false_eq_true, false_iff, false_or]; omega)
            refine ops_guard_yes rfl rfl rfl ?_
            refine op_move rfl rfl ?_
            refine ops_guard_yes rfl rfl rfl ?_
            refine op_cmp_t rfl rfl rfl rfl (by first | (simp only [cmpP]; done) | (simp only [cmpP]; omega)) ?_
            refine ops_guard_yes rfl rfl rfl ?_
            refine op_move rfl rfl ?_
            refine ops_guard_yes rfl rfl rfl ?_
            refine op_move rfl rfl ?_
            refine ops_guard_yes rfl rfl rfl ?_
            refine op_move rfl rfl ?_
            refine ops_guard_yes rfl rfl rfl ?_
            refine op_len rfl rfl ?_
            refine ops_guard_yes rfl rfl rfl ?_
            refine op_cmp_t rfl rfl rfl rfl (by first | (simp only [cmpP]; done) | (simp only [cmpP]; omega)) ?_
            refine ops_guard_yes rfl rfl rfl ?_
            refine op_pick_t rfl rfl rfl ?_
            refine ops_guard_yes rfl rfl rfl ?_
            refine op_move rfl rfl ?_
            refine ops_guard_yes rfl rfl rfl ?_
            refine op_move rfl rfl ?_
            refine ops_guard_yes rfl rfl rfl ?_
            refine op_move rfl rfl ?_
            refine ops_guard_yes rfl rfl rfl ?_
            refine op_move rfl rfl ?_
            refine ops_guard_yes rfl rfl rfl ?_
            refine op_index rfl rfl rfl (by omega) (by first | (rw [Int.toNat_natCast, Nat.mul_one, Nat.zero_add]) | (rw [Int.toNat_natCast, Nat.mul_one]) | (rw [Int.toNat_natCast, Nat.zero_add]) | (rw [Int.toNat_natCast]) | exact rfl) ?_
            refine ops_guard_yes rfl rfl rfl ?_
            (refine op_indexP rfl rfl rfl (by omega) ?_)
            refine ops_guard_yes rfl rfl rfl ?_
            (apply op_load; (· exact rfl); (· exact rfl); (· first | exact Rd.cellE hcp hgp (by simp [ids]) (by first | rfl | omega) hp0 | exact Rd.cellE hcp hgp (by simp [ids]) (by first | rfl | omega) hp1))
            refine ops_guard_yes rfl rfl rfl ?_
            refine op_conv rfl rfl (by simp only [kLo, kHi]; omega) ?_
            refine ops_guard_yes rfl rfl rfl ?_
            refine op_cmp_f rfl rfl rfl rfl (by first | (simp only [cmpP]; done) | (simp only [cmpP]; omega)) ?_
            refine ops_guard_yes rfl rfl rfl ?_
            refine op_pick_t rfl rfl rfl ?_
            refine ops_guard_yes rfl rfl rfl ?_
            refine op_move rfl rfl ?_
            refine ops_off1 rfl rfl ?_
            refine ops_off1 rfl rfl ?_
            refine ops_off1 rfl rfl ?_
            refine ops_off1 rfl rfl ?_
            refine ops_off1 rfl rfl ?_
            refine ops_off1 rfl rfl ?_
            refine ops_off1 rfl rfl ?_
            refine ops_off1 rfl rfl ?_
            refine ops_guard_yes rfl rfl rfl ?_
            refine op_pick_f rfl rfl rfl ?_
            refine op_pick_f rfl rfl rfl ?_
            refine op_assign rfl rfl ?_
            refine ops_nil ?_
            (apply J1)
            · (repeat (first | exact Sub.nil _ | (refine Sub.cons rfl ?_)))
            · (apply le_of_picks; (repeat (first | exact Picks.nil | (apply Picks.cons; (· (repeat (first | exact Pick.here | apply Pick.there)))) | apply Picks.empty)))
        · have J1 := J false (by simp only [Bool.false_eq_true, false_iff, false_or]; omega)
          refine ops_guard_yes rfl rfl rfl ?_
          refine op_move rfl rfl ?_
          refine ops_guard_yes rfl rfl rfl ?_
          refine op_cmp_t rfl rfl rfl rfl (by first | (simp only [cmpP]; done) | (simp only [cmpP]; omega)) ?_
          refine ops_guard_yes rfl rfl rfl ?_
          refine op_move rfl rfl ?_
          refine ops_guard_yes rfl rfl rfl ?_
          refine op_move rfl rfl ?_
          refine ops_guard_yes rfl rfl rfl ?_
          refine op_move rfl rfl ?_
          refine ops_guard_yes rfl rfl rfl ?_
          refine op_len rfl rfl ?_
          refine ops_guard_yes rfl rfl rfl ?_
          refine op_cmp_f rfl rfl rfl rfl (by first | (simp only [cmpP]; done) | (simp only [cmpP]; omega)) ?_
          refine ops_guard_yes rfl rfl rfl ?_
          refine op_pick_t rfl rfl rfl ?_
          refine ops_guard_yes rfl rfl rfl ?_
          refine op_move rfl rfl ?_
          refine ops_off1 rfl rfl ?_
          refine ops_off1 rfl rfl ?_
          refine ops_off1 rfl rfl ?_
          refine ops_off1 rfl rfl ?_
          refine ops_off1 rfl rfl ?_
          refine ops_off1 rfl rfl ?_
          refine ops_off1 rfl rfl ?_
          refine ops_off1 rfl rfl ?_
          refine ops_guard_yes rfl rfl rfl ?_
          refine op_pick_f rfl rfl rfl ?_
          refine ops_guard_yes rfl rfl rfl ?_
          refine op_move rfl rfl ?_
          refine ops_off1 rfl rfl ?_
          refine ops_off1 rfl rfl ?_
          refine ops_off1 rfl rfl ?_
          refine ops_off1 rfl rfl ?_
          refine ops_off1 rfl rfl ?_
          refine ops_off1 rfl rfl ?_
          refine ops_off1 rfl rfl ?_
          refine ops_off1 rfl rfl ?_
          refine ops_guard_yes rfl rfl rfl ?_
          refine op_pick_f rfl rfl rfl ?_
          refine op_pick_f rfl rfl rfl ?_
          refine op_assign rfl rfl ?_
          refine ops_nil ?_
          (apply J1)
          · (repeat (first | exact Sub.nil _ | (refine Sub.cons rfl ?_)))
          · (apply le_of_picks; (repeat (first | exact Picks.nil | (apply Picks.cons; (· (repeat (first | exact Pick.here | apply Pick.there)))) | apply Picks.empty)))
      · have J1 := J false (by simp only [Bool.false_eq_true, false_iff, false_or]; omega)
        refine ops_guard_yes rfl rfl rfl ?_
        refine op_move rfl rfl ?_
        refine ops_guard_yes rfl rfl rfl ?_
        refine op_cmp_f rfl rfl rfl rfl (by first | (simp only [cmpP]; done) | (simp only [cmpP]; omega)) ?_
        refine ops_guard_yes rfl rfl rfl ?_
        refine op_move rfl rfl ?_
        refine ops_off1 rfl rfl ?_
        refine ops_off1 rfl rfl ?_
        refine ops_off1 rfl rfl ?_
        refine ops_off1 rfl rfl ?_
        refine ops_guard_yes rfl rfl rfl ?_
        refine op_pick_f rfl rfl rfl ?_
        refine ops_guard_yes rfl rfl rfl ?_
        refine op_move rfl rfl ?_
        refine ops_off1 rfl rfl ?_
        refine ops_off1 rfl rfl ?_
        refine ops_off1 rfl rfl ?_
        refine ops_off1 rfl rfl ?_
        refine ops_off1 rfl rfl ?_
        refine ops_off1 rfl rfl ?_
        refine ops_off1 rfl rfl ?_
        refine ops_off1 rfl rfl ?_
        refine ops_guard_yes rfl rfl rfl ?_
        refine op_pick_f rfl rfl rfl ?_
        refine ops_guard_yes rfl rfl rfl ?_
        refine op_move rfl rfl ?_
        refine ops_off1 rfl rfl ?_
        refine ops_off1 rfl rfl ?_
        refine ops_off1 rfl rfl ?_
        refine ops_off1 rfl rfl ?_
        refine ops_off1 rfl rfl ?_
        refine ops_off1 rfl rfl ?_
        refine ops_off1 rfl rfl ?_
        refine ops_off1 rfl rfl ?_
        refine ops_guard_yes rfl rfl rfl ?_
        refine op_pick_f rfl rfl rfl ?_
        refine op_pick_f rfl rfl rfl ?_
        refine op_assign rfl rfl ?_
        refine ops_nil ?_
        (apply J1)
        · (repeat (first | exact Sub.nil _ | (refine Sub.cons rfl ?_)))
        · (apply le_of_picks; (repeat (first | exact Picks.nil | (apply Picks.cons; (· (repeat (first | exact Pick.here | apply Pick.there)))) | apply Picks.empty)))
  intro u hu
  rw [hiff] at hu
  refine fin_code ?_
  refine run_seq ?_
  refine run_drawS [] (by kernel_rfl) ?_
  refine dr_stab 0 rfl rfl (Val.s (val_move rfl)) (by decide +kernel) rfl rfl ?_
  refine dr_stab 1 rfl rfl (Val.s (val_move rfl)) (by decide +kernel) rfl rfl ?_
  refine dr_stab 2 rfl rfl (Val.s (val_index rfl rfl (by omega) (by first | (rw [Int.toNat_natCast, Nat.mul_one, Nat.zero_add]) | (rw [Int.toNat_natCast, Nat.mul_one]) | (rw [Int.toNat_natCast, Nat.zero_add]) | (rw [Int.toNat_natCast]) | exact rfl))) (by decide +kernel) rfl rfl ?_
  refine dr_stab 3 rfl rfl (Val.s (val_indexP rfl rfl (by omega))) (by decide +kernel) rfl rfl ?_
  (apply dr_stab 4; (· exact rfl); (· exact rfl); (· apply ValAt.s; (first | (apply val_load; (· exact rfl); (· apply cell_of_has; (· (repeat (first | exact Has.here | apply Has.there))); (· first | exact rfl | exact hget))) | (apply val_load; (· exact rfl); (· first | exact Rd.cellE hcp hgp (by simp [ids]) (by first | rfl | omega) hp0 | exact Rd.cellE hcp hgp (by simp [ids]) (by first | rfl | omega) hp1)))); (· decide +kernel); (· exact rfl); (· exact rfl))
  refine dr_stab 5 rfl rfl (Val.s (val_move rfl)) (by decide +kernel) rfl rfl ?_
  refine dr_stab 6 rfl rfl (Val.s (val_move rfl)) (by decide +kernel) rfl rfl ?_
  refine dr_stab 7 rfl rfl (Val.s (val_index rfl rfl (by omega) (by first | (rw [Int.toNat_natCast, Nat.mul_one, Nat.zero_add]) | (rw [Int.toNat_natCast, Nat.mul_one]) | (rw [Int.toNat_natCast, Nat.zero_add]) | (rw [Int.toNat_natCast]) | exact rfl))) (by decide +kernel) rfl rfl ?_
  refine dr_stab 8 rfl rfl (Val.s (val_indexP rfl rfl (by omega))) (by decide +kernel) rfl rfl ?_
  (apply dr_stab 9; (· exact rfl); (· exact rfl); (· apply ValAt.s; (first | (apply val_load; (· exact rfl); (· apply cell_of_has; (· (repeat (first | exact Has.here | apply Has.there))); (· first | exact rfl | exact hget))) | (apply val_load; (· exact rfl); (· first | exact Rd.cellE hcp hgp (by simp [ids]) (by first | rfl | omega) hp0 | exact Rd.cellE hcp hgp (by simp [ids]) (by first | rfl | omega) hp1)))); (· decide +kernel); (· exact rfl); (· exact rfl))
  (refine dr_one 10 rfl (by decide +kernel) (by (apply le_of_picks; (repeat (first | exact Picks.nil | (apply Picks.cons; (· (repeat (first | exact Pick.here | apply Pick.there)))) | apply Picks.empty)))) ?_)
  ((first | (apply op_call; (· exact rfl)) | apply op_call0); (· exact rfl)); (case' hc => (refine fun w hG hw => sequences_any w f l (by omega) (by omega) ?_ ?_)); (case hp => (repeat (first | exact Picks.nil | (apply Picks.cons; (· (repeat (first | exact Pick.here | apply Pick.there)))) | apply Picks.empty)))
  · exact hgl.now hG
  · exact hgl6.now hG
  rintro ⟨xv, xl, xrs⟩ hx
  obtain ⟨Ax, cx, hxv⟩ := hx.own.isSlice
  dsimp only at hxv
  subst hxv
  refine ops_nil ?_
  refine fin_draw ?_
  refine dr_stab 11 rfl rfl (Val.s (val_move rfl)) (by decide +kernel) rfl rfl ?_
  refine dr_stab 12 rfl rfl (Val.s (val_extract rfl rfl)) (by decide +kernel) rfl rfl ?_
  refine dr_stab 13 rfl rfl (Val.s (val_extract rfl rfl)) (by decide +kernel) rfl rfl ?_
  refine dr_stab 14 rfl rfl (Val.s (val_assign rfl)) (by decide +kernel) rfl rfl ?_
  refine dr_stab 15 rfl rfl (Val.s (val_assign rfl)) (by decide +kernel) rfl rfl ?_
  (refine dr_done (by decide +kernel) (by (apply le_of_picks; (repeat (first | exact Picks.nil | (apply Picks.cons; (· (repeat (first | exact Pick.here | apply Pick.there)))) | apply Picks.empty)))) ?_)
  have hcx := hx.cov b
  have hfx := hx.few
  have hq4 := hx.q4
  have hrow := hx.row
  have hown := hx.own
  dsimp only at hcx hfx hq4 hrow hown
  rw [← hcx, covN_pos] at hu
  refine fin_code ?_
  refine run_seq ?_
  refine run_seq ?_
  refine run_region rfl ?_
  refine op_move rfl rfl ?_
  refine op_not rfl rfl ?_
  refine ops_nil ?_
  refine fin_code ?_
  refine run_cond_f rfl ?_
  refine run_skip ?_
  refine fin_code ?_
  refine run_seq ?_
  refine run_region rfl ?_
  refine op_assign rfl rfl ?_
  refine ops_nil ?_
  refine fin_code ?_
  refine run_block ?_
  refine run_loop (α := Nat × Bool) (fun x => [(0, .slice (some ⟨gp, op, none⟩) ps.length c0), (1, .slice A b.length cap), (5, .int .i64 (r : Nat)), (6, .int .i64 (k : Nat)), (7, .bool u), (8, .bool x.2), (9, .int .i64 (i : Nat)), (10, .slice Ax xrs.length cx), (12, .int .i64 (x.1 : Nat))]) (fun _ => [xl, xrs.flatMap RowG.l])
    (fun x => x.1 ≤ xrs.length ∧ (x.2 = true ↔ (v = true ∨ ∃ q ∈ (xrs.take x.1).map RowG.q, covB q b = true))) (fun x => xrs.length - x.1) (0, v) ⟨Nat.zero_le _, by simp⟩ (by (repeat (first | exact Sub.nil _ | (refine Sub.cons rfl ?_)))) (by (apply le_of_picks; (repeat (first | exact Picks.nil | (apply Picks.cons; (· (repeat (first | exact Pick.here | apply Pick.there)))) | apply Picks.empty)))) ?_
  rintro ⟨m, t⟩ ⟨hm, ht⟩
  dsimp only at hm ht ⊢
  by_cases hml : m < xrs.length
  rotate_left 1
  · obtain rfl : m = xrs.length := by omega
    rw [List.take_length] at ht
    have : t = u := by
      rw [Bool.eq_iff_iff, ht, hu]
    subst this
    refine run_seq ?_
    refine run_seq ?_
    refine run_region rfl ?_
    refine op_move rfl rfl ?_
    refine op_move rfl rfl ?_
    refine op_len rfl rfl ?_
    refine op_cmp_f rfl rfl rfl rfl (by first | (simp only [cmpP]; done) | (simp only [cmpP]; omega)) ?_
    refine ops_nil ?_
    refine fin_code ?_
    refine run_cond_f rfl ?_
    refine run_exit ?_
    refine fin_exit_code ?_
    refine fin_exit_inv ?_
    refine fin_exit_here ?_
    refine fin_block ?_
    refine fin_code ?_
    refine run_region rfl ?_
    refine op_move rfl rfl ?_
    refine op_add rfl rfl rfl (by simp only [kLo, kHi]; omega) ?_
    refine op_assign rfl rfl ?_
    refine ops_nil ?_
    refine fin_round (i + 1, t) ?_ (by (repeat (first | exact Sub.nil _ | (refine Sub.cons rfl ?_)))) (by (apply le_of_picks; (repeat (first | exact Picks.nil | (apply Picks.cons; (· (repeat (first | exact Pick.here | apply Pick.there)))) | apply Picks.empty)))) h
    dsimp only; omega
  · have hts : (xrs.take (m + 1)).map RowG.q = (xrs.take m).map RowG.q ++ [xrs[m].q] := by rw [List.take_succ_eq_append_getElem hml, List.map_append]; rfl
    cases t with
    | true =>
      refine run_seq ?_
      refine run_seq ?_
      refine run_region rfl ?_
      refine op_move rfl rfl ?_
      refine op_move rfl rfl ?_
      refine op_len rfl rfl ?_
      refine op_cmp_t rfl rfl rfl rfl (by first | (simp only [cmpP]; done) | (simp only [cmpP]; omega)) ?_
      refine ops_nil ?_
      refine fin_code ?_
      refine run_cond_t rfl ?_
      refine run_skip ?_
      refine fin_code ?_
      refine run_seq ?_
      refine run_block ?_
      refine run_region rfl ?_
      refine op_move rfl rfl ?_
      refine op_move rfl rfl ?_
      refine ops_off1 rfl rfl ?_
      refine ops_off1 rfl rfl ?_
      refine ops_off1 rfl rfl ?_
      refine ops_off1 rfl rfl ?_
      refine ops_off1 rfl rfl ?_
      refine ops_off1 rfl rfl ?_
      refine ops_off1 rfl rfl ?_
      refine ops_off1 rfl rfl ?_
      refine ops_off1 rfl rfl ?_
      refine ops_off1 rfl rfl ?_
      refine ops_off1 rfl rfl ?_
      refine ops_off1 rfl rfl ?_
      refine ops_off1 rfl rfl ?_
      refine ops_off1 rfl rfl ?_
      refine ops_off1 rfl rfl ?_
      refine ops_off1 rfl rfl ?_
      refine op_pick_t rfl rfl rfl ?_
      refine op_assign rfl rfl ?_
      refine ops_nil ?_
      refine fin_block ?_
      refine fin_code ?_
      refine run_region rfl ?_
      refine op_move rfl rfl ?_
      refine op_add rfl rfl rfl (by simp only [kLo, kHi]; omega) ?_
      refine op_assign rfl rfl ?_
      refine ops_nil ?_
      refine fin_round (m + 1, true) ?_ (by (repeat (first | exact Sub.nil _ | (refine Sub.cons rfl ?_)))) (by (apply le_of_picks; (repeat (first | exact Picks.nil | (apply Picks.cons; (· (repeat (first | exact Pick.here | apply Pick.there)))) | apply Picks.empty)))) ⟨hml, ?_⟩
      · dsimp only; omega
      · dsimp only
        rw [hts]
        simp only [true_iff] at ht ⊢
        rcases ht with ht | ⟨q, hq, hc⟩
        · exact .inl ht
        · exact .inr ⟨q, List.mem_append.2 (.inl hq), hc⟩
    | false =>
      have hr := hrow _ (List.getElem_mem hml)
      obtain ⟨gl, cp, cur, hv, hl, _, _, _, hget0, _⟩ := hown.openN (by omega)
      simp only [Value.slice.injEq, true_and] at hv
      obtain ⟨rfl, rfl⟩ := hv
      subst hl
      obtain ⟨Am, cm, hvm⟩ := hr.isSlice
      have hr' : Own 33 2 xrs[m].v xrs[m].q.length (encQ xrs[m].q) xrs[m].l := hr
      rw [hvm] at hr'
      have hget : aget cur m = some (.slice Am xrs[m].q.length cm) := hget0 m _ (by simp [hml, hvm])
      have hqm := hq4 xrs[m].q (List.mem_map.2 ⟨_, List.getElem_mem hml, rfl⟩)
      simp only [Bool.false_eq_true, false_iff, not_or] at ht
      by_cases hlb : xrs[m].q.length = b.length
      · refine run_seq ?_
        refine run_seq ?_
        refine run_region rfl ?_
        refine op_move rfl rfl ?_
        refine op_move rfl rfl ?_
        refine op_len rfl rfl ?_
        refine op_cmp_t rfl rfl rfl rfl (by first | (simp only [cmpP]; done) | (simp only [cmpP]; omega)) ?_
        refine ops_nil ?_
        refine fin_code ?_
        refine run_cond_t rfl ?_
        refine run_skip ?_
        refine fin_code ?_
        refine run_seq ?_
        refine run_block ?_
        refine run_region rfl ?_
        refine op_move rfl rfl ?_
        refine op_move rfl rfl ?_
        refine ops_guard_yes rfl rfl rfl ?_
        refine op_move rfl rfl ?_
        refine ops_guard_yes rfl rfl rfl ?_
        refine op_move rfl rfl ?_
        refine ops_guard_yes rfl rfl rfl ?_
        refine op_index rfl rfl rfl (by omega) (by first | (rw [Int.toNat_natCast, Nat.mul_one, Nat.zero_add]) | (rw [Int.toNat_natCast, Nat.mul_one]) | (rw [Int.toNat_natCast, Nat.zero_add]) | (rw [Int.toNat_natCast]) | exact rfl) ?_
        refine ops_guard_yes rfl rfl rfl ?_
        (apply op_load; (· exact rfl); (· exact rfl); (· apply cell_of_has; (· (repeat (first | exact Has.here | apply Has.there))); (· first | exact rfl | exact hget)))
        refine ops_guard_yes rfl rfl rfl ?_
        refine op_len rfl rfl ?_
        refine ops_guard_yes rfl rfl rfl ?_
        refine op_move rfl rfl ?_
        refine ops_guard_yes rfl rfl rfl ?_
        refine op_len rfl rfl ?_
        refine ops_guard_yes rfl rfl rfl ?_
        refine op_cmp_t rfl rfl rfl rfl (by first | (simp only [cmpP]; done) | (simp only [cmpP]; omega)) ?_
        refine ops_guard_yes rfl rfl rfl ?_
        refine op_move rfl rfl ?_
        refine ops_guard_yes rfl rfl rfl ?_
        refine op_move rfl rfl ?_
        refine ops_guard_yes rfl rfl rfl ?_
        refine op_move rfl rfl ?_
        refine ops_guard_yes rfl rfl rfl ?_
        refine op_index rfl rfl rfl (by omega) (by first | (rw [Int.toNat_natCast, Nat.mul_one, Nat.zero_add]) | (rw [Int.toNat_natCast, Nat.mul_one]) | (rw [Int.toNat_natCast, Nat.zero_add]) | (rw [Int.toNat_natCast]) | exact rfl) ?_
        refine ops_guard_yes rfl rfl rfl ?_
        (apply op_load; (· exact rfl); (· exact rfl); (· apply cell_of_has; (· (repeat (first | exact Has.here | apply Has.there))); (· first | exact rfl | exact hget)))
        refine ops_guard_yes rfl rfl rfl ?_
        refine op_move rfl rfl ?_
        refine ops_guard_yes rfl rfl rfl ?_
        ((first | (apply op_call; (· exact rfl)) | apply op_call0); (· exact rfl)); (case' hc => (refine fun w hG hw => seqMatches_any w Am A xrs[m].q b cm cap (by omega) hlb.symm ?_ ?_)); (case hp => (repeat (first | exact Picks.nil | (apply Picks.cons; (· (repeat (first | exact Pick.here | apply Pick.there)))) | apply Picks.empty)))
        · exact hr'.rd ((At.item hG.now (by (repeat (first | exact Pick.here | apply Pick.there)))).le (le_flatMap (List.getElem_mem hml)))
        · exact hrd.now hG
        intro _ _
        refine ops_guard_yes rfl rfl rfl ?_
        refine op_pick_t rfl rfl rfl ?_
        refine op_pick_f rfl rfl rfl ?_
        refine op_assign rfl rfl ?_
        refine ops_nil ?_
        refine fin_block ?_
        refine fin_code ?_
        refine run_region rfl ?_
        refine op_move rfl rfl ?_
        refine op_add rfl rfl rfl (by simp only [kLo, kHi]; omega) ?_
        refine op_assign rfl rfl ?_
        refine ops_nil ?_
        refine fin_round (m + 1, covB xrs[m].q b) ?_ (by (repeat (first | exact Sub.nil _ | (refine Sub.cons rfl ?_)))) (by (apply le_of_picks; (repeat (first | exact Picks.nil | (apply Picks.cons; (· (repeat (first | exact Pick.here | apply Pick.there)))) | apply Picks.empty)))) ⟨hml, ?_⟩
        · dsimp only; omega
        · dsimp only
          rw [hts]
          constructor
          · intro hc
            exact .inr ⟨_, List.mem_append.2 (.inr (List.mem_singleton.2 rfl)), hc⟩
          · rintro (hc | ⟨q, hq, hc⟩)
            · exact absurd hc ht.1
            · rcases List.mem_append.1 hq with hq | hq
              · exact absurd ⟨q, hq, hc⟩ ht.2
              · rw [List.mem_singleton.1 hq] at hc; exact hc
      · have hcf : covB xrs[m].q b = false := by
          cases hc : covB xrs[m].q b with
          | false => rfl
          | true => exact absurd (covB_len hc) hlb
        refine run_seq ?_
        refine run_seq ?_
        refine run_region rfl ?_
        refine op_move rfl rfl ?_
        refine op_move rfl rfl ?_
        refine op_len rfl rfl ?_
        refine op_cmp_t rfl rfl rfl rfl (by first | (simp only [cmpP]; done) | (simp only [cmpP]; omega)) ?_
        refine ops_nil ?_
        refine fin_code ?_
        refine run_cond_t rfl ?_
        refine run_skip ?_
        refine fin_code ?_
        refine run_seq ?_
        refine run_block ?_
        refine run_region rfl ?_
        refine op_move rfl rfl ?_
        refine op_move rfl rfl ?_
        refine ops_guard_yes rfl rfl rfl ?_
        refine op_move rfl rfl ?_
        refine ops_guard_yes rfl rfl rfl ?_
        refine op_move rfl rfl ?_
        refine ops_guard_yes rfl rfl rfl ?_
        refine op_index rfl rfl rfl (by omega) (by first | (rw [Int.toNat_natCast, Nat.mul_one, Nat.zero_add]) | (rw [Int.toNat_natCast, Nat.mul_one]) | (rw [Int.toNat_natCast, Nat.zero_add]) | (rw [Int.toNat_natCast]) | exact rfl) ?_
        refine ops_guard_yes rfl rfl rfl ?_
        (apply op_load; (· exact rfl); (· exact rfl); (· apply cell_of_has; (· (repeat (first | exact Has.here | apply Has.there))); (· first | exact rfl | exact hget)))
        refine ops_guard_yes rfl rfl rfl ?_
        refine op_len rfl rfl ?_
        refine ops_guard_yes rfl rfl rfl ?_
        refine op_move rfl rfl ?_
        refine ops_guard_yes rfl rfl rfl ?_
        refine op_len rfl rfl ?_
        refine ops_guard_yes rfl rfl rfl ?_
        refine op_cmp_f rfl rfl rfl rfl (by first | (simp only [cmpP]; done) | (simp only [cmpP]; omega)) ?_
        refine ops_guard_yes rfl rfl rfl ?_
        refine op_move rfl rfl ?_
        refine ops_off1 rfl rfl ?_
        refine ops_off1 rfl rfl ?_
        refine ops_off1 rfl rfl ?_
        refine ops_off1 rfl rfl ?_
        refine ops_off1 rfl rfl ?_
        refine ops_off1 rfl rfl ?_
        refine ops_guard_yes rfl rfl rfl ?_
        refine op_pick_f rfl rfl rfl ?_
        refine op_pick_f rfl rfl rfl ?_
        refine op_assign rfl rfl ?_
        refine ops_nil ?_
        refine fin_block ?_
        refine fin_code ?_
        refine run_region rfl ?_
        refine op_move rfl rfl ?_
        refine op_add rfl rfl rfl (by simp only [kLo, kHi]; omega) ?_
        refine op_assign rfl rfl ?_
        refine ops_nil ?_
        refine fin_round (m + 1, false) ?_ (by (repeat (first | exact Sub.nil _ | (refine Sub.cons rfl ?_)))) (by (apply le_of_picks; (repeat (first | exact Picks.nil | (apply Picks.cons; (· (repeat (first | exact Pick.here | apply Pick.there)))) | apply Picks.empty)))) ⟨hml, ?_⟩
        · dsimp only; omega
        · dsimp only
          rw [hts]
          simp only [Bool.false_eq_true, false_iff, not_or]
          refine ⟨ht.1, ?_⟩
          rintro ⟨q, hq, hc⟩
          rcases List.mem_append.1 hq with hq | hq
          · exact ht.2 ⟨q, hq, hc⟩
          · rw [List.mem_singleton.1 hq, hcf] at hc; cases hc
end Go.Proofs.Eng
