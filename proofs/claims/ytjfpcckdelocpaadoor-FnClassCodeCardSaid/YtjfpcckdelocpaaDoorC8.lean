/- A part of the proof: what functions of the program do, step by step. -/
import Derived.Test.YtjfpcckdelocpaaDoorC0
import Derived.Test.YtjfpcckdelocpaaDoorC5
import Derived.Test.YtjfpcckdelocpaaDoorC8a
import Derived.Test.YtjfpcckdelocpaaDoorEngN
set_option linter.unusedVariables false
set_option linter.unusedSimpArgs false
namespace Go.Proofs.Eng
open Go.RowKit
theorem wrapU32 (x : Int) : ∃ y : Nat, IntKind.u32.wrap x = y ∧ y ≤ 4294967295 := by
  have h : IntKind.u32.wrap x = ((x % 4294967296).toNat : Nat) := by
    simp [IntKind.wrap, IntKind.signed, IntKind.bits]
    try omega
  exact ⟨_, h, by omega⟩
theorem validI_isL {x : Int} (h : validI x = true) : isL x.toNat ∧ x = (x.toNat : Nat) := by
  unfold validI at h
  rw [decide_eq_true_eq] at h
  exact ⟨⟨by omega, by omega⟩, by omega⟩
set_option maxRecDepth 100000 in
set_option maxHeartbeats 4000000 in
theorem scalar_any (w : World) (x : Int) (h0 : -2147483648 ≤ x) (h1 : x ≤ 2147483647) : Calls Tryd.prog 13 #[.int .i32 x] w (Post w ([] : List Hp).flatten (fun r : Nat => .int .i32 r) (fun _ => ([] : List Hp).flatten) (fun r => isL r)) := by
  refine enter [] Tryd.func13 rfl rfl (At.nil w) (Le.refl _) ?_
  intro R hR
  have V := fun w => valid2_any w x h0 h1
  obtain ⟨y, hcv, hy⟩ := wrapU32 x
  cases hv : validI x with
  | true =>
    rw [hv] at V
    obtain ⟨k1, k2⟩ := validI_isL hv
    rw [k2] at V ⊢
    refine run_seq ?_
    refine run_region rfl ?_
    refine op_assign rfl rfl ?_
    refine ops_nil ?_
    refine fin_code ?_
    refine run_seq ?_
    refine run_seq ?_
    refine run_region rfl ?_
    refine op_move rfl rfl ?_
    ((first | (apply op_call; (· exact rfl)) | apply op_call0); (· exact rfl); rotate_left 1; (· exact fun w hG hw => V w); rotate_right 1; (· (repeat (first | exact Picks.nil | (apply Picks.cons; (· (repeat (first | exact Pick.here | apply Pick.there)))) | apply Picks.empty))))
    intro _ _
    refine ops_nil ?_
    refine fin_code ?_
    refine run_cond_t rfl ?_
    refine run_seq ?_
    refine run_region rfl ?_
    refine op_move rfl rfl ?_
    refine op_assign rfl rfl ?_
    refine ops_nil ?_
    refine fin_code ?_
    refine run_ret ?_
    refine fin_ret_code ?_
    refine fin_ret1 rfl rfl ?_
    intro w' g
    exact hR _ _ (post_of g x.toNat k1 rfl (by (apply le_of_picks; (repeat (first | exact Picks.nil | (apply Picks.cons; (· (repeat (first | exact Pick.here | apply Pick.there)))) | apply Picks.empty)))))
  | false =>
    rw [hv] at V
    refine run_seq ?_
    refine run_region rfl ?_
    refine op_assign rfl rfl ?_
    refine ops_nil ?_
    refine fin_code ?_
    refine run_seq ?_
    refine run_seq ?_
    refine run_region rfl ?_
    refine op_move rfl rfl ?_
    ((first | (apply op_call; (· exact rfl)) | apply op_call0); (· exact rfl); rotate_left 1; (· exact fun w hG hw => V w); rotate_right 1; (· (repeat (first | exact Picks.nil | (apply Picks.cons; (· (repeat (first | exact Pick.here | apply Pick.there)))) | apply Picks.empty))))
    intro _ _
    refine ops_nil ?_
    refine fin_code ?_
    refine run_cond_f rfl ?_
    refine run_skip ?_
    refine fin_code ?_
    refine run_seq ?_
    refine run_region rfl ?_
    refine op_move rfl rfl ?_
    (refine op_val rfl (val_convE rfl hcv) ?_)
    (refine op_remN (n := 55296) rfl rfl rfl (by omega) ?_)
    refine op_conv rfl rfl (by simp only [kLo, kHi]; omega) ?_
    refine op_assign rfl rfl ?_
    refine ops_nil ?_
    refine fin_code ?_
    refine run_ret ?_
    refine fin_ret1 rfl rfl ?_
    intro w' g
    exact hR _ _ (post_of g (y % 55296) ⟨by omega, by omega⟩ rfl (by (apply le_of_picks; (repeat (first | exact Picks.nil | (apply Picks.cons; (· (repeat (first | exact Pick.here | apply Pick.there)))) | apply Picks.empty)))))
set_option maxRecDepth 100000 in
set_option maxHeartbeats 8000000 in
theorem encoded_any (w : World) (x : Int) (h0 : -2147483648 ≤ x) (h1 : x ≤ 2147483647) : Calls Tryd.prog 17 #[.int .i32 x] w (Post w ([] : List Hp).flatten (fun b : ByteArray => .string b) (fun _ => ([] : List Hp).flatten) (fun b => b.size ≤ 5)) := by
  refine enter [] Tryd.func17 rfl rfl (At.nil w) (Le.refl _) ?_
  intro R hR
  have V := fun w => valid2_any w x h0 h1
  cases hv : validI x with
  | false =>
    rw [hv] at V
    refine run_seq ?_
    refine run_region rfl ?_
    refine op_assign rfl rfl ?_
    refine ops_nil ?_
    refine fin_code ?_
    refine run_seq ?_
    refine run_block ?_
    refine run_seq ?_
    refine run_region rfl ?_
    refine op_move rfl rfl ?_
    ((first | (apply op_call; (· exact rfl)) | apply op_call0); (· exact rfl); rotate_left 1; (· exact fun w hG hw => V w); rotate_right 1; (· (repeat (first | exact Picks.nil | (apply Picks.cons; (· (repeat (first | exact Pick.here | apply Pick.there)))) | apply Picks.empty))))
    intro _ _
    refine op_not rfl rfl ?_
    refine op_assign rfl rfl ?_
    refine ops_nil ?_
    refine fin_code ?_
    refine run_cond_t rfl ?_
    refine run_seq ?_
    refine run_region rfl ?_
    refine op_assign rfl rfl ?_
    refine ops_nil ?_
    refine fin_code ?_
    refine run_ret ?_
    refine fin_ret_block ?_
    refine fin_ret_code ?_
    refine fin_ret1 rfl rfl ?_
    intro w' g
    exact hR _ _ (post_of g ⟨#[]⟩ (by decide) rfl (by (apply le_of_picks; (repeat (first | exact Picks.nil | (apply Picks.cons; (· (repeat (first | exact Pick.here | apply Pick.there)))) | apply Picks.empty)))))
  | true =>
    rw [hv] at V
    obtain ⟨k1, k2⟩ := validI_isL hv
    by_cases k3 : x < 128
    · refine run_seq ?_
      refine run_region rfl ?_
      refine op_assign rfl rfl ?_
      refine ops_nil ?_
      refine fin_code ?_
      refine run_seq ?_
      refine run_block ?_
      refine run_seq ?_
      refine run_region rfl ?_
      refine op_move rfl rfl ?_
      ((first | (apply op_call; (· exact rfl)) | apply op_call0); (· exact rfl); rotate_left 1; (· exact fun w hG hw => V w); rotate_right 1; (· (repeat (first | exact Picks.nil | (apply Picks.cons; (· (repeat (first | exact Pick.here | apply Pick.there)))) | apply Picks.empty))))
      intro _ _
      refine op_not rfl rfl ?_
      refine op_assign rfl rfl ?_
      refine ops_nil ?_
      refine fin_code ?_
      refine run_cond_f rfl ?_
      refine run_seq ?_
      refine run_region rfl ?_
      refine op_move rfl rfl ?_
      refine op_cmp_t rfl rfl rfl rfl (by first | (simp only [cmpP]; done) | (simp only [cmpP]; omega)) ?_
      refine op_assign rfl rfl ?_
      refine ops_nil ?_
      refine fin_code ?_
      refine run_cond_t rfl ?_
      refine run_seq ?_
      refine run_region rfl ?_
      refine op_move rfl rfl ?_
      refine op_conv rfl rfl (by simp only [kLo, kHi]; omega) ?_
      (refine op_slice1 rfl rfl (by first | rfl | simp [Value.cells]) (by decide) ?_; intro _ _)
      (refine op_strOf (e := 5) [_] (by kernel_rfl) (by kernel_rfl) rfl rfl (by (repeat (first | exact Has.here | apply Has.there))) rfl rfl ?_; intro _ _)
      refine op_assign rfl rfl ?_
      refine ops_nil ?_
      refine fin_code ?_
      refine run_ret ?_
      refine fin_ret_block ?_
      refine fin_ret_code ?_
      rename_i b hb
      refine fin_ret1 rfl rfl ?_
      intro w' g
      exact hR _ _ (post_of g b (by omega) rfl (by (apply le_of_picks; (repeat (first | exact Picks.nil | (apply Picks.cons; (· (repeat (first | exact Pick.here | apply Pick.there)))) | apply Picks.empty)))))
    by_cases k4 : x < 2048
    · refine run_seq ?_
      refine run_region rfl ?_
      refine op_assign rfl rfl ?_
      refine ops_nil ?_
      refine fin_code ?_
      refine run_seq ?_
      refine run_block ?_
      refine run_seq ?_
      refine run_region rfl ?_
      refine op_move rfl rfl ?_
      ((first | (apply op_call; (· exact rfl)) | apply op_call0); (· exact rfl); rotate_left 1; (· exact fun w hG hw => V w); rotate_right 1; (· (repeat (first | exact Picks.nil | (apply Picks.cons; (· (repeat (first | exact Pick.here | apply Pick.there)))) | apply Picks.empty))))
      intro _ _
      refine op_not rfl rfl ?_
      refine op_assign rfl rfl ?_
      refine ops_nil ?_
      refine fin_code ?_
      refine run_cond_f rfl ?_
      refine run_seq ?_
      refine run_region rfl ?_
      refine op_move rfl rfl ?_
      refine op_cmp_f rfl rfl rfl rfl (by first | (simp only [cmpP]; done) | (simp only [cmpP]; omega)) ?_
      refine op_assign rfl rfl ?_
      refine ops_nil ?_
      refine fin_code ?_
      refine run_cond_f rfl ?_
      refine run_seq ?_
      refine run_region rfl ?_
      refine op_move rfl rfl ?_
      refine op_cmp_t rfl rfl rfl rfl (by first | (simp only [cmpP]; done) | (simp only [cmpP]; omega)) ?_
      refine op_assign rfl rfl ?_
      refine ops_nil ?_
      refine fin_code ?_
      refine run_cond_t rfl ?_
      refine run_seq ?_
      refine run_region rfl ?_
      refine op_move rfl rfl ?_
      (refine op_shr rfl rfl rfl (by decide) ?_)
      (refine op_convw rfl rfl ?_)
      (refine op_bits rfl rfl rfl rfl ?_)
      refine op_move rfl rfl ?_
      (refine op_bits rfl rfl rfl rfl ?_)
      (refine op_convw rfl rfl ?_)
      (refine op_bits rfl rfl rfl rfl ?_)
      (refine op_sliceN rfl rfl rfl (by first | (intro v hv; simp at hv; done) | (intro v hv; simp at hv; rcases hv with rfl | rfl | rfl | rfl | rfl | rfl | rfl <;> rfl) | (intro v hv; simp at hv; rcases hv with rfl | rfl | rfl | rfl | rfl | rfl <;> rfl) | (intro v hv; simp at hv; rcases hv with rfl | rfl | rfl | rfl | rfl <;> rfl) | (intro v hv; simp at hv; rcases hv with rfl | rfl | rfl | rfl <;> rfl) | (intro v hv; simp at hv; rcases hv with rfl | rfl | rfl <;> rfl) | (intro v hv; simp at hv; rcases hv with rfl | rfl <;> rfl) | (intro v hv; simp at hv; rcases hv with rfl; rfl)) rfl rfl (by decide) ?_; intro _ _)
      (refine op_strOf (e := 5) [_, _] (by kernel_rfl) (by kernel_rfl) rfl rfl (by (repeat (first | exact Has.here | apply Has.there))) rfl rfl ?_; intro _ _)
      refine op_assign rfl rfl ?_
      refine ops_nil ?_
      refine fin_code ?_
      refine run_ret ?_
      refine fin_ret_block ?_
      refine fin_ret_code ?_
      rename_i b hb
      refine fin_ret1 rfl rfl ?_
      intro w' g
      exact hR _ _ (post_of g b (by omega) rfl (by (apply le_of_picks; (repeat (first | exact Picks.nil | (apply Picks.cons; (· (repeat (first | exact Pick.here | apply Pick.there)))) | apply Picks.empty)))))
    by_cases k5 : x < 65536
    · refine run_seq ?_
      refine run_region rfl ?_
      refine op_assign rfl rfl ?_
      refine ops_nil ?_
      refine fin_code ?_
      refine run_seq ?_
      refine run_block ?_
      refine run_seq ?_
      refine run_region rfl ?_
      refine op_move rfl rfl ?_
      ((first | (apply op_call; (· exact rfl)) | apply op_call0); (· exact rfl); rotate_left 1; (· exact fun w hG hw => V w); rotate_right 1; (· (repeat (first | exact Picks.nil | (apply Picks.cons; (· (repeat (first | exact Pick.here | apply Pick.there)))) | apply Picks.empty))))
      intro _ _
      refine op_not rfl rfl ?_
      refine op_assign rfl rfl ?_
      refine ops_nil ?_
      refine fin_code ?_
      refine run_cond_f rfl ?_
      refine run_seq ?_
      refine run_region rfl ?_
      refine op_move rfl rfl ?_
      refine op_cmp_f rfl rfl rfl rfl (by first | (simp only [cmpP]; done) | (simp only [cmpP]; omega)) ?_
      refine op_assign rfl rfl ?_
      refine ops_nil ?_
      refine fin_code ?_
      refine run_cond_f rfl ?_
      refine run_seq ?_
      refine run_region rfl ?_
      refine op_move rfl rfl ?_
      refine op_cmp_f rfl rfl rfl rfl (by first | (simp only [cmpP]; done) | (simp only [cmpP]; omega)) ?_
      refine op_assign rfl rfl ?_
      refine ops_nil ?_
      refine fin_code ?_
      refine run_cond_f rfl ?_
      refine run_seq ?_
      refine run_region rfl ?_
      refine op_move rfl rfl ?_
      refine op_cmp_t rfl rfl rfl rfl (by first | (simp only [cmpP]; done) | (simp only [cmpP]; omega)) ?_
      refine op_assign rfl rfl ?_
      refine ops_nil ?_
      refine fin_code ?_
      refine run_cond_t rfl ?_
      refine run_seq ?_
      refine run_region rfl ?_
      refine op_move rfl rfl ?_
      (refine op_shr rfl rfl rfl (by decide) ?_)
      (refine op_convw rfl rfl ?_)
      (refine op_bits rfl rfl rfl rfl ?_)
      refine op_move rfl rfl ?_
      (refine op_shr rfl rfl rfl (by decide) ?_)
      (refine op_bits rfl rfl rfl rfl ?_)
      (refine op_convw rfl rfl ?_)
      (refine op_bits rfl rfl rfl rfl ?_)
      refine op_move rfl rfl ?_
      (refine op_bits rfl rfl rfl rfl ?_)
      (refine op_convw rfl rfl ?_)
      (refine op_bits rfl rfl rfl rfl ?_)
      (refine op_sliceN rfl rfl rfl (by first | (intro v hv; simp at hv; done) | (intro v hv; simp at hv; rcases hv with rfl | rfl | rfl | rfl | rfl | rfl | rfl <;> rfl) | (intro v hv; simp at hv; rcases hv with rfl | rfl | rfl | rfl | rfl | rfl <;> rfl) | (intro v hv; simp at hv; rcases hv with rfl | rfl | rfl | rfl | rfl <;> rfl) | (intro v hv; simp at hv; rcases hv with rfl | rfl | rfl | rfl <;> rfl) | (intro v hv; simp at hv; rcases hv with rfl | rfl | rfl <;> rfl) | (intro v hv; simp at hv; rcases hv with rfl | rfl <;> rfl) | (intro v hv; simp at hv; rcases hv with rfl; rfl)) rfl rfl (by decide) ?_; intro _ _)
      (refine op_strOf (e := 5) [_, _, _] (by kernel_rfl) (by kernel_rfl) rfl rfl (by (repeat (first | exact Has.here | apply Has.there))) rfl rfl ?_; intro _ _)
      refine op_assign rfl rfl ?_
      refine ops_nil ?_
      refine fin_code ?_
      refine run_ret ?_
      refine fin_ret_block ?_
      refine fin_ret_code ?_
      rename_i b hb
      refine fin_ret1 rfl rfl ?_
      intro w' g
      exact hR _ _ (post_of g b (by omega) rfl (by (apply le_of_picks; (repeat (first | exact Picks.nil | (apply Picks.cons; (· (repeat (first | exact Pick.here | apply Pick.there)))) | apply Picks.empty)))))
    · refine run_seq ?_
      refine run_region rfl ?_
      refine op_assign rfl rfl ?_
      refine ops_nil ?_
      refine fin_code ?_
      refine run_seq ?_
      refine run_block ?_
      refine run_seq ?_
      refine run_region rfl ?_
      refine op_move rfl rfl ?_
      ((first | (apply op_call; (· exact rfl)) | apply op_call0); (· exact rfl); rotate_left 1; (· exact fun w hG hw => V w); rotate_right 1; (· (repeat (first | exact Picks.nil | (apply Picks.cons; (· (repeat (first | exact Pick.here | apply Pick.there)))) | apply Picks.empty))))
      intro _ _
      refine op_not rfl rfl ?_
      refine op_assign rfl rfl ?_
      refine ops_nil ?_
      refine fin_code ?_
      refine run_cond_f rfl ?_
      refine run_seq ?_
      refine run_region rfl ?_
      refine op_move rfl rfl ?_
      refine op_cmp_f rfl rfl rfl rfl (by first | (simp only [cmpP]; done) | (simp only [cmpP]; omega)) ?_
      refine op_assign rfl rfl ?_
      refine ops_nil ?_
      refine fin_code ?_
      refine run_cond_f rfl ?_
      refine run_seq ?_
      refine run_region rfl ?_
      refine op_move rfl rfl ?_
      refine op_cmp_f rfl rfl rfl rfl (by first | (simp only [cmpP]; done) | (simp only [cmpP]; omega)) ?_
      refine op_assign rfl rfl ?_
      refine ops_nil ?_
      refine fin_code ?_
      refine run_cond_f rfl ?_
      refine run_seq ?_
      refine run_region rfl ?_
      refine op_move rfl rfl ?_
      refine op_cmp_f rfl rfl rfl rfl (by first | (simp only [cmpP]; done) | (simp only [cmpP]; omega)) ?_
      refine op_assign rfl rfl ?_
      refine ops_nil ?_
      refine fin_code ?_
      refine run_cond_f rfl ?_
      refine run_skip ?_
      refine fin_block ?_
      refine fin_code ?_
      refine run_seq ?_
      refine run_region rfl ?_
      refine op_move rfl rfl ?_
      (refine op_shr rfl rfl rfl (by decide) ?_)
      (refine op_convw rfl rfl ?_)
      (refine op_bits rfl rfl rfl rfl ?_)
      refine op_move rfl rfl ?_
      (refine op_shr rfl rfl rfl (by decide) ?_)
      (refine op_bits rfl rfl rfl rfl ?_)
      (refine op_convw rfl rfl ?_)
      (refine op_bits rfl rfl rfl rfl ?_)
      refine op_move rfl rfl ?_
      (refine op_shr rfl rfl rfl (by decide) ?_)
      (refine op_bits rfl rfl rfl rfl ?_)
      (refine op_convw rfl rfl ?_)
      (refine op_bits rfl rfl rfl rfl ?_)
      refine op_move rfl rfl ?_
      (refine op_bits rfl rfl rfl rfl ?_)
      (refine op_convw rfl rfl ?_)
      (refine op_bits rfl rfl rfl rfl ?_)
      (refine op_sliceN rfl rfl rfl (by first | (intro v hv; simp at hv; done) | (intro v hv; simp at hv; rcases hv with rfl | rfl | rfl | rfl | rfl | rfl | rfl <;> rfl) | (intro v hv; simp at hv; rcases hv with rfl | rfl | rfl | rfl | rfl | rfl <;> rfl) | (intro v hv; simp at hv; rcases hv with rfl | rfl | rfl | rfl | rfl <;> rfl) | (intro v hv; simp at hv; rcases hv with rfl | rfl | rfl | rfl <;> rfl) | (intro v hv; simp at hv; rcases hv with rfl | rfl | rfl <;> rfl) | (intro v hv; simp at hv; rcases hv with rfl | rfl <;> rfl) | (intro v hv; simp at hv; rcases hv with rfl; rfl)) rfl rfl (by decide) ?_; intro _ _)
      (refine op_strOf (e := 5) [_, _, _, _] (by kernel_rfl) (by kernel_rfl) rfl rfl (by (repeat (first | exact Has.here | apply Has.there))) rfl rfl ?_; intro _ _)
      refine op_assign rfl rfl ?_
      refine ops_nil ?_
      refine fin_code ?_
      refine run_ret ?_
      rename_i b hb
      refine fin_ret1 rfl rfl ?_
      intro w' g
      exact hR _ _ (post_of g b (by omega) rfl (by (apply le_of_picks; (repeat (first | exact Picks.nil | (apply Picks.cons; (· (repeat (first | exact Pick.here | apply Pick.there)))) | apply Picks.empty)))))
set_option maxRecDepth 100000 in
set_option maxHeartbeats 8000000 in
theorem few_any (w : World) (s : ByteArray) : Calls Tryd.prog 16 #[.string s, .int .i64 5] w (Post w ([] : List Hp).flatten (fun b : ByteArray => .string b) (fun _ => ([] : List Hp).flatten) (fun b => b.size ≤ 5)) := by
  refine enter [] Tryd.func16 rfl rfl (At.nil w) (Le.refl _) ?_
  intro R hR
  refine run_seq ?_
  refine run_region rfl ?_
  refine op_assign rfl rfl ?_
  refine ops_nil ?_
  refine fin_code ?_
  refine run_seq ?_
  refine run_region rfl ?_
  refine op_move rfl rfl ?_
  refine op_move rfl rfl ?_
  (refine op_val rfl (val_slen rfl) ?_)
  refine op_move rfl rfl ?_
  refine op_min rfl rfl rfl ?_
  (refine op_val rfl (val_strH rfl rfl (by omega) (by omega)) ?_)
  refine op_assign rfl rfl ?_
  refine ops_nil ?_
  refine fin_code ?_
  refine run_ret ?_
  have hm : ∃ m : Nat, (if (5 : Int) < s.size then (5 : Int) else s.size) = m ∧ m ≤ 5 ∧ m ≤ s.size := by
    split
    · exact ⟨5, rfl, by omega, by omega⟩
    · exact ⟨s.size, rfl, by omega, by omega⟩
  obtain ⟨m, hm, hm5, hms⟩ := hm
  rw [hm]
  skip
  refine fin_ret1 rfl rfl ?_
  intro w' g
  refine hR _ _ (post_of g _ ?_ rfl (by (apply le_of_picks; (repeat (first | exact Picks.nil | (apply Picks.cons; (· (repeat (first | exact Pick.here | apply Pick.there)))) | apply Picks.empty)))))
  rw [ByteArray.size_extract]
  omega
end Go.Proofs.Eng
