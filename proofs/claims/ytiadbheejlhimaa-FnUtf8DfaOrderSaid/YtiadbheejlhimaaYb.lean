/- A part of the proof: what functions of the program do, step by step. -/
import Derived.Test.YtiadbheejlhimaaW0
import Derived.Test.YtiadbheejlhimaaEngT3
set_option linter.unusedVariables false
set_option linter.unusedSimpArgs false
namespace Go.Proofs.Eng
open Go.RowKit
set_option maxRecDepth 100000 in
set_option maxHeartbeats 4000000 in
theorem wide_any (w : World) (c : Nat) (hc : c ≤ 255) :
    Calls Try.prog 37 #[.int .u8 c] w (Post w ([] : List Hp).flatten (fun _ : Unit => .tuple #[.int .i64 (wideN c).1, .int .i64 (wideN c).2]) (fun _ => ([] : List Hp).flatten) (fun _ => True)) := by
  refine enter [] Try.func37 rfl rfl (At.nil w) (Le.refl _) ?_
  intro R hR
  by_cases h1 : c ≤ 127
  · have hw : wideN c = (1, c) := by unfold wideN; rw [if_pos h1]
    refine run_seq ?_
    refine run_region rfl ?_
    refine op_assign rfl rfl ?_
    refine op_assign rfl rfl ?_
    refine ops_nil ?_
    refine fin_code ?_
    refine run_seq ?_
    refine run_block ?_
    refine run_seq ?_
    refine run_region rfl ?_
    refine op_move rfl rfl ?_
    refine op_cmp_t rfl rfl rfl rfl (by first | (simp only [cmpP]; done) | (simp only [cmpP]; omega)) ?_
    refine op_assign rfl rfl ?_
    refine ops_nil ?_
    refine fin_code ?_
    refine run_cond_t rfl ?_
    refine run_seq ?_
    refine run_region rfl ?_
    refine op_move rfl rfl ?_
    refine op_conv rfl rfl (by simp only [kLo, kHi]; omega) ?_
    refine op_assign rfl rfl ?_
    refine op_assign rfl rfl ?_
    refine ops_nil ?_
    refine fin_code ?_
    refine run_ret ?_
    refine fin_ret_block ?_
    refine fin_ret_code ?_
    refine fin_ret2 rfl rfl rfl ?_
    intro w' g
    exact hR _ _ (post_of g () trivial (by rw [hw]; rfl) (by (apply le_of_picks; (repeat (first | exact Picks.nil | (apply Picks.cons; (· (repeat (first | exact Pick.here | apply Pick.there)))) | apply Picks.empty)))))
  by_cases h2 : 194 ≤ c ∧ c ≤ 223
  · have hw : wideN c = (2, c - 192) := by unfold wideN; rw [if_neg h1, if_pos h2]
    obtain ⟨h3, h4⟩ := h2
    refine run_seq ?_
    refine run_region rfl ?_
    refine op_assign rfl rfl ?_
    refine op_assign rfl rfl ?_
    refine ops_nil ?_
    refine fin_code ?_
    refine run_seq ?_
    refine run_block ?_
    refine run_seq ?_
    refine run_region rfl ?_
    refine op_move rfl rfl ?_
    refine op_cmp_f rfl rfl rfl rfl (by first | (simp only [cmpP]; done) | (simp only [cmpP]; omega)) ?_
    refine op_assign rfl rfl ?_
    refine ops_nil ?_
    refine fin_code ?_
    refine run_cond_f rfl ?_
    refine run_seq ?_
    refine run_region rfl ?_
    refine op_move rfl rfl ?_
    refine op_cmp_t rfl rfl rfl rfl (by first | (simp only [cmpP]; done) | (simp only [cmpP]; omega)) ?_
    refine op_move rfl rfl ?_
    refine ops_guard_yes rfl rfl rfl ?_
    refine op_move rfl rfl ?_
    refine ops_guard_yes rfl rfl rfl ?_
    refine op_cmp_t rfl rfl rfl rfl (by first | (simp only [cmpP]; done) | (simp only [cmpP]; omega)) ?_
    refine op_pick_t rfl rfl rfl ?_
    refine op_assign rfl rfl ?_
    refine ops_nil ?_
    refine fin_code ?_
    refine run_cond_t rfl ?_
    refine run_seq ?_
    refine run_region rfl ?_
    refine op_move rfl rfl ?_
    refine op_conv rfl rfl (by simp only [kLo, kHi]; omega) ?_
    refine op_sub rfl rfl rfl (by simp only [kLo, kHi]; omega) ?_
    refine op_assign rfl rfl ?_
    refine op_assign rfl rfl ?_
    refine ops_nil ?_
    refine fin_code ?_
    refine run_ret ?_
    refine fin_ret_block ?_
    refine fin_ret_code ?_
    refine fin_ret2 rfl rfl rfl ?_
    intro w' g
    exact hR _ _ (post_of g () trivial (by rw [hw, show ((c : Nat) : Int) - 192 = ((c - 192 : Nat) : Int) by omega]; rfl) (by (apply le_of_picks; (repeat (first | exact Picks.nil | (apply Picks.cons; (· (repeat (first | exact Pick.here | apply Pick.there)))) | apply Picks.empty)))))
  by_cases h3 : 224 ≤ c ∧ c ≤ 239
  · have hw : wideN c = (3, c - 224) := by unfold wideN; rw [if_neg h1, if_neg h2, if_pos h3]
    obtain ⟨h4, h5⟩ := h3
    refine run_seq ?_
    refine run_region rfl ?_
    refine op_assign rfl rfl ?_
    refine op_assign rfl rfl ?_
    refine ops_nil ?_
    refine fin_code ?_
    refine run_seq ?_
    refine run_block ?_
    refine run_seq ?_
    refine run_region rfl ?_
    refine op_move rfl rfl ?_
    refine op_cmp_f rfl rfl rfl rfl (by first | (simp only [cmpP]; done) | (simp only [cmpP]; omega)) ?_
    refine op_assign rfl rfl ?_
    refine ops_nil ?_
    refine fin_code ?_
    refine run_cond_f rfl ?_
    refine run_seq ?_
    refine run_region rfl ?_
    refine op_move rfl rfl ?_
    refine op_cmp_t rfl rfl rfl rfl (by first | (simp only [cmpP]; done) | (simp only [cmpP]; omega)) ?_
    refine op_move rfl rfl ?_
    refine ops_guard_yes rfl rfl rfl ?_
    refine op_move rfl rfl ?_
    refine ops_guard_yes rfl rfl rfl ?_
    refine op_cmp_f rfl rfl rfl rfl (by first | (simp only [cmpP]; done) | (simp only [cmpP]; omega)) ?_
    refine op_pick_t rfl rfl rfl ?_
    refine op_assign rfl rfl ?_
    refine ops_nil ?_
    refine fin_code ?_
    refine run_cond_f rfl ?_
    refine run_seq ?_
    refine run_region rfl ?_
    refine op_move rfl rfl ?_
    refine op_cmp_t rfl rfl rfl rfl (by first | (simp only [cmpP]; done) | (simp only [cmpP]; omega)) ?_
    refine op_move rfl rfl ?_
    refine ops_guard_yes rfl rfl rfl ?_
    refine op_move rfl rfl ?_
    refine ops_guard_yes rfl rfl rfl ?_
    refine op_cmp_t rfl rfl rfl rfl (by first | (simp only [cmpP]; done) | (simp only [cmpP]; omega)) ?_
    refine op_pick_t rfl rfl rfl ?_
    refine op_assign rfl rfl ?_
    refine ops_nil ?_
    refine fin_code ?_
    refine run_cond_t rfl ?_
    refine run_seq ?_
    refine run_region rfl ?_
    refine op_move rfl rfl ?_
    refine op_conv rfl rfl (by simp only [kLo, kHi]; omega) ?_
    refine op_sub rfl rfl rfl (by simp only [kLo, kHi]; omega) ?_
    refine op_assign rfl rfl ?_
    refine op_assign rfl rfl ?_
    refine ops_nil ?_
    refine fin_code ?_
    refine run_ret ?_
    refine fin_ret_block ?_
    refine fin_ret_code ?_
    refine fin_ret2 rfl rfl rfl ?_
    intro w' g
    exact hR _ _ (post_of g () trivial (by rw [hw, show ((c : Nat) : Int) - 224 = ((c - 224 : Nat) : Int) by omega]; rfl) (by (apply le_of_picks; (repeat (first | exact Picks.nil | (apply Picks.cons; (· (repeat (first | exact Pick.here | apply Pick.there)))) | apply Picks.empty)))))
  by_cases h4 : 240 ≤ c ∧ c ≤ 244
  · have hw : wideN c = (4, c - 240) := by unfold wideN; rw [if_neg h1, if_neg h2, if_neg h3, if_pos h4]
    obtain ⟨h5, h6⟩ := h4
    refine run_seq ?_
    refine run_region rfl ?_
    refine op_assign rfl rfl ?_
    refine op_assign rfl rfl ?_
    refine ops_nil ?_
    refine fin_code ?_
    refine run_seq ?_
    refine run_block ?_
    refine run_seq ?_
    refine run_region rfl ?_
    refine op_move rfl rfl ?_
    refine op_cmp_f rfl rfl rfl rfl (by first | (simp only [cmpP]; done) | (simp only [cmpP]; omega)) ?_
    refine op_assign rfl rfl ?_
    refine ops_nil ?_
    refine fin_code ?_
    refine run_cond_f rfl ?_
    refine run_seq ?_
    refine run_region rfl ?_
    refine op_move rfl rfl ?_
    refine op_cmp_t rfl rfl rfl rfl (by first | (simp only [cmpP]; done) | (simp only [cmpP]; omega)) ?_
    refine op_move rfl rfl ?_
    refine ops_guard_yes rfl rfl rfl ?_
    refine op_move rfl rfl ?_
    refine ops_guard_yes rfl rfl rfl ?_
    refine op_cmp_f rfl rfl rfl rfl (by first | (simp only [cmpP]; done) | (simp only [cmpP]; omega)) ?_
    refine op_pick_t rfl rfl rfl ?_
    refine op_assign rfl rfl ?_
    refine ops_nil ?_
    refine fin_code ?_
    refine run_cond_f rfl ?_
    refine run_seq ?_
    refine run_region rfl ?_
    refine op_move rfl rfl ?_
    refine op_cmp_t rfl rfl rfl rfl (by first | (simp only [cmpP]; done) | (simp only [cmpP]; omega)) ?_
    refine op_move rfl rfl ?_
    refine ops_guard_yes rfl rfl rfl ?_
    refine op_move rfl rfl ?_
    refine ops_guard_yes rfl rfl rfl ?_
    refine op_cmp_f rfl rfl rfl rfl (by first | (simp only [cmpP]; done) | (simp only [cmpP]; omega)) ?_
    refine op_pick_t rfl rfl rfl ?_
    refine op_assign rfl rfl ?_
    refine ops_nil ?_
    refine fin_code ?_
    refine run_cond_f rfl ?_
    refine run_seq ?_
    refine run_region rfl ?_
    refine op_move rfl rfl ?_
    refine op_cmp_t rfl rfl rfl rfl (by first | (simp only [cmpP]; done) | (simp only [cmpP]; omega)) ?_
    refine op_move rfl rfl ?_
    refine ops_guard_yes rfl rfl rfl ?_
    refine op_move rfl rfl ?_
    refine ops_guard_yes rfl rfl rfl ?_
    refine op_cmp_t rfl rfl rfl rfl (by first | (simp only [cmpP]; done) | (simp only [cmpP]; omega)) ?_
    refine op_pick_t rfl rfl rfl ?_
    refine op_assign rfl rfl ?_
    refine ops_nil ?_
    refine fin_code ?_
    refine run_cond_t rfl ?_
    refine run_seq ?_
    refine run_region rfl ?_
    refine op_move rfl rfl ?_
    refine op_conv rfl rfl (by simp only [kLo, kHi]; omega) ?_
    refine op_sub rfl rfl rfl (by simp only [kLo, kHi]; omega) ?_
    refine op_assign rfl rfl ?_
    refine op_assign rfl rfl ?_
    refine ops_nil ?_
    refine fin_code ?_
    refine run_ret ?_
    refine fin_ret_block ?_
    refine fin_ret_code ?_
    refine fin_ret2 rfl rfl rfl ?_
    intro w' g
    exact hR _ _ (post_of g () trivial (by rw [hw, show ((c : Nat) : Int) - 240 = ((c - 240 : Nat) : Int) by omega]; rfl) (by (apply le_of_picks; (repeat (first | exact Picks.nil | (apply Picks.cons; (· (repeat (first | exact Pick.here | apply Pick.there)))) | apply Picks.empty)))))
  have hw : wideN c = (0, 0) := by unfold wideN; rw [if_neg h1, if_neg h2, if_neg h3, if_neg h4]
  have h8 : c < 194 ∨ 244 < c := by omega
  rcases h8 with h8 | h8
  all_goals
    first | (refine run_seq ?_; refine run_region rfl ?_; refine op_assign rfl rfl ?_; refine op_assign rfl rfl ?_; refine ops_nil ?_; refine fin_code ?_; refine run_seq ?_; refine run_block ?_; refine run_seq ?_; refine run_region rfl ?_; refine op_move rfl rfl ?_; refine op_cmp_f rfl rfl rfl rfl (by first | (simp only [cmpP]; done) | (simp only [cmpP]; omega)) ?_; refine op_assign rfl rfl ?_; refine ops_nil ?_; refine fin_code ?_; refine run_cond_f rfl ?_; refine run_seq ?_; refine run_region rfl ?_; refine op_move rfl rfl ?_; refine op_cmp_t rfl rfl rfl rfl (by first | (simp only [cmpP]; done) | (simp only [cmpP]; omega)) ?_; refine op_move rfl rfl ?_; refine ops_guard_yes rfl rfl rfl ?_; refine op_move rfl rfl ?_; refine ops_guard_yes rfl rfl rfl ?_; refine op_cmp_f rfl rfl rfl rfl (by first | (simp only [cmpP]; done) | (simp only [cmpP]; omega)) ?_; refine op_pick_t rfl rfl rfl ?_; refine op_assign rfl rfl ?_; refine ops_nil ?_; refine fin_code ?_; refine run_cond_f rfl ?_; refine run_seq ?_; refine run_region rfl ?_; refine op_move rfl rfl ?_; refine op_cmp_t rfl rfl rfl rfl (by first | (simp only [cmpP]; done) | (simp only [cmpP]; omega)) ?_; refine op_move rfl rfl ?_; refine ops_guard_yes rfl rfl rfl ?_; refine op_move rfl rfl ?_; refine ops_guard_yes rfl rfl rfl ?_; refine op_cmp_f rfl rfl rfl rfl (by first | (simp only [cmpP]; done) | (simp only [cmpP]; omega)) ?_; refine op_pick_t rfl rfl rfl ?_; refine op_assign rfl rfl ?_; refine ops_nil ?_; refine fin_code ?_; refine run_cond_f rfl ?_; refine run_seq ?_; refine run_region rfl ?_; refine op_move rfl rfl ?_; refine op_cmp_t rfl rfl rfl rfl (by first | (simp only [cmpP]; done) | (simp only [cmpP]; omega)) ?_; refine op_move rfl rfl ?_; refine ops_guard_yes rfl rfl rfl ?_; refine op_move rfl rfl ?_; refine ops_guard_yes rfl rfl rfl ?_; refine op_cmp_f rfl rfl rfl rfl (by first | (simp only [cmpP]; done) | (simp only [cmpP]; omega)) ?_; refine op_pick_t rfl rfl rfl ?_; refine op_assign rfl rfl ?_; refine ops_nil ?_; refine fin_code ?_; refine run_cond_f rfl ?_; refine run_skip ?_; refine fin_block ?_; refine fin_code ?_; refine run_seq ?_; refine run_region rfl ?_; refine op_assign rfl rfl ?_; refine op_assign rfl rfl ?_; refine ops_nil ?_; refine fin_code ?_; refine run_ret ?_) | (refine run_seq ?_; refine run_region rfl ?_; refine op_assign rfl rfl ?_; refine op_assign rfl rfl ?_; refine ops_nil ?_; refine fin_code ?_; refine run_seq ?_; refine run_block ?_; refine run_seq ?_; refine run_region rfl ?_; refine op_move rfl rfl ?_; refine op_cmp_f rfl rfl rfl rfl (by first | (simp only [cmpP]; done) | (simp only [cmpP]; omega)) ?_; refine op_assign rfl rfl ?_; refine ops_nil ?_; refine fin_code ?_; refine run_cond_f rfl ?_; refine run_seq ?_; refine run_region rfl ?_; refine op_move rfl rfl ?_; refine op_cmp_f rfl rfl rfl rfl (by first | (simp only [cmpP]; done) | (simp only [cmpP]; omega)) ?_; refine op_move rfl rfl ?_; refine ops_off1 rfl rfl ?_; refine ops_off1 rfl rfl ?_; refine op_pick_f rfl rfl rfl ?_; refine op_assign rfl rfl ?_; refine ops_nil ?_; refine fin_code ?_; refine run_cond_f rfl ?_; refine run_seq ?_; refine run_region rfl ?_; refine op_move rfl rfl ?_; refine op_cmp_f rfl rfl rfl rfl (by first | (simp only [cmpP]; done) | (simp only [cmpP]; omega)) ?_; refine op_move rfl rfl ?_; refine ops_off1 rfl rfl ?_; refine ops_off1 rfl rfl ?_; refine op_pick_f rfl rfl rfl ?_; refine op_assign rfl rfl ?_; refine ops_nil ?_; refine fin_code ?_; refine run_cond_f rfl ?_; refine run_seq ?_; refine run_region rfl ?_; refine op_move rfl rfl ?_; refine op_cmp_f rfl rfl rfl rfl (by first | (simp only [cmpP]; done) | (simp only [cmpP]; omega)) ?_; refine op_move rfl rfl ?_; refine ops_off1 rfl rfl ?_; refine ops_off1 rfl rfl ?_; refine op_pick_f rfl rfl rfl ?_; refine op_assign rfl rfl ?_; refine ops_nil ?_; refine fin_code ?_; refine run_cond_f rfl ?_; refine run_skip ?_; refine fin_block ?_; refine fin_code ?_; refine run_seq ?_; refine run_region rfl ?_; refine op_assign rfl rfl ?_; refine op_assign rfl rfl ?_; refine ops_nil ?_; refine fin_code ?_; refine run_ret ?_)
    refine fin_ret2 rfl rfl rfl ?_
    intro w' g
    exact hR _ _ (post_of g () trivial (by rw [hw]; rfl) (by (apply le_of_picks; (repeat (first | exact Picks.nil | (apply Picks.cons; (· (repeat (first | exact Pick.here | apply Pick.there)))) | apply Picks.empty)))))
set_option maxRecDepth 100000 in
theorem tail_any (w : World) (c : Nat) (b : Bool) (hb : decide (128 ≤ c ∧ c ≤ 191) = b) :
    Calls Try.prog 38 #[.int .u8 c] w (Post w ([] : List Hp).flatten (fun _ : Unit => .bool b) (fun _ => ([] : List Hp).flatten) (fun _ => True)) := by
  refine enter [] Try.func38 rfl rfl (At.nil w) (Le.refl _) ?_
  intro R hR
  by_cases h1 : 128 ≤ c
  all_goals
    by_cases h2 : c ≤ 191
    all_goals
      first | (refine run_seq ?_; refine run_region rfl ?_; refine op_assign rfl rfl ?_; refine ops_nil ?_; refine fin_code ?_; refine run_seq ?_; refine run_region rfl ?_; refine op_move rfl rfl ?_; refine op_cmp_t rfl rfl rfl rfl (by first | (simp only [cmpP]; done) | (simp only [cmpP]; omega)) ?_; refine op_move rfl rfl ?_; refine ops_guard_yes rfl rfl rfl ?_; refine op_move rfl rfl ?_; refine ops_guard_yes rfl rfl rfl ?_; refine op_cmp_t rfl rfl rfl rfl (by first | (simp only [cmpP]; done) | (simp only [cmpP]; omega)) ?_; refine op_pick_t rfl rfl rfl ?_; refine op_assign rfl rfl ?_; refine ops_nil ?_; refine fin_code ?_; refine run_ret ?_) | (refine run_seq ?_; refine run_region rfl ?_; refine op_assign rfl rfl ?_; refine ops_nil ?_; refine fin_code ?_; refine run_seq ?_; refine run_region rfl ?_; refine op_move rfl rfl ?_; refine op_cmp_t rfl rfl rfl rfl (by first | (simp only [cmpP]; done) | (simp only [cmpP]; omega)) ?_; refine op_move rfl rfl ?_; refine ops_guard_yes rfl rfl rfl ?_; refine op_move rfl rfl ?_; refine ops_guard_yes rfl rfl rfl ?_; refine op_cmp_f rfl rfl rfl rfl (by first | (simp only [cmpP]; done) | (simp only [cmpP]; omega)) ?_; refine op_pick_t rfl rfl rfl ?_; refine op_assign rfl rfl ?_; refine ops_nil ?_; refine fin_code ?_; refine run_ret ?_) | (refine run_seq ?_; refine run_region rfl ?_; refine op_assign rfl rfl ?_; refine ops_nil ?_; refine fin_code ?_; refine run_seq ?_; refine run_region rfl ?_; refine op_move rfl rfl ?_; refine op_cmp_f rfl rfl rfl rfl (by first | (simp only [cmpP]; done) | (simp only [cmpP]; omega)) ?_; refine op_move rfl rfl ?_; refine ops_off1 rfl rfl ?_; refine ops_off1 rfl rfl ?_; refine op_pick_f rfl rfl rfl ?_; refine op_assign rfl rfl ?_; refine ops_nil ?_; refine fin_code ?_; refine run_ret ?_)
      refine fin_ret1 rfl rfl ?_
      intro w' g
      exact hR _ _ (post_of g () trivial (by rw [← hb]; first | (simp [h1, h2]; done) | (exfalso; omega)) (by (apply le_of_picks; (repeat (first | exact Picks.nil | (apply Picks.cons; (· (repeat (first | exact Pick.here | apply Pick.there)))) | apply Picks.empty)))))
set_option maxRecDepth 100000 in
theorem isLetter_any (w : World) (r : Int) (b : Bool) (hb : b = true ↔ isLI r) :
    Calls Try.prog 24 #[.int .i64 r] w (Post w ([] : List Hp).flatten (fun _ : Unit => .bool b) (fun _ => ([] : List Hp).flatten) (fun _ => True)) := by
  refine enter [] Try.func24 rfl rfl (At.nil w) (Le.refl _) ?_
  intro R hR
  by_cases h : isLI r
  · obtain rfl := hb.2 h
    obtain ⟨h1, h2, h3⟩ := h
    by_cases h4 : r < 55296
    all_goals
      first | (refine run_seq ?_; refine run_region rfl ?_; refine op_assign rfl rfl ?_; refine ops_nil ?_; refine fin_code ?_; refine run_seq ?_; refine run_region rfl ?_; refine op_move rfl rfl ?_; refine op_cmp_t rfl rfl rfl rfl (by first | (simp only [cmpP]; done) | (simp only [cmpP]; omega)) ?_; refine op_move rfl rfl ?_; refine ops_guard_yes rfl rfl rfl ?_; refine op_move rfl rfl ?_; refine ops_guard_yes rfl rfl rfl ?_; refine op_cmp_t rfl rfl rfl rfl (by first | (simp only [cmpP]; done) | (simp only [cmpP]; omega)) ?_; refine op_pick_t rfl rfl rfl ?_; refine op_move rfl rfl ?_; refine ops_guard_yes rfl rfl rfl ?_; refine op_move rfl rfl ?_; refine ops_guard_yes rfl rfl rfl ?_; refine op_cmp_f rfl rfl rfl rfl (by first | (simp only [cmpP]; done) | (simp only [cmpP]; omega)) ?_; refine ops_guard_yes rfl rfl rfl ?_; refine op_move rfl rfl ?_; refine ops_guard_yes rfl rfl rfl ?_; refine op_move rfl rfl ?_; refine ops_guard_yes rfl rfl rfl ?_; refine op_cmp_t rfl rfl rfl rfl (by first | (simp only [cmpP]; done) | (simp only [cmpP]; omega)) ?_; refine ops_guard_yes rfl rfl rfl ?_; refine op_pick_f rfl rfl rfl ?_; refine op_pick_t rfl rfl rfl ?_; refine op_assign rfl rfl ?_; refine ops_nil ?_; refine fin_code ?_; refine run_ret ?_) | (refine run_seq ?_; refine run_region rfl ?_; refine op_assign rfl rfl ?_; refine ops_nil ?_; refine fin_code ?_; refine run_seq ?_; refine run_region rfl ?_; refine op_move rfl rfl ?_; refine op_cmp_t rfl rfl rfl rfl (by first | (simp only [cmpP]; done) | (simp only [cmpP]; omega)) ?_; refine op_move rfl rfl ?_; refine ops_guard_yes rfl rfl rfl ?_; refine op_move rfl rfl ?_; refine ops_guard_yes rfl rfl rfl ?_; refine op_cmp_t rfl rfl rfl rfl (by first | (simp only [cmpP]; done) | (simp only [cmpP]; omega)) ?_; refine op_pick_t rfl rfl rfl ?_; refine op_move rfl rfl ?_; refine ops_guard_yes rfl rfl rfl ?_; refine op_move rfl rfl ?_; refine ops_guard_yes rfl rfl rfl ?_; refine op_cmp_t rfl rfl rfl rfl (by first | (simp only [cmpP]; done) | (simp only [cmpP]; omega)) ?_; refine ops_guard_yes rfl rfl rfl ?_; refine op_move rfl rfl ?_; refine ops_off1 rfl rfl ?_; refine ops_off1 rfl rfl ?_; refine ops_guard_yes rfl rfl rfl ?_; refine op_pick_t rfl rfl rfl ?_; refine op_pick_t rfl rfl rfl ?_; refine op_assign rfl rfl ?_; refine ops_nil ?_; refine fin_code ?_; refine run_ret ?_)
      refine fin_ret1 rfl rfl ?_
      intro w' g
      exact hR _ _ (post_of g () trivial rfl (by (apply le_of_picks; (repeat (first | exact Picks.nil | (apply Picks.cons; (· (repeat (first | exact Pick.here | apply Pick.there)))) | apply Picks.empty)))))
  · obtain rfl : b = false := by cases b with | false => rfl | true => exact absurd (hb.1 rfl) h
    unfold isLI at h
    by_cases h1 : 0 ≤ r
    · by_cases h2 : r ≤ 1114111
      all_goals
        first | (refine run_seq ?_; refine run_region rfl ?_; refine op_assign rfl rfl ?_; refine ops_nil ?_; refine fin_code ?_; refine run_seq ?_; refine run_region rfl ?_; refine op_move rfl rfl ?_; refine op_cmp_t rfl rfl rfl rfl (by first | (simp only [cmpP]; done) | (simp only [cmpP]; omega)) ?_; refine op_move rfl rfl ?_; refine ops_guard_yes rfl rfl rfl ?_; refine op_move rfl rfl ?_; refine ops_guard_yes rfl rfl rfl ?_; refine op_cmp_t rfl rfl rfl rfl (by first | (simp only [cmpP]; done) | (simp only [cmpP]; omega)) ?_; refine op_pick_t rfl rfl rfl ?_; refine op_move rfl rfl ?_; refine ops_guard_yes rfl rfl rfl ?_; refine op_move rfl rfl ?_; refine ops_guard_yes rfl rfl rfl ?_; refine op_cmp_f rfl rfl rfl rfl (by first | (simp only [cmpP]; done) | (simp only [cmpP]; omega)) ?_; refine ops_guard_yes rfl rfl rfl ?_; refine op_move rfl rfl ?_; refine ops_guard_yes rfl rfl rfl ?_; refine op_move rfl rfl ?_; refine ops_guard_yes rfl rfl rfl ?_; refine op_cmp_f rfl rfl rfl rfl (by first | (simp only [cmpP]; done) | (simp only [cmpP]; omega)) ?_; refine ops_guard_yes rfl rfl rfl ?_; refine op_pick_f rfl rfl rfl ?_; refine op_pick_t rfl rfl rfl ?_; refine op_assign rfl rfl ?_; refine ops_nil ?_; refine fin_code ?_; refine run_ret ?_) | (refine run_seq ?_; refine run_region rfl ?_; refine op_assign rfl rfl ?_; refine ops_nil ?_; refine fin_code ?_; refine run_seq ?_; refine run_region rfl ?_; refine op_move rfl rfl ?_; refine op_cmp_t rfl rfl rfl rfl (by first | (simp only [cmpP]; done) | (simp only [cmpP]; omega)) ?_; refine op_move rfl rfl ?_; refine ops_guard_yes rfl rfl rfl ?_; refine op_move rfl rfl ?_; refine ops_guard_yes rfl rfl rfl ?_; refine op_cmp_f rfl rfl rfl rfl (by first | (simp only [cmpP]; done) | (simp only [cmpP]; omega)) ?_; refine op_pick_t rfl rfl rfl ?_; refine op_move rfl rfl ?_; refine ops_off1 rfl rfl ?_; refine ops_off1 rfl rfl ?_; refine ops_off1 rfl rfl ?_; refine ops_off1 rfl rfl ?_; refine ops_off1 rfl rfl ?_; refine ops_off1 rfl rfl ?_; refine op_pick_f rfl rfl rfl ?_; refine op_assign rfl rfl ?_; refine ops_nil ?_; refine fin_code ?_; refine run_ret ?_)
        refine fin_ret1 rfl rfl ?_
        intro w' g
        exact hR _ _ (post_of g () trivial rfl (by (apply le_of_picks; (repeat (first | exact Picks.nil | (apply Picks.cons; (· (repeat (first | exact Pick.here | apply Pick.there)))) | apply Picks.empty)))))
    · refine run_seq ?_
      refine run_region rfl ?_
      refine op_assign rfl rfl ?_
      refine ops_nil ?_
      refine fin_code ?_
      refine run_seq ?_
      refine run_region rfl ?_
      refine op_move rfl rfl ?_
      refine op_cmp_f rfl rfl rfl rfl (by first | (simp only [cmpP]; done) | (simp only [cmpP]; omega)) ?_
      refine op_move rfl rfl ?_
      refine ops_off1 rfl rfl ?_
      refine ops_off1 rfl rfl ?_
      refine op_pick_f rfl rfl rfl ?_
      refine op_move rfl rfl ?_
      refine ops_off1 rfl rfl ?_
      refine ops_off1 rfl rfl ?_
      refine ops_off1 rfl rfl ?_
      refine ops_off1 rfl rfl ?_
      refine ops_off1 rfl rfl ?_
      refine ops_off1 rfl rfl ?_
      refine op_pick_f rfl rfl rfl ?_
      refine op_assign rfl rfl ?_
      refine ops_nil ?_
      refine fin_code ?_
      refine run_ret ?_
      refine fin_ret1 rfl rfl ?_
      intro w' g
      exact hR _ _ (post_of g () trivial rfl (by (apply le_of_picks; (repeat (first | exact Picks.nil | (apply Picks.cons; (· (repeat (first | exact Pick.here | apply Pick.there)))) | apply Picks.empty)))))
set_option maxRecDepth 100000 in
set_option maxHeartbeats 1000000 in
theorem bytes_any (w : World) (r : Nat) (hr : r ≤ 1114111) :
    Calls Try.prog 30 #[.int .i64 r] w (Post w ([] : List Hp).flatten (fun g : Nat => .slice (some ⟨g, 0, none⟩) (encN r).length (encN r).length) (fun g => ([[⟨g, .cells (u8s (encN r)).toArray 5 (0, 0)⟩]] : List Hp).flatten) (fun _ => True)) := by
  refine enter [] Try.func30 rfl rfl (At.nil w) (Le.refl _) ?_
  intro R hR
  by_cases h1 : r ≤ 127
  · have e : encN r = [r] := encN1 h1
    refine run_seq ?_
    refine run_region rfl ?_
    refine op_assign rfl rfl ?_
    refine ops_nil ?_
    refine fin_code ?_
    refine run_seq ?_
    refine run_block ?_
    refine run_seq ?_
    refine run_region rfl ?_
    refine op_move rfl rfl ?_
    refine op_cmp_t rfl rfl rfl rfl (by first | (simp only [cmpP]; done) | (simp only [cmpP]; omega)) ?_
    refine op_assign rfl rfl ?_
    refine ops_nil ?_
    refine fin_code ?_
    refine run_cond_t rfl ?_
    refine run_seq ?_
    refine run_region rfl ?_
    refine op_move rfl rfl ?_
    refine op_conv rfl rfl (by simp only [kLo, kHi]; omega) ?_
    (refine op_slice1 rfl rfl (by first | rfl | simp [Value.cells]) (by decide) ?_; intro _ _)
    refine op_assign rfl rfl ?_
    refine ops_nil ?_
    refine fin_code ?_
    refine run_ret ?_
    refine fin_ret_block ?_
    refine fin_ret_code ?_
    refine fin_ret1 rfl rfl ?_
    intro w' g
    refine hR _ _ (post_of g _ trivial (by rw [e]; rfl) ?_)
    rw [e]; (apply le_of_picks; (repeat (first | exact Picks.nil | (apply Picks.cons; (· (repeat (first | exact Pick.here | apply Pick.there)))) | apply Picks.empty)))
  by_cases h2 : r ≤ 2047
  · have e : encN r = [192 + r / 64, 128 + r % 64] := encN2 (by omega) h2
    refine run_seq ?_
    refine run_region rfl ?_
    refine op_assign rfl rfl ?_
    refine ops_nil ?_
    refine fin_code ?_
    refine run_seq ?_
    refine run_block ?_
    refine run_seq ?_
    refine run_region rfl ?_
    refine op_move rfl rfl ?_
    refine op_cmp_f rfl rfl rfl rfl (by first | (simp only [cmpP]; done) | (simp only [cmpP]; omega)) ?_
    refine op_assign rfl rfl ?_
    refine ops_nil ?_
    refine fin_code ?_
    refine run_cond_f rfl ?_
    refine run_seq ?_
    refine run_region rfl ?_
    refine op_move rfl rfl ?_
    refine op_cmp_t rfl rfl rfl rfl (by first | (simp only [cmpP]; done) | (simp only [cmpP]; omega)) ?_
    refine op_assign rfl rfl ?_
    refine ops_nil ?_
    refine fin_code ?_
    refine run_cond_t rfl ?_
    refine run_seq ?_
    refine run_region rfl ?_
    refine op_move rfl rfl ?_
    (refine op_quoN (n := 64) rfl rfl rfl (by omega) (by simp only [kHi]; omega) ?_)
    refine op_add rfl rfl rfl (by simp only [kLo, kHi]; omega) ?_
    refine op_conv rfl rfl (by simp only [kLo, kHi]; omega) ?_
    refine op_move rfl rfl ?_
    (refine op_remN (n := 64) rfl rfl rfl (by omega) ?_)
    refine op_add rfl rfl rfl (by simp only [kLo, kHi]; omega) ?_
    refine op_conv rfl rfl (by simp only [kLo, kHi]; omega) ?_
    (refine op_sliceN rfl rfl rfl (by first | (intro v hv; simp at hv; done) | (intro v hv; simp at hv; rcases hv with rfl | rfl | rfl | rfl | rfl | rfl | rfl <;> rfl) | (intro v hv; simp at hv; rcases hv with rfl | rfl | rfl | rfl | rfl | rfl <;> rfl) | (intro v hv; simp at hv; rcases hv with rfl | rfl | rfl | rfl | rfl <;> rfl) | (intro v hv; simp at hv; rcases hv with rfl | rfl | rfl | rfl <;> rfl) | (intro v hv; simp at hv; rcases hv with rfl | rfl | rfl <;> rfl) | (intro v hv; simp at hv; rcases hv with rfl | rfl <;> rfl) | (intro v hv; simp at hv; rcases hv with rfl; rfl)) rfl rfl (by decide) ?_; intro _ _)
    refine op_assign rfl rfl ?_
    refine ops_nil ?_
    refine fin_code ?_
    refine run_ret ?_
    refine fin_ret_block ?_
    refine fin_ret_code ?_
    refine fin_ret1 rfl rfl ?_
    intro w' g
    refine hR _ _ (post_of g _ trivial (by rw [e]; rfl) ?_)
    rw [e]; (apply le_of_picks; (repeat (first | exact Picks.nil | (apply Picks.cons; (· (repeat (first | exact Pick.here | apply Pick.there)))) | apply Picks.empty)))
  by_cases h3 : r ≤ 65535
  · have e : encN r = [224 + r / 4096, 128 + r / 64 % 64, 128 + r % 64] := by simp [encN, h1, h2, h3]
    refine run_seq ?_
    refine run_region rfl ?_
    refine op_assign rfl rfl ?_
    refine ops_nil ?_
    refine fin_code ?_
    refine run_seq ?_
    refine run_block ?_
    refine run_seq ?_
    refine run_region rfl ?_
    refine op_move rfl rfl ?_
    refine op_cmp_f rfl rfl rfl rfl (by first | (simp only [cmpP]; done) | (simp only [cmpP]; omega)) ?_
    refine op_assign rfl rfl ?_
    refine ops_nil ?_
    refine fin_code ?_
    refine run_cond_f rfl ?_
    refine run_seq ?_
    refine run_region rfl ?_
    refine op_move rfl rfl ?_
    refine op_cmp_f rfl rfl rfl rfl (by first | (simp only [cmpP]; done) | (simp only [cmpP]; omega)) ?_
    refine op_assign rfl rfl ?_
    refine ops_nil ?_
    refine fin_code ?_
    refine run_cond_f rfl ?_
    refine run_seq ?_
    refine run_region rfl ?_
    refine op_move rfl rfl ?_
    refine op_cmp_t rfl rfl rfl rfl (by first | (simp only [cmpP]; done) | (simp only [cmpP]; omega)) ?_
    refine op_assign rfl rfl ?_
    refine ops_nil ?_
    refine fin_code ?_
    refine run_cond_t rfl ?_
    refine run_seq ?_
    refine run_region rfl ?_
    refine op_move rfl rfl ?_
    (refine op_quoN (n := 4096) rfl rfl rfl (by omega) (by simp only [kHi]; omega) ?_)
    refine op_add rfl rfl rfl (by simp only [kLo, kHi]; omega) ?_
    refine op_conv rfl rfl (by simp only [kLo, kHi]; omega) ?_
    refine op_move rfl rfl ?_
    (refine op_quoN (n := 64) rfl rfl rfl (by omega) (by simp only [kHi]; omega) ?_)
    (refine op_remN (n := 64) rfl rfl rfl (by omega) ?_)
    refine op_add rfl rfl rfl (by simp only [kLo, kHi]; omega) ?_
    refine op_conv rfl rfl (by simp only [kLo, kHi]; omega) ?_
    refine op_move rfl rfl ?_
    (refine op_remN (n := 64) rfl rfl rfl (by omega) ?_)
    refine op_add rfl rfl rfl (by simp only [kLo, kHi]; omega) ?_
    refine op_conv rfl rfl (by simp only [kLo, kHi]; omega) ?_
    (refine op_sliceN rfl rfl rfl (by first | (intro v hv; simp at hv; done) | (intro v hv; simp at hv; rcases hv with rfl | rfl | rfl | rfl | rfl | rfl | rfl <;> rfl) | (intro v hv; simp at hv; rcases hv with rfl | rfl | rfl | rfl | rfl | rfl <;> rfl) | (intro v hv; simp at hv; rcases hv with rfl | rfl | rfl | rfl | rfl <;> rfl) | (intro v hv; simp at hv; rcases hv with rfl | rfl | rfl | rfl <;> rfl) | (intro v hv; simp at hv; rcases hv with rfl | rfl | rfl <;> rfl) | (intro v hv; simp at hv; rcases hv with rfl | rfl <;> rfl) | (intro v hv; simp at hv; rcases hv with rfl; rfl)) rfl rfl (by decide) ?_; intro _ _)
    refine op_assign rfl rfl ?_
    refine ops_nil ?_
    refine fin_code ?_
    refine run_ret ?_
    refine fin_ret_block ?_
    refine fin_ret_code ?_
    refine fin_ret1 rfl rfl ?_
    intro w' g
    refine hR _ _ (post_of g _ trivial (by rw [e]; rfl) ?_)
    rw [e]; (apply le_of_picks; (repeat (first | exact Picks.nil | (apply Picks.cons; (· (repeat (first | exact Pick.here | apply Pick.there)))) | apply Picks.empty)))
  · have e : encN r = [240 + r / 262144, 128 + r / 4096 % 64, 128 + r / 64 % 64, 128 + r % 64] := by simp [encN, h1, h2, h3]
    refine run_seq ?_
    refine run_region rfl ?_
    refine op_assign rfl rfl ?_
    refine ops_nil ?_
    refine fin_code ?_
    refine run_seq ?_
    refine run_block ?_
    refine run_seq ?_
    refine run_region rfl ?_
    refine op_move rfl rfl ?_
    refine op_cmp_f rfl rfl rfl rfl (by first | (simp only [cmpP]; done) | (simp only [cmpP]; omega)) ?_
    refine op_assign rfl rfl ?_
    refine ops_nil ?_
    refine fin_code ?_
    refine run_cond_f rfl ?_
    refine run_seq ?_
    refine run_region rfl ?_
    refine op_move rfl rfl ?_
    refine op_cmp_f rfl rfl rfl rfl (by first | (simp only [cmpP]; done) | (simp only [cmpP]; omega)) ?_
    refine op_assign rfl rfl ?_
    refine ops_nil ?_
    refine fin_code ?_
    refine run_cond_f rfl ?_
    refine run_seq ?_
    refine run_region rfl ?_
    refine op_move rfl rfl ?_
    refine op_cmp_f rfl rfl rfl rfl (by first | (simp only [cmpP]; done) | (simp only [cmpP]; omega)) ?_
    refine op_assign rfl rfl ?_
    refine ops_nil ?_
    refine fin_code ?_
    refine run_cond_f rfl ?_
    refine run_skip ?_
    refine fin_block ?_
    refine fin_code ?_
    refine run_seq ?_
    refine run_region rfl ?_
    refine op_move rfl rfl ?_
    (refine op_quoN (n := 262144) rfl rfl rfl (by omega) (by simp only [kHi]; omega) ?_)
    refine op_add rfl rfl rfl (by simp only [kLo, kHi]; omega) ?_
    refine op_conv rfl rfl (by simp only [kLo, kHi]; omega) ?_
    refine op_move rfl rfl ?_
    (refine op_quoN (n := 4096) rfl rfl rfl (by omega) (by simp only [kHi]; omega) ?_)
    (refine op_remN (n := 64) rfl rfl rfl (by omega) ?_)
    refine op_add rfl rfl rfl (by simp only [kLo, kHi]; omega) ?_
    refine op_conv rfl rfl (by simp only [kLo, kHi]; omega) ?_
    refine op_move rfl rfl ?_
    (refine op_quoN (n := 64) rfl rfl rfl (by omega) (by simp only [kHi]; omega) ?_)
    (refine op_remN (n := 64) rfl rfl rfl (by omega) ?_)
    refine op_add rfl rfl rfl (by simp only [kLo, kHi]; omega) ?_
    refine op_conv rfl rfl (by simp only [kLo, kHi]; omega) ?_
    refine op_move rfl rfl ?_
    (refine op_remN (n := 64) rfl rfl rfl (by omega) ?_)
    refine op_add rfl rfl rfl (by simp only [kLo, kHi]; omega) ?_
    refine op_conv rfl rfl (by simp only [kLo, kHi]; omega) ?_
    (refine op_sliceN rfl rfl rfl (by first | (intro v hv; simp at hv; done) | (intro v hv; simp at hv; rcases hv with rfl | rfl | rfl | rfl | rfl | rfl | rfl <;> rfl) | (intro v hv; simp at hv; rcases hv with rfl | rfl | rfl | rfl | rfl | rfl <;> rfl) | (intro v hv; simp at hv; rcases hv with rfl | rfl | rfl | rfl | rfl <;> rfl) | (intro v hv; simp at hv; rcases hv with rfl | rfl | rfl | rfl <;> rfl) | (intro v hv; simp at hv; rcases hv with rfl | rfl | rfl <;> rfl) | (intro v hv; simp at hv; rcases hv with rfl | rfl <;> rfl) | (intro v hv; simp at hv; rcases hv with rfl; rfl)) rfl rfl (by decide) ?_; intro _ _)
    refine op_assign rfl rfl ?_
    refine ops_nil ?_
    refine fin_code ?_
    refine run_ret ?_
    refine fin_ret1 rfl rfl ?_
    intro w' g
    refine hR _ _ (post_of g _ trivial (by rw [e]; rfl) ?_)
    rw [e]; (apply le_of_picks; (repeat (first | exact Picks.nil | (apply Picks.cons; (· (repeat (first | exact Pick.here | apply Pick.there)))) | apply Picks.empty)))
end Go.Proofs.Eng
