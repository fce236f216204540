/- A part of the proof: what functions of the program do, step by step. -/
import Derived.Test.YtjfpcckdelocpaaDoorZ3
set_option linter.unusedVariables false
set_option linter.unusedSimpArgs false
namespace Go.Proofs.Eng
open Go.RowKit
set_option maxRecDepth 100000 in
set_option maxHeartbeats 1000000 in
theorem encRune_any (w : World) (g cap r : Nat) (x0 x1 x2 x3 : Value) (hL : isL r) (hw : At w ([[⟨g, .cells #[x0, x1, x2, x3] 5 (0, 0)⟩]] : List Hp).flatten) :
    Calls Tryd.prog 50 #[.slice (some ⟨g, 0, none⟩) 4 cap, .int .i32 r] w (Post w ([[⟨g, .cells #[x0, x1, x2, x3] 5 (0, 0)⟩]] : List Hp).flatten (fun _ : Unit => .int .i64 (encN r).length)
      (fun _ => ([[⟨g, .cells (buf r x0 x1 x2 x3) 5 (0, 0)⟩]] : List Hp).flatten) (fun _ => True)) := by
  refine enter [[⟨g, .cells #[x0, x1, x2, x3] 5 (0, 0)⟩]] Tryd.func50 rfl rfl hw (Le.refl _) ?_
  intro R hR
  have hm := hL.1
  by_cases h7 : r ≤ 127
  · refine run_seq ?_
    refine run_region rfl ?_
    refine op_assign rfl rfl ?_
    refine ops_nil ?_
    refine fin_code ?_
    refine run_seq ?_
    refine run_seq ?_
    refine run_region rfl ?_
    refine op_move rfl rfl ?_
    refine op_conv rfl rfl (by simp only [kLo, kHi]; omega) ?_
    refine op_cmp_t rfl rfl rfl rfl (by first | (simp only [cmpP]; done) | (simp only [cmpP]; omega)) ?_
    refine ops_nil ?_
    refine fin_code ?_
    refine run_cond_t rfl ?_
    refine run_seq ?_
    refine run_region rfl ?_
    refine op_move rfl rfl ?_
    refine op_move rfl rfl ?_
    refine op_conv rfl rfl (by simp only [kLo, kHi]; omega) ?_
    refine op_index rfl rfl rfl (by omega) (by first | (rw [Int.toNat_natCast, Nat.mul_one, Nat.zero_add]) | (rw [Int.toNat_natCast, Nat.mul_one]) | (rw [Int.toNat_natCast, Nat.zero_add]) | (rw [Int.toNat_natCast]) | exact rfl) ?_
    (apply op_store; (· exact rfl); (· exact rfl); (· exact rfl); (· (repeat (first | exact Swap.here | apply Swap.there))); (· first | decide | (simp; done) | (simp; omega) | assumption))
    refine ops_nil ?_
    refine fin_code ?_
    refine run_seq ?_
    refine run_region rfl ?_
    refine op_assign rfl rfl ?_
    refine ops_nil ?_
    refine fin_code ?_
    refine run_ret ?_
    refine fin_ret_code ?_
    refine fin_ret1 rfl rfl ?_
    intro w' g'
    refine hR _ _ (post_of g' () trivial (by rw [encN1 h7]; rfl) ?_)
    unfold buf
    rw [encN1 h7]
    (apply le_of_picks; (repeat (first | exact Picks.nil | (apply Picks.cons; (· (repeat (first | exact Pick.here | apply Pick.there)))) | apply Picks.empty)))
  · refine run_seq ?_
    refine run_region rfl ?_
    refine op_assign rfl rfl ?_
    refine ops_nil ?_
    refine fin_code ?_
    refine run_seq ?_
    refine run_seq ?_
    refine run_region rfl ?_
    refine op_move rfl rfl ?_
    refine op_conv rfl rfl (by simp only [kLo, kHi]; omega) ?_
    refine op_cmp_f rfl rfl rfl rfl (by first | (simp only [cmpP]; done) | (simp only [cmpP]; omega)) ?_
    refine ops_nil ?_
    refine fin_code ?_
    refine run_cond_f rfl ?_
    refine run_skip ?_
    refine fin_code ?_
    refine run_seq ?_
    refine run_region rfl ?_
    refine op_move rfl rfl ?_
    refine op_move rfl rfl ?_
    ((first | (apply op_call; (· exact rfl)) | apply op_call0); (· exact rfl); rotate_left 1; (· exact fun w hG hw => encNon_any w g cap r x0 x1 x2 x3 hL (by omega) hw); rotate_right 1; (· (repeat (first | exact Picks.nil | (apply Picks.cons; (· (repeat (first | exact Pick.here | apply Pick.there)))) | apply Picks.empty))))
    intro _ _
    refine op_assign rfl rfl ?_
    refine ops_nil ?_
    refine fin_code ?_
    refine run_ret ?_
    refine fin_ret1 rfl rfl ?_
    intro w' g'
    exact hR _ _ (post_of g' () trivial rfl (by (apply le_of_picks; (repeat (first | exact Picks.nil | (apply Picks.cons; (· (repeat (first | exact Pick.here | apply Pick.there)))) | apply Picks.empty)))))
set_option maxRecDepth 100000 in
set_option maxHeartbeats 1000000 in
theorem encode_any (w : World) (q s e g1 g2 c1 c2 : Nat) (x0 x1 x2 x3 y0 y1 y2 y3 : Value) (h1 : isL s) (h2 : isL e) (hw : At w ([[⟨q, .cells (r2 (s, e)).toArray 113 (0, 0)⟩], [⟨g1, .cells #[x0, x1, x2, x3] 5 (0, 0)⟩], [⟨g2, .cells #[y0, y1, y2, y3] 5 (0, 0)⟩]] : List Hp).flatten) :
    Calls Tryd.prog 46 #[.pointer (some ⟨q, 0, none⟩), .slice (some ⟨g1, 0, none⟩) 4 c1, .slice (some ⟨g2, 0, none⟩) 4 c2] w
      (Post w ([[⟨q, .cells (r2 (s, e)).toArray 113 (0, 0)⟩], [⟨g1, .cells #[x0, x1, x2, x3] 5 (0, 0)⟩], [⟨g2, .cells #[y0, y1, y2, y3] 5 (0, 0)⟩]] : List Hp).flatten (fun _ : Unit => .tuple #[.int .i64 (encN s).length, .int .i64 (encN e).length])
      (fun _ => ([[⟨q, .cells (r2 (s, e)).toArray 113 (0, 0)⟩], [⟨g1, .cells (buf s x0 x1 x2 x3) 5 (0, 0)⟩], [⟨g2, .cells (buf e y0 y1 y2 y3) 5 (0, 0)⟩]] : List Hp).flatten) (fun _ => True)) := by
  refine enter [[⟨q, .cells (r2 (s, e)).toArray 113 (0, 0)⟩], [⟨g1, .cells #[x0, x1, x2, x3] 5 (0, 0)⟩], [⟨g2, .cells #[y0, y1, y2, y3] 5 (0, 0)⟩]] Tryd.func46 rfl rfl hw (Le.refl _) ?_
  intro R hR
  refine run_seq ?_
  refine run_region rfl ?_
  refine op_assign rfl rfl ?_
  refine op_assign rfl rfl ?_
  refine ops_nil ?_
  refine fin_code ?_
  refine run_seq ?_
  refine run_region rfl ?_
  refine op_move rfl rfl ?_
  refine op_move rfl rfl ?_
  refine op_nilCheck rfl rfl ?_
  refine op_fieldAddr rfl rfl ?_
  (apply op_load; (· exact rfl); (· exact rfl); (· apply cell_of_has; (· (repeat (first | exact Has.here | apply Has.there))); (· first | exact rfl | exact nats_get _ _ _ (by omega))))
  ((first | (apply op_call; (· exact rfl)) | apply op_call0); (· exact rfl); rotate_left 1; (· exact fun w hG hw => encRune_any w g1 c1 s x0 x1 x2 x3 h1 hw); rotate_right 1; (· (repeat (first | exact Picks.nil | (apply Picks.cons; (· (repeat (first | exact Pick.here | apply Pick.there)))) | apply Picks.empty))))
  intro _ _
  refine op_assign rfl rfl ?_
  refine ops_nil ?_
  refine fin_code ?_
  refine run_seq ?_
  refine run_region rfl ?_
  refine op_move rfl rfl ?_
  refine op_move rfl rfl ?_
  refine op_nilCheck rfl rfl ?_
  refine op_fieldAddr rfl rfl ?_
  (apply op_load; (· exact rfl); (· exact rfl); (· apply cell_of_has; (· (repeat (first | exact Has.here | apply Has.there))); (· first | exact rfl | exact nats_get _ _ _ (by omega))))
  ((first | (apply op_call; (· exact rfl)) | apply op_call0); (· exact rfl); rotate_left 1; (· exact fun w hG hw => encRune_any w g2 c2 e y0 y1 y2 y3 h2 hw); rotate_right 1; (· (repeat (first | exact Picks.nil | (apply Picks.cons; (· (repeat (first | exact Pick.here | apply Pick.there)))) | apply Picks.empty))))
  intro _ _
  refine op_assign rfl rfl ?_
  refine ops_nil ?_
  refine fin_code ?_
  refine run_seq ?_
  refine run_region rfl ?_
  refine op_move rfl rfl ?_
  refine op_move rfl rfl ?_
  refine op_assign rfl rfl ?_
  refine op_assign rfl rfl ?_
  refine ops_nil ?_
  refine fin_code ?_
  refine run_ret ?_
  refine fin_ret2 rfl rfl rfl ?_
  intro w' g'
  exact hR _ _ (post_of g' () trivial rfl (by (apply le_of_picks; (repeat (first | exact Picks.nil | (apply Picks.cons; (· (repeat (first | exact Pick.here | apply Pick.there)))) | apply Picks.empty)))))
end Go.Proofs.Eng
