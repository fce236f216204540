/- A part of the proof: what functions of the program do, step by step. -/
import Derived.Test.YtjfpcckdelocpaaDoorY9
import Derived.Test.YtjfpcckdelocpaaDoorC1
set_option linter.unusedVariables false
set_option linter.unusedSimpArgs false
namespace Go.Proofs.Eng
open Go.RowKit
/-- The tree of a class of one range. -/
def trB (t gr cR : Nat) : Hp := [⟨t, .cells #[.int .u8 4, .int .u16 0, .slice none 0 0, .pointer none, .slice (some ⟨gr, 0, none⟩) 2 cR, .int .i32 0, .int .i32 0, .int .i64 0, .int .i64 0, .int .i64 0, .string ⟨#[]⟩] 104 (0, 0)⟩]
section
variable (q sz : Nat) (g1 g2 : Nat)
set_option maxRecDepth 100000 in
set_option maxHeartbeats 16000000 in
theorem class_any (w : World) (t gr cR lo hi : Nat) (curR : Array Value) (hr0 : aget curR 0 = some (.int .i32 lo)) (hr1 : aget curR 1 = some (.int .i32 hi)) (hle : lo ≤ hi) (hlo : isL lo) (hm : hi ≤ 1114111) (u0 u1 u2 u3 u4 u5 u6 u7 : Value) (B : Nat) (hBw : B ≤ w.heap.size) (hB0 : B ≤ q) (hB1 : B ≤ g1) (hB2 : B ≤ g2) (hB3 : B ≤ t) (hB4 : B ≤ gr) (hgl : RdB w B 5 (r2 (65535, 0))) (hgl6 : RdB w B 6 [.int .u8 255, .int .u8 0])
    (hw : At w ([coB q sz (.slice none 0 0) (.slice none 0 0) (.slice none 0 0) (.slice none 0 0) g1 g2, [⟨g1, .cells #[u0, u1, u2, u3] 5 (0, 0)⟩], [⟨g2, .cells #[u4, u5, u6, u7] 5 (0, 0)⟩], trB t gr cR, [⟨gr, .cells curR 21 (0, 0)⟩]] : List Hp).flatten) :
    Calls Tryd.prog 54 #[.pointer (some ⟨q, 0, none⟩), .pointer (some ⟨t, 0, none⟩)] w (Post w ([coB q sz (.slice none 0 0) (.slice none 0 0) (.slice none 0 0) (.slice none 0 0) g1 g2, [⟨g1, .cells #[u0, u1, u2, u3] 5 (0, 0)⟩], [⟨g2, .cells #[u4, u5, u6, u7] 5 (0, 0)⟩], trB t gr cR, [⟨gr, .cells curR 21 (0, 0)⟩]] : List Hp).flatten (fun _ : ClS => .nilIface)
      (fun z => (coH q sz z.sq z.sv g1 g2 z.y).flatten) (fun z => GoodL lo hi z.L ∧ z.L.length ≤ 17409 ∧ CoOk z.y (prC (prLen (z.L.map (fun p => seqOf p.1 p.2))) 0 (z.L.map (fun p => seqOf p.1 p.2))))) := by
  refine enter [coB q sz (.slice none 0 0) (.slice none 0 0) (.slice none 0 0) (.slice none 0 0) g1 g2, [⟨g1, .cells #[u0, u1, u2, u3] 5 (0, 0)⟩], [⟨g2, .cells #[u4, u5, u6, u7] 5 (0, 0)⟩], trB t gr cR, [⟨gr, .cells curR 21 (0, 0)⟩]] Tryd.func54 rfl rfl hw (Le.refl _) ?_
  intro R hR
  have hL0 : ∀ k ∈ ids ([coB q sz (.slice none 0 0) (.slice none 0 0) (.slice none 0 0) (.slice none 0 0) g1 g2, [⟨g1, .cells #[u0, u1, u2, u3] 5 (0, 0)⟩], [⟨g2, .cells #[u4, u5, u6, u7] 5 (0, 0)⟩], trB t gr cR, [⟨gr, .cells curR 21 (0, 0)⟩]] : List Hp).flatten, B ≤ k := by
    intro k hk
    simp [ids, coB, trB] at hk
    rcases hk with rfl | rfl | rfl | rfl | rfl <;> assumption
  dsimp only [trB] at hR ⊢
  have CR := fun w hBw hgl hgl6 hw => classR_any q sz g1 g2 w lo hi hle hlo hm u0 u1 u2 u3 u4 u5 u6 u7 B hBw hB0 hB1 hB2 hgl hgl6 hw
  refine run_seq ?_
  refine run_region rfl ?_
  refine op_assign rfl rfl ?_
  refine ops_nil ?_
  refine fin_code ?_
  refine run_seq ?_
  refine run_seq ?_
  refine run_region rfl ?_
  refine op_move rfl rfl ?_
  refine op_nilCheck rfl rfl ?_
  refine op_fieldAddr rfl rfl ?_
  (apply op_load; (· exact rfl); (· exact rfl); (· apply cell_of_has; (· (repeat (first | exact Has.here | apply Has.there))); (· first | exact rfl | exact hr0 | exact hr1)))
  refine op_len rfl rfl ?_
  refine op_cmp_f rfl rfl rfl rfl (by first | (simp only [cmpP]; done) | (simp only [cmpP]; omega)) ?_
  refine ops_nil ?_
  refine fin_code ?_
  refine run_cond_f rfl ?_
  refine run_skip ?_
  refine fin_code ?_
  refine run_seq ?_
  refine run_region rfl ?_
  refine op_move rfl rfl ?_
  refine op_nilCheck rfl rfl ?_
  refine op_fieldAddr rfl rfl ?_
  (apply op_load; (· exact rfl); (· exact rfl); (· apply cell_of_has; (· (repeat (first | exact Has.here | apply Has.there))); (· first | exact rfl | exact hr0 | exact hr1)))
  refine op_len rfl rfl ?_
  refine op_sub rfl rfl rfl (by simp only [kLo, kHi]; omega) ?_
  (refine op_makeC rfl rfl rfl (by decide) rfl (by decide) (by decide) ?_; intro _ _)
  refine op_assign rfl rfl ?_
  refine ops_nil ?_
  refine fin_code ?_
  refine run_seq ?_
  refine run_seq ?_
  refine run_region rfl ?_
  refine op_assign rfl rfl ?_
  refine ops_nil ?_
  refine fin_code ?_
  refine run_block ?_
  rename_i gj _
  refine run_loop (α := Unit) (fun _ => [(0, .pointer (some ⟨q, 0, none⟩)), (1, .pointer (some ⟨t, 0, none⟩)), (5, .slice (some ⟨gj, 0, none⟩) 0 0), (6, .int .i64 0)]) (fun _ => [coB q sz (.slice none 0 0) (.slice none 0 0) (.slice none 0 0) (.slice none 0 0) g1 g2, [⟨g1, .cells #[u0, u1, u2, u3] 5 (0, 0)⟩], [⟨g2, .cells #[u4, u5, u6, u7] 5 (0, 0)⟩], trB t gr cR, [⟨gr, .cells curR 21 (0, 0)⟩]]) (fun _ => True) (fun _ => 0) () trivial (by (repeat (first | exact Sub.nil _ | (refine Sub.cons rfl ?_)))) (by dsimp only [trB]; (apply le_of_picks; (repeat (first | exact Picks.nil | (apply Picks.cons; (· (repeat (first | exact Pick.here | apply Pick.there)))) | apply Picks.empty)))) ?_
  intro _ _
  dsimp only [trB]
  refine run_seq ?_
  refine run_seq ?_
  refine run_region rfl ?_
  refine op_move rfl rfl ?_
  refine op_move rfl rfl ?_
  refine op_nilCheck rfl rfl ?_
  refine op_fieldAddr rfl rfl ?_
  (apply op_load; (· exact rfl); (· exact rfl); (· apply cell_of_has; (· (repeat (first | exact Has.here | apply Has.there))); (· first | exact rfl | exact hr0 | exact hr1)))
  refine op_len rfl rfl ?_
  refine op_sub rfl rfl rfl (by simp only [kLo, kHi]; omega) ?_
  refine op_cmp_f rfl rfl rfl rfl (by first | (simp only [cmpP]; done) | (simp only [cmpP]; omega)) ?_
  refine ops_nil ?_
  refine fin_code ?_
  refine run_cond_f rfl ?_
  refine run_exit ?_
  refine fin_exit_code ?_
  refine fin_exit_inv ?_
  refine fin_exit_here ?_
  refine fin_code ?_
  refine run_seq ?_
  refine run_drawS [trB t gr cR, [⟨gr, .cells curR 21 (0, 0)⟩]] (by kernel_rfl) ?_
  refine dr_stab 0 rfl rfl (Val.s (val_move rfl)) (by decide +kernel) rfl rfl ?_
  refine dr_stab 1 rfl rfl (Val.s (val_nilCheck rfl)) (by decide +kernel) rfl rfl ?_
  refine dr_stab 2 rfl rfl (Val.s (val_fieldAddr rfl)) (by decide +kernel) rfl rfl ?_
  (apply dr_stab 3; (· exact rfl); (· exact rfl); (· apply ValAt.s; (first | (apply val_load; (· exact rfl); (· apply cell_of_has; (· (repeat (first | exact Has.here | apply Has.there))); (· first | exact rfl | exact hr0 | exact hr1))) | fail)); (· decide +kernel); (· exact rfl); (· exact rfl))
  refine dr_stab 4 rfl rfl (Val.s (val_move rfl)) (by decide +kernel) rfl rfl ?_
  refine dr_stab 5 rfl rfl (Val.s (val_nilCheck rfl)) (by decide +kernel) rfl rfl ?_
  refine dr_stab 6 rfl rfl (Val.s (val_fieldAddr rfl)) (by decide +kernel) rfl rfl ?_
  (apply dr_stab 7; (· exact rfl); (· exact rfl); (· apply ValAt.s; (first | (apply val_load; (· exact rfl); (· apply cell_of_has; (· (repeat (first | exact Has.here | apply Has.there))); (· first | exact rfl | exact hr0 | exact hr1))) | fail)); (· decide +kernel); (· exact rfl); (· exact rfl))
  refine dr_stab 8 rfl rfl (Val.s (val_len rfl)) (by decide +kernel) rfl rfl ?_
  refine dr_stab 9 rfl rfl (Val.s (val_sub rfl rfl (by simp only [kLo, kHi]; omega))) (by decide +kernel) rfl rfl ?_
  refine dr_stab 10 rfl rfl (Val.s (val_index rfl rfl (by omega) (by first | (rw [Int.toNat_natCast, Nat.mul_one, Nat.zero_add]) | (rw [Int.toNat_natCast, Nat.mul_one]) | (rw [Int.toNat_natCast, Nat.zero_add]) | (rw [Int.toNat_natCast]) | exact rfl))) (by decide +kernel) rfl rfl ?_
  (apply dr_stab 11; (· exact rfl); (· exact rfl); (· apply ValAt.s; (first | (apply val_load; (· exact rfl); (· apply cell_of_has; (· (repeat (first | exact Has.here | apply Has.there))); (· first | exact rfl | exact hr0 | exact hr1))) | fail)); (· decide +kernel); (· exact rfl); (· exact rfl))
  refine dr_stab 12 rfl rfl (Val.s (val_assign rfl)) (by decide +kernel) rfl rfl ?_
  (refine dr_done (by decide +kernel) (by (apply le_of_picks; (repeat (first | exact Picks.nil | (apply Picks.cons; (· (repeat (first | exact Pick.here | apply Pick.there)))) | apply Picks.empty)))) ?_)
  refine fin_code ?_
  refine run_seq ?_
  refine run_drawS [trB t gr cR, [⟨gr, .cells curR 21 (0, 0)⟩]] (by kernel_rfl) ?_
  refine dr_stab 0 rfl rfl (Val.s (val_move rfl)) (by decide +kernel) rfl rfl ?_
  refine dr_stab 1 rfl rfl (Val.s (val_nilCheck rfl)) (by decide +kernel) rfl rfl ?_
  refine dr_stab 2 rfl rfl (Val.s (val_fieldAddr rfl)) (by decide +kernel) rfl rfl ?_
  (apply dr_stab 3; (· exact rfl); (· exact rfl); (· apply ValAt.s; (first | (apply val_load; (· exact rfl); (· apply cell_of_has; (· (repeat (first | exact Has.here | apply Has.there))); (· first | exact rfl | exact hr0 | exact hr1))) | fail)); (· decide +kernel); (· exact rfl); (· exact rfl))
  refine dr_stab 4 rfl rfl (Val.s (val_move rfl)) (by decide +kernel) rfl rfl ?_
  refine dr_stab 5 rfl rfl (Val.s (val_nilCheck rfl)) (by decide +kernel) rfl rfl ?_
  refine dr_stab 6 rfl rfl (Val.s (val_fieldAddr rfl)) (by decide +kernel) rfl rfl ?_
  (apply dr_stab 7; (· exact rfl); (· exact rfl); (· apply ValAt.s; (first | (apply val_load; (· exact rfl); (· apply cell_of_has; (· (repeat (first | exact Has.here | apply Has.there))); (· first | exact rfl | exact hr0 | exact hr1))) | fail)); (· decide +kernel); (· exact rfl); (· exact rfl))
  refine dr_stab 8 rfl rfl (Val.s (val_len rfl)) (by decide +kernel) rfl rfl ?_
  refine dr_stab 9 rfl rfl (Val.s (val_sub rfl rfl (by simp only [kLo, kHi]; omega))) (by decide +kernel) rfl rfl ?_
  refine dr_stab 10 rfl rfl (Val.s (val_index rfl rfl (by omega) (by first | (rw [Int.toNat_natCast, Nat.mul_one, Nat.zero_add]) | (rw [Int.toNat_natCast, Nat.mul_one]) | (rw [Int.toNat_natCast, Nat.zero_add]) | (rw [Int.toNat_natCast]) | exact rfl))) (by decide +kernel) rfl rfl ?_
  (apply dr_stab 11; (· exact rfl); (· exact rfl); (· apply ValAt.s; (first | (apply val_load; (· exact rfl); (· apply cell_of_has; (· (repeat (first | exact Has.here | apply Has.there))); (· first | exact rfl | exact hr0 | exact hr1))) | fail)); (· decide +kernel); (· exact rfl); (· exact rfl))
  refine dr_stab 12 rfl rfl (Val.s (val_assign rfl)) (by decide +kernel) rfl rfl ?_
  (refine dr_done (by decide +kernel) (by (apply le_of_picks; (repeat (first | exact Picks.nil | (apply Picks.cons; (· (repeat (first | exact Pick.here | apply Pick.there)))) | apply Picks.empty)))) ?_)
  refine fin_code ?_
  refine run_seq ?_
  refine run_region rfl ?_
  refine op_move rfl rfl ?_
  refine op_move rfl rfl ?_
  refine op_move rfl rfl ?_
  ((first | (apply op_call; (· exact rfl)) | apply op_call0); (· exact rfl)); (case' hc => (refine fun w hG hw => CR w ?_ ?_ ?_ hw)); (case hp => (repeat (first | exact Picks.nil | (apply Picks.cons; (· (repeat (first | exact Pick.here | apply Pick.there)))) | apply Picks.empty)))
  · exact Nat.le_trans hBw hG.size
  · exact hgl.nowD hG hL0 hBw
  · exact hgl6.nowD hG hL0 hBw
  rintro ⟨⟨v, lr, M, r⟩, L, sq, sv⟩ ⟨h1, h2, h3⟩
  dsimp only at h1 h2 h3 ⊢
  obtain ⟨A, c, rfl⟩ := h3.row.isSlice
  have hlen : prLen (L.map (fun p => seqOf p.1 p.2)) ≤ 900000 := by
    have := prLen_le (S := L.map (fun p => seqOf p.1 p.2)) (fun s hs => by obtain ⟨p, _, rfl⟩ := List.mem_map.1 hs; exact seqOf_len _ _)
    rw [List.length_map] at this
    omega
  have hcl := prC_len (prLen (L.map (fun p => seqOf p.1 p.2))) (L.map (fun p => seqOf p.1 p.2)) 0
  obtain ⟨PL, hPL⟩ : ∃ PL, PL = prC (prLen (L.map (fun p => seqOf p.1 p.2))) 0 (L.map (fun p => seqOf p.1 p.2)) := ⟨_, rfl⟩
  rw [← hPL] at hcl h3 ⊢
  have hPn : PL.length ≤ 900000 := by omega
  have TP := fun w hw => top_any q sz sq sv g1 g2 w A PL.length c (restP M r) (by omega) hw
  dsimp only [coH, coB] at hR TP ⊢
  refine op_assign rfl rfl ?_
  refine ops_nil ?_
  refine fin_code ?_
  refine run_seq ?_
  refine run_seq ?_
  refine run_region rfl ?_
  refine op_move rfl rfl ?_
  (refine op_neIface rfl rfl ?_)
  refine ops_nil ?_
  refine fin_code ?_
  refine run_cond_f rfl ?_
  refine run_skip ?_
  refine fin_code ?_
  refine run_seq ?_
  refine run_region rfl ?_
  refine op_move rfl rfl ?_
  ((first | (apply op_call; (· exact rfl)) | apply op_call0); (· exact rfl); rotate_left 1; (· exact fun w hG hw => TP w hw); rotate_right 1; (· (repeat (first | exact Picks.nil | (apply Picks.cons; (· (repeat (first | exact Pick.here | apply Pick.there)))) | apply Picks.empty))))
  intro _ _
  refine op_assign rfl rfl ?_
  refine ops_nil ?_
  refine fin_code ?_
  refine run_seq ?_
  refine run_seq ?_
  refine run_region rfl ?_
  refine op_move rfl rfl ?_
  refine op_len rfl rfl ?_
  refine op_move rfl rfl ?_
  refine ops_nil ?_
  refine fin_code ?_
  refine run_block ?_
  refine run_loop (α := Unit) (fun _ => [(113, .slice (some ⟨gj, 0, none⟩) 0 0), (114, .int .i64 ((0 : Nat) : Int)), (115, .int .i64 0)]) (fun _ => [coB q sz (.slice A PL.length c) (restP M r) sq sv g1 g2, lr, M.map poB]) (fun _ => True) (fun _ => 0) () trivial (by (repeat (first | exact Sub.nil _ | (refine Sub.cons rfl ?_)))) (by (apply le_of_picks; (repeat (first | exact Picks.nil | (apply Picks.cons; (· (repeat (first | exact Pick.here | apply Pick.there)))) | apply Picks.empty)))) ?_
  intro _ _
  refine run_seq ?_
  refine run_region rfl ?_
  refine op_cmp_f rfl rfl rfl rfl (by first | (simp only [cmpP]; done) | (simp only [cmpP]; omega)) ?_
  refine ops_nil ?_
  refine fin_code ?_
  refine run_seq ?_
  refine run_cond_f rfl ?_
  refine run_exit ?_
  refine fin_exit_code ?_
  refine fin_exit_inv ?_
  refine fin_exit_here ?_
  refine fin_code ?_
  refine run_seq ?_
  refine run_region rfl ?_
  refine op_assign rfl rfl ?_
  refine ops_nil ?_
  refine fin_code ?_
  refine run_ret ?_
  refine fin_ret1 rfl rfl ?_
  intro w' g'
  refine hR _ _ (post_of g' ⟨⟨.slice A PL.length c, lr, M, r⟩, L, sq, sv⟩ ⟨h1, h2, by dsimp only; rw [← hPL]; exact h3⟩ rfl (by dsimp only [coH, coB]; (apply le_of_picks; (repeat (first | exact Picks.nil | (apply Picks.cons; (· (repeat (first | exact Pick.here | apply Pick.there)))) | apply Picks.empty)))))
end
end Go.Proofs.Eng
