/- A part of the proof: what functions of the program do, step by step. -/
import Derived.Test.YtjfpcckdelocpaaDoorC6
import Derived.Test.YtjfpcckdelocpaaDoorC3
set_option linter.unusedVariables false
set_option linter.unusedSimpArgs false
namespace Go.Proofs.Eng
open Go.RowKit
theorem fin_ret6 {C : Ctx} {E : Env} {Ls : List Hp} {t1 t2 t3 t4 t5 t6 : Tmp} {v1 v2 v3 v4 v5 v6 : Value} (hres : C.fn.results = #[.tmp t1, .tmp t2, .tmp t3, .tmp t4, .tmp t5, .tmp t6]) (h1 : E.find t1 = some v1) (h2 : E.find t2 = some v2) (h3 : E.find t3 = some v3) (h4 : E.find t4 = some v4) (h5 : E.find t5 = some v5) (h6 : E.find t6 = some v6)
    (h : ∀ w, Goes C.w0 C.L0 w Ls.flatten → C.R (.returned (.tuple #[v1, v2, v3, v4, v5, v6])) w) : Fin C .ret [] E Ls := by
  refine ⟨fun a w f g => ?_⟩
  exact ⟨f.d, .tuple #[v1, v2, v3, v4, v5, v6], by simp [results, hres, ← f.getD h1, ← f.getD h2, ← f.getD h3, ← f.getD h4, ← f.getD h5, ← f.getD h6], h w g⟩
/-- A compiler that has nothing yet. -/
def newCB (q sz g1 g2 : Nat) : List Hp := [coB q sz (.slice none 0 0) (.slice none 0 0) (.slice none 0 0) (.slice none 0 0) g1 g2, [⟨g1, .cells #[.int .u8 0, .int .u8 0, .int .u8 0, .int .u8 0] 5 (0, 0)⟩], [⟨g2, .cells #[.int .u8 0, .int .u8 0, .int .u8 0, .int .u8 0] 5 (0, 0)⟩]]
set_option maxRecDepth 100000 in
set_option maxHeartbeats 16000000 in
theorem newC_any (w : World) (sz B : Nat) (hB : B ≤ w.heap.size) : Calls Tryd.prog 38 #[.int .u64 sz] w (Post w ([] : List Hp).flatten (fun x : Nat × Nat × Nat => .pointer (some ⟨x.1, 0, none⟩)) (fun x => (newCB x.1 sz x.2.1 x.2.2).flatten) (fun x => B ≤ x.1 ∧ B ≤ x.2.1 ∧ B ≤ x.2.2)) := by
  refine enter [] Tryd.func38 rfl rfl (At.nil w) (Le.refl _) ?_
  intro R hR
  refine run_seq ?_
  refine run_region rfl ?_
  refine op_assign rfl rfl ?_
  refine ops_nil ?_
  refine fin_code ?_
  refine run_seq ?_
  refine run_drawS [] (by kernel_rfl) ?_
  refine dr_stab 0 rfl rfl (Val.s (val_move rfl)) (by decide +kernel) rfl rfl ?_
  refine dr_two 1 2 rfl rfl (by decide +kernel) (by (apply le_of_picks; (repeat (first | exact Picks.nil | (apply Picks.cons; (· (repeat (first | exact Pick.here | apply Pick.there)))) | apply Picks.empty)))) ?_ ?_
  · (refine op_makeC rfl rfl rfl (by decide) rfl (by decide) (by decide) ?_; intro _ _)
    rename_i g1 h1
    refine ops_nil ?_
    refine fin_draw ?_
    (refine dr_one 2 rfl (by decide +kernel) (by (apply le_of_picks; (repeat (first | exact Picks.nil | (apply Picks.cons; (· (repeat (first | exact Pick.here | apply Pick.there)))) | apply Picks.empty)))) ?_)
    (refine op_makeC rfl rfl rfl (by decide) rfl (by decide) (by decide) ?_; intro _ _)
    rename_i g2 h2
    refine ops_nil ?_
    refine fin_draw ?_
    refine dr_stab 3 rfl rfl (Val.s (val_build rfl rfl (ones rfl) rfl)) (by decide +kernel) rfl rfl ?_
    (refine dr_one 4 rfl (by decide +kernel) (by (apply le_of_picks; (repeat (first | exact Picks.nil | (apply Picks.cons; (· (repeat (first | exact Pick.here | apply Pick.there)))) | apply Picks.empty)))) ?_)
    (refine op_box rfl rfl ?_; intro _ _)
    refine ops_nil ?_
    refine fin_draw ?_
    refine dr_stab 5 rfl rfl (Val.s (val_assign rfl)) (by decide +kernel) rfl rfl ?_
    (refine dr_done (by decide +kernel) (by (apply le_of_picks; (repeat (first | exact Picks.nil | (apply Picks.cons; (· (repeat (first | exact Pick.here | apply Pick.there)))) | apply Picks.empty)))) ?_)
    rename_i q h3
    refine fin_code ?_
    refine run_ret ?_
    refine fin_ret1 rfl rfl ?_
    intro w' g
    exact hR _ _ (post_of g (q, g1, g2) ⟨Nat.le_trans hB h3, Nat.le_trans hB h1, Nat.le_trans hB h2⟩ rfl (by dsimp only [newCB, coB]; (apply le_of_picks; (repeat (first | exact Picks.nil | (apply Picks.cons; (· (repeat (first | exact Pick.here | apply Pick.there)))) | apply Picks.empty)))))
  · (refine op_makeC rfl rfl rfl (by decide) rfl (by decide) (by decide) ?_; intro _ _)
    rename_i g2 h2
    refine ops_nil ?_
    refine fin_draw ?_
    (refine dr_one 1 rfl (by decide +kernel) (by (apply le_of_picks; (repeat (first | exact Picks.nil | (apply Picks.cons; (· (repeat (first | exact Pick.here | apply Pick.there)))) | apply Picks.empty)))) ?_)
    (refine op_makeC rfl rfl rfl (by decide) rfl (by decide) (by decide) ?_; intro _ _)
    rename_i g1 h1
    refine ops_nil ?_
    refine fin_draw ?_
    refine dr_stab 3 rfl rfl (Val.s (val_build rfl rfl (ones rfl) rfl)) (by decide +kernel) rfl rfl ?_
    (refine dr_one 4 rfl (by decide +kernel) (by (apply le_of_picks; (repeat (first | exact Picks.nil | (apply Picks.cons; (· (repeat (first | exact Pick.here | apply Pick.there)))) | apply Picks.empty)))) ?_)
    (refine op_box rfl rfl ?_; intro _ _)
    refine ops_nil ?_
    refine fin_draw ?_
    refine dr_stab 5 rfl rfl (Val.s (val_assign rfl)) (by decide +kernel) rfl rfl ?_
    (refine dr_done (by decide +kernel) (by (apply le_of_picks; (repeat (first | exact Picks.nil | (apply Picks.cons; (· (repeat (first | exact Pick.here | apply Pick.there)))) | apply Picks.empty)))) ?_)
    rename_i q h3
    refine fin_code ?_
    refine run_ret ?_
    refine fin_ret1 rfl rfl ?_
    intro w' g
    exact hR _ _ (post_of g (q, g1, g2) ⟨Nat.le_trans hB h3, Nat.le_trans hB h1, Nat.le_trans hB h2⟩ rfl (by dsimp only [newCB, coB]; (apply le_of_picks; (repeat (first | exact Picks.nil | (apply Picks.cons; (· (repeat (first | exact Pick.here | apply Pick.there)))) | apply Picks.empty)))))
set_option maxRecDepth 100000 in
set_option maxHeartbeats 16000000 in
theorem zzC_any (w : World) (sz t gr cR lo hi : Nat) (curR : Array Value) (hr0 : aget curR 0 = some (.int .i32 lo)) (hr1 : aget curR 1 = some (.int .i32 hi)) (hle : lo ≤ hi) (hlo : isL lo) (hm : hi ≤ 1114111) (B : Nat) (hBw : B ≤ w.heap.size) (hB3 : B ≤ t) (hB4 : B ≤ gr) (hgl : RdB w B 5 (r2 (65535, 0))) (hgl6 : RdB w B 6 [.int .u8 255, .int .u8 0])
    (hw : At w ([trB t gr cR, [⟨gr, .cells curR 21 (0, 0)⟩]] : List Hp).flatten) :
    Calls Tryd.prog 29 #[.pointer (some ⟨t, 0, none⟩), .int .u64 sz] w (Post w ([trB t gr cR, [⟨gr, .cells curR 21 (0, 0)⟩]] : List Hp).flatten (fun z : ClS => .tuple #[z.y.v, .nilIface])
      (fun z => ([z.y.lr, z.y.M.map poB] : List Hp).flatten) (fun z => GoodL lo hi z.L ∧ z.L.length ≤ 17409 ∧ CoOk z.y (progC (z.L.map (fun p => seqOf p.1 p.2))))) := by
  refine enter [trB t gr cR, [⟨gr, .cells curR 21 (0, 0)⟩]] Tryd.func29 rfl rfl hw (Le.refl _) ?_
  intro R hR
  have hL0 : ∀ k ∈ ids ([trB t gr cR, [⟨gr, .cells curR 21 (0, 0)⟩]] : List Hp).flatten, B ≤ k := by
    intro k hk
    simp [ids, trB] at hk
    rcases hk with rfl | rfl <;> assumption
  refine run_seq ?_
  refine run_region rfl ?_
  refine op_assign rfl rfl ?_
  refine op_assign rfl rfl ?_
  refine ops_nil ?_
  refine fin_code ?_
  refine run_seq ?_
  refine run_region rfl ?_
  refine op_move rfl rfl ?_
  ((first | (apply op_call; (· exact rfl)) | apply op_call0); (· exact rfl)); (case' hc => (refine fun w hG hw => newC_any w sz B ?_)); (case hp => (repeat (first | exact Picks.nil | (apply Picks.cons; (· (repeat (first | exact Pick.here | apply Pick.there)))) | apply Picks.empty)))
  · exact Nat.le_trans hBw hG.size
  rintro ⟨q, g1, g2⟩ ⟨h1, h2, h3⟩
  dsimp only [newCB] at h1 h2 h3 ⊢
  have CL := fun w hBw hgl hgl6 hw => compile_any q sz g1 g2 w t gr cR lo hi curR hr0 hr1 hle hlo hm (.int .u8 0) (.int .u8 0) (.int .u8 0) (.int .u8 0) (.int .u8 0) (.int .u8 0) (.int .u8 0) (.int .u8 0) B hBw h1 h2 h3 hB3 hB4 hgl hgl6 hw
  refine op_move rfl rfl ?_
  ((first | (apply op_call; (· exact rfl)) | apply op_call0); (· exact rfl)); (case' hc => (refine fun w hG hw => CL w ?_ ?_ ?_ hw)); (case hp => (repeat (first | exact Picks.nil | (apply Picks.cons; (· (repeat (first | exact Pick.here | apply Pick.there)))) | apply Picks.empty)))
  · exact Nat.le_trans hBw hG.size
  · exact hgl.nowD hG hL0 hBw
  · exact hgl6.nowD hG hL0 hBw
  rintro ⟨⟨v, lr, M, r⟩, L, sq, sv⟩ hz
  dsimp only at hz ⊢
  refine op_extract rfl rfl rfl ?_
  refine op_extract rfl rfl rfl ?_
  refine op_assign rfl rfl ?_
  refine op_assign rfl rfl ?_
  refine ops_nil ?_
  refine fin_code ?_
  refine run_ret ?_
  refine fin_ret2 rfl rfl rfl ?_
  intro w' g'
  exact hR _ _ (post_of g' ⟨⟨v, lr, M, r⟩, L, sq, sv⟩ hz rfl (by (apply le_of_picks; (repeat (first | exact Picks.nil | (apply Picks.cons; (· (repeat (first | exact Pick.here | apply Pick.there)))) | apply Picks.empty)))))
set_option maxRecDepth 100000 in
set_option maxHeartbeats 16000000 in
theorem tree_any (w : World) (g0 lo hi : Nat) (B : Nat) (hB : B ≤ w.heap.size) (hB0 : B ≤ g0) (hw : At w ([[⟨g0, .cells #[.int .i32 lo, .int .i32 hi] 21 (0, 0)⟩]] : List Hp).flatten) :
    Calls Tryd.prog 30 #[.agg #[.int .i64 4, .slice (some ⟨g0, 0, none⟩) 2 2, .int .i64 0, .int .i64 0, .bool false, .bool false, .slice none 0 0]] w (Post w ([[⟨g0, .cells #[.int .i32 lo, .int .i32 hi] 21 (0, 0)⟩]] : List Hp).flatten (fun x : Nat × Nat × Nat × Array Value => .pointer (some ⟨x.1, 0, none⟩))
      (fun x => ([trB x.1 x.2.1 x.2.2.1, [⟨x.2.1, .cells x.2.2.2 21 (0, 0)⟩]] : List Hp).flatten) (fun x => aget x.2.2.2 0 = some (.int .i32 lo) ∧ aget x.2.2.2 1 = some (.int .i32 hi) ∧ B ≤ x.1 ∧ B ≤ x.2.1)) := by
  refine enter [[⟨g0, .cells #[.int .i32 lo, .int .i32 hi] 21 (0, 0)⟩]] Tryd.func30 rfl rfl hw (Le.refl _) ?_
  intro R hR
  refine run_seq ?_
  refine run_region rfl ?_
  (refine op_box rfl rfl ?_; intro _ _)
  refine op_assign rfl rfl ?_
  refine ops_nil ?_
  refine fin_code ?_
  refine run_seq ?_
  rename_i gb hgb
  refine run_drawS [[⟨gb, .cells #[.int .i64 4, .slice (some ⟨g0, 0, none⟩) 2 2, .int .i64 0, .int .i64 0, .bool false, .bool false, .slice none 0 0] 45 (0, 0)⟩]] (by kernel_rfl) ?_
  refine dr_stab 0 rfl rfl (Val.s (val_fieldAddr rfl)) (by decide +kernel) rfl rfl ?_
  (apply dr_stab 1; (· exact rfl); (· exact rfl); (· apply ValAt.s; (first | (apply val_load; (· exact rfl); (· apply cell_of_has; (· (repeat (first | exact Has.here | apply Has.there))); (· first | exact rfl | exact hgo))) | (apply val_load; (· exact rfl); (· exact Rd.cell hac hag (by simp [ids]) (show (inCells x)[_]? = some _ from rfl))))); (· decide +kernel); (· exact rfl); (· exact rfl))
  refine dr_stab 2 rfl rfl (Val.s (val_conv rfl (by simp only [kLo, kHi]; omega))) (by decide +kernel) rfl rfl ?_
  refine dr_stab 4 rfl rfl (Val.s (val_fieldAddr rfl)) (by decide +kernel) rfl rfl ?_
  (apply dr_stab 5; (· exact rfl); (· exact rfl); (· apply ValAt.s; (first | (apply val_load; (· exact rfl); (· apply cell_of_has; (· (repeat (first | exact Has.here | apply Has.there))); (· first | exact rfl | exact hgo))) | (apply val_load; (· exact rfl); (· exact Rd.cell hac hag (by simp [ids]) (show (inCells x)[_]? = some _ from rfl))))); (· decide +kernel); (· exact rfl); (· exact rfl))
  refine dr_stab 7 rfl rfl (Val.s (val_fieldAddr rfl)) (by decide +kernel) rfl rfl ?_
  (apply dr_stab 8; (· exact rfl); (· exact rfl); (· apply ValAt.s; (first | (apply val_load; (· exact rfl); (· apply cell_of_has; (· (repeat (first | exact Has.here | apply Has.there))); (· first | exact rfl | exact hgo))) | (apply val_load; (· exact rfl); (· exact Rd.cell hac hag (by simp [ids]) (show (inCells x)[_]? = some _ from rfl))))); (· decide +kernel); (· exact rfl); (· exact rfl))
  refine dr_stab 9 rfl rfl (Val.s (val_fieldAddr rfl)) (by decide +kernel) rfl rfl ?_
  (apply dr_stab 10; (· exact rfl); (· exact rfl); (· apply ValAt.s; (first | (apply val_load; (· exact rfl); (· apply cell_of_has; (· (repeat (first | exact Has.here | apply Has.there))); (· first | exact rfl | exact hgo))) | (apply val_load; (· exact rfl); (· exact Rd.cell hac hag (by simp [ids]) (show (inCells x)[_]? = some _ from rfl))))); (· decide +kernel); (· exact rfl); (· exact rfl))
  (refine dr_one 3 rfl (by decide +kernel) (by (apply le_of_picks; (repeat (first | exact Picks.nil | (apply Picks.cons; (· (repeat (first | exact Pick.here | apply Pick.there)))) | apply Picks.empty)))) ?_)
  (refine op_sliceN rfl rfl rfl (by first | (intro v hv; simp at hv; done) | (intro v hv; simp at hv; rcases hv with rfl | rfl | rfl | rfl | rfl | rfl | rfl <;> rfl) | (intro v hv; simp at hv; rcases hv with rfl | rfl | rfl | rfl | rfl | rfl <;> rfl) | (intro v hv; simp at hv; rcases hv with rfl | rfl | rfl | rfl | rfl <;> rfl) | (intro v hv; simp at hv; rcases hv with rfl | rfl | rfl | rfl <;> rfl) | (intro v hv; simp at hv; rcases hv with rfl | rfl | rfl <;> rfl) | (intro v hv; simp at hv; rcases hv with rfl | rfl <;> rfl) | (intro v hv; simp at hv; rcases hv with rfl; rfl)) rfl rfl (by decide) ?_; intro _ _)
  refine ops_nil ?_
  refine fin_draw ?_
  (refine dr_one 6 rfl (by decide +kernel) (by (apply le_of_picks; (repeat (first | exact Picks.nil | (apply Picks.cons; (· (repeat (first | exact Pick.here | apply Pick.there)))) | apply Picks.empty)))) ?_)
  have hmax : (1000000 : Nat) ≤ maxLen := by decide
  apply op_append
  · exact rfl
  · exact rfl
  · exact rfl
  · exact Own.empty
  · (repeat (first | exact Pick.here | apply Pick.there))
  · exact (show ([.int .i32 lo, .int .i32 hi] : List Value).length = 2 * 1 from rfl)
  · exact onesC rfl
  · exact fun j u hj => by
      rw [add_addr]
      refine cell_of_has (o := 0 + j) (by (repeat (first | exact Has.here | apply Has.there))) ?_
      rw [aget_eq, Nat.zero_add]
      simpa using hj
  · omega
  · omega
  · exact rfl
  intro v' l' ho'
  have ho : Own 21 1 v' 2 [.int .i32 lo, .int .i32 hi] l' := by simpa using ho'
  obtain ⟨gr, cap, sp, rfl, rfl, _, _, hsp, _⟩ := ho.open (by omega)
  refine ops_nil ?_
  refine fin_draw ?_
  refine dr_stab 11 rfl rfl (Val.s (val_build rfl rfl (ones rfl) rfl)) (by decide +kernel) rfl rfl ?_
  (refine dr_one 12 rfl (by decide +kernel) (by (apply le_of_picks; (repeat (first | exact Picks.nil | (apply Picks.cons; (· (repeat (first | exact Pick.here | apply Pick.there)))) | apply Picks.empty)))) ?_)
  (refine op_box rfl rfl ?_; intro _ _)
  refine ops_nil ?_
  refine fin_draw ?_
  refine dr_stab 13 rfl rfl (Val.s (val_assign rfl)) (by decide +kernel) rfl rfl ?_
  (refine dr_done (by decide +kernel) (by (apply le_of_picks; (repeat (first | exact Picks.nil | (apply Picks.cons; (· (repeat (first | exact Pick.here | apply Pick.there)))) | apply Picks.empty)))) ?_)
  rename_i gt hgt
  refine fin_code ?_
  refine run_seq ?_
  refine run_seq ?_
  refine run_region rfl ?_
  refine op_fieldAddr rfl rfl ?_
  (apply op_load; (· exact rfl); (· exact rfl); (· apply cell_of_has; (· (repeat (first | exact Has.here | apply Has.there))); (· first | exact rfl | exact hgo)))
  refine ops_nil ?_
  refine fin_code ?_
  refine run_cond_f rfl ?_
  refine run_skip ?_
  refine fin_code ?_
  refine run_seq ?_
  refine run_seq ?_
  refine run_region rfl ?_
  refine op_fieldAddr rfl rfl ?_
  (apply op_load; (· exact rfl); (· exact rfl); (· apply cell_of_has; (· (repeat (first | exact Has.here | apply Has.there))); (· first | exact rfl | exact hgo)))
  refine ops_nil ?_
  refine fin_code ?_
  refine run_cond_f rfl ?_
  refine run_skip ?_
  refine fin_code ?_
  refine run_seq ?_
  refine run_seq ?_
  refine run_region rfl ?_
  refine op_fieldAddr rfl rfl ?_
  (apply op_load; (· exact rfl); (· exact rfl); (· apply cell_of_has; (· (repeat (first | exact Has.here | apply Has.there))); (· first | exact rfl | exact hgo)))
  refine op_len rfl rfl ?_
  refine op_move rfl rfl ?_
  refine ops_nil ?_
  refine fin_code ?_
  refine run_block ?_
  refine run_loop (α := Unit) (fun _ => [(3, .pointer (some ⟨gt, 0, none⟩)), (38, .slice none 0 0), (39, .int .i64 0), (40, .int .i64 0)]) (fun _ => [trB gt gr cap, [⟨gr, .cells (([.int .i32 lo, .int .i32 hi] : List Value) ++ sp).toArray 21 (0, 0)⟩]]) (fun _ => True) (fun _ => 0) () trivial (by (repeat (first | exact Sub.nil _ | (refine Sub.cons rfl ?_)))) (by dsimp only [trB]; (apply le_of_picks; (repeat (first | exact Picks.nil | (apply Picks.cons; (· (repeat (first | exact Pick.here | apply Pick.there)))) | apply Picks.empty)))) ?_
  intro _ _
  dsimp only [trB]
  refine run_seq ?_
  refine run_region rfl ?_
  refine op_cmp_f rfl rfl rfl rfl (by first | (simp only [cmpP]; done) | (simp only [cmpP]; omega)) ?_
  refine ops_nil ?_
  refine fin_code ?_
  refine run_seq ?_
  refine run_cond_f rfl ?_
  refine run_exit ?_
  refine fin_exit_code ?_
  refine fin_exit_inv ?_
  refine fin_exit_here ?_
  refine fin_code ?_
  refine run_seq ?_
  refine run_region rfl ?_
  refine op_move rfl rfl ?_
  refine op_assign rfl rfl ?_
  refine ops_nil ?_
  refine fin_code ?_
  refine run_ret ?_
  refine fin_ret1 rfl rfl ?_
  intro w' g'
  refine hR _ _ (post_of g' (gt, gr, cap, (([.int .i32 lo, .int .i32 hi] : List Value) ++ sp).toArray) ⟨by simp [aget_eq], by simp [aget_eq], Nat.le_trans hB hgt, ?_⟩ rfl (by dsimp only [trB]; (apply le_of_picks; (repeat (first | exact Picks.nil | (apply Picks.cons; (· (repeat (first | exact Pick.here | apply Pick.there)))) | apply Picks.empty)))))
  rcases g'.new gr (by simp [ids]) with h | h
  · simp [ids] at h
    dsimp only
    omega
  · exact Nat.le_trans hB h
set_option maxRecDepth 100000 in
set_option maxHeartbeats 16000000 in
theorem zzI_any (w : World) (g o : Nat) (x : In) (hr : Rd w w.heap.size (some ⟨g, o, none⟩) (inCells x)) :
    Calls Tryd.prog 32 #[.pointer (some ⟨g, o, none⟩)] w (Post w ([] : List Hp).flatten (fun _ : Unit => .tuple #[.int .i64 x.op, .int .u64 x.to, .int .u64 x.a, .int .u64 x.b, .int .u8 x.lo, .int .u8 x.hi]) (fun _ => ([] : List Hp).flatten) (fun _ => True)) := by
  rcases hr with hr | ⟨g', o', e, hag, hac⟩
  · simp [inCells] at hr
  obtain ⟨rfl, rfl⟩ : g = g' ∧ o = o' := by simpa using e
  refine enter [] Tryd.func32 rfl rfl (At.nil w) (Le.refl _) ?_
  intro R hR
  refine run_seq ?_
  refine run_region rfl ?_
  refine op_assign rfl rfl ?_
  refine op_assign rfl rfl ?_
  refine op_assign rfl rfl ?_
  refine op_assign rfl rfl ?_
  refine op_assign rfl rfl ?_
  refine op_assign rfl rfl ?_
  refine ops_nil ?_
  refine fin_code ?_
  refine run_seq ?_
  refine run_drawS [] (by kernel_rfl) ?_
  refine dr_stab 0 rfl rfl (Val.s (val_move rfl)) (by decide +kernel) rfl rfl ?_
  refine dr_stab 1 rfl rfl (Val.s (val_nilCheck rfl)) (by decide +kernel) rfl rfl ?_
  refine dr_stab 2 rfl rfl (Val.s (val_fieldAddr rfl)) (by decide +kernel) rfl rfl ?_
  (apply dr_stab 3; (· exact rfl); (· exact rfl); (· apply ValAt.s; (first | (apply val_load; (· exact rfl); (· apply cell_of_has; (· (repeat (first | exact Has.here | apply Has.there))); (· first | exact rfl | exact hgo))) | (apply val_load; (· exact rfl); (· exact Rd.cell hac hag (by simp [ids]) (show (inCells x)[_]? = some _ from rfl))))); (· decide +kernel); (· exact rfl); (· exact rfl))
  refine dr_stab 4 rfl rfl (Val.s (val_move rfl)) (by decide +kernel) rfl rfl ?_
  refine dr_stab 5 rfl rfl (Val.s (val_nilCheck rfl)) (by decide +kernel) rfl rfl ?_
  refine dr_stab 6 rfl rfl (Val.s (val_fieldAddr rfl)) (by decide +kernel) rfl rfl ?_
  (apply dr_stab 7; (· exact rfl); (· exact rfl); (· apply ValAt.s; (first | (apply val_load; (· exact rfl); (· apply cell_of_has; (· (repeat (first | exact Has.here | apply Has.there))); (· first | exact rfl | exact hgo))) | (apply val_load; (· exact rfl); (· exact Rd.cell hac hag (by simp [ids]) (show (inCells x)[_]? = some _ from rfl))))); (· decide +kernel); (· exact rfl); (· exact rfl))
  refine dr_stab 8 rfl rfl (Val.s (val_move rfl)) (by decide +kernel) rfl rfl ?_
  refine dr_stab 9 rfl rfl (Val.s (val_nilCheck rfl)) (by decide +kernel) rfl rfl ?_
  refine dr_stab 10 rfl rfl (Val.s (val_fieldAddr rfl)) (by decide +kernel) rfl rfl ?_
  (apply dr_stab 11; (· exact rfl); (· exact rfl); (· apply ValAt.s; (first | (apply val_load; (· exact rfl); (· apply cell_of_has; (· (repeat (first | exact Has.here | apply Has.there))); (· first | exact rfl | exact hgo))) | (apply val_load; (· exact rfl); (· exact Rd.cell hac hag (by simp [ids]) (show (inCells x)[_]? = some _ from rfl))))); (· decide +kernel); (· exact rfl); (· exact rfl))
  refine dr_stab 12 rfl rfl (Val.s (val_move rfl)) (by decide +kernel) rfl rfl ?_
  refine dr_stab 13 rfl rfl (Val.s (val_nilCheck rfl)) (by decide +kernel) rfl rfl ?_
  refine dr_stab 14 rfl rfl (Val.s (val_fieldAddr rfl)) (by decide +kernel) rfl rfl ?_
  (apply dr_stab 15; (· exact rfl); (· exact rfl); (· apply ValAt.s; (first | (apply val_load; (· exact rfl); (· apply cell_of_has; (· (repeat (first | exact Has.here | apply Has.there))); (· first | exact rfl | exact hgo))) | (apply val_load; (· exact rfl); (· exact Rd.cell hac hag (by simp [ids]) (show (inCells x)[_]? = some _ from rfl))))); (· decide +kernel); (· exact rfl); (· exact rfl))
  refine dr_stab 16 rfl rfl (Val.s (val_move rfl)) (by decide +kernel) rfl rfl ?_
  refine dr_stab 17 rfl rfl (Val.s (val_nilCheck rfl)) (by decide +kernel) rfl rfl ?_
  refine dr_stab 18 rfl rfl (Val.s (val_fieldAddr rfl)) (by decide +kernel) rfl rfl ?_
  (apply dr_stab 19; (· exact rfl); (· exact rfl); (· apply ValAt.s; (first | (apply val_load; (· exact rfl); (· apply cell_of_has; (· (repeat (first | exact Has.here | apply Has.there))); (· first | exact rfl | exact hgo))) | (apply val_load; (· exact rfl); (· exact Rd.cell hac hag (by simp [ids]) (show (inCells x)[_]? = some _ from rfl))))); (· decide +kernel); (· exact rfl); (· exact rfl))
  refine dr_stab 20 rfl rfl (Val.s (val_move rfl)) (by decide +kernel) rfl rfl ?_
  refine dr_stab 21 rfl rfl (Val.s (val_nilCheck rfl)) (by decide +kernel) rfl rfl ?_
  refine dr_stab 22 rfl rfl (Val.s (val_fieldAddr rfl)) (by decide +kernel) rfl rfl ?_
  (apply dr_stab 23; (· exact rfl); (· exact rfl); (· apply ValAt.s; (first | (apply val_load; (· exact rfl); (· apply cell_of_has; (· (repeat (first | exact Has.here | apply Has.there))); (· first | exact rfl | exact hgo))) | (apply val_load; (· exact rfl); (· exact Rd.cell hac hag (by simp [ids]) (show (inCells x)[_]? = some _ from rfl))))); (· decide +kernel); (· exact rfl); (· exact rfl))
  refine dr_stab 24 rfl rfl (Val.s (val_assign rfl)) (by decide +kernel) rfl rfl ?_
  refine dr_stab 25 rfl rfl (Val.s (val_assign rfl)) (by decide +kernel) rfl rfl ?_
  refine dr_stab 26 rfl rfl (Val.s (val_assign rfl)) (by decide +kernel) rfl rfl ?_
  refine dr_stab 27 rfl rfl (Val.s (val_assign rfl)) (by decide +kernel) rfl rfl ?_
  refine dr_stab 28 rfl rfl (Val.s (val_assign rfl)) (by decide +kernel) rfl rfl ?_
  refine dr_stab 29 rfl rfl (Val.s (val_assign rfl)) (by decide +kernel) rfl rfl ?_
  (refine dr_done (by decide +kernel) (by (apply le_of_picks; (repeat (first | exact Picks.nil | (apply Picks.cons; (· (repeat (first | exact Pick.here | apply Pick.there)))) | apply Picks.empty)))) ?_)
  refine fin_code ?_
  refine run_ret ?_
  refine fin_ret6 rfl rfl rfl rfl rfl rfl rfl ?_
  intro w' g'
  exact hR _ _ (post_of g' () trivial rfl (by (apply le_of_picks; (repeat (first | exact Picks.nil | (apply Picks.cons; (· (repeat (first | exact Pick.here | apply Pick.there)))) | apply Picks.empty)))))
theorem PoolOk.rd {M : List Pool} {r i : Nat} {l : List In} {w : World} (h : PoolOk M r l) (hi : i < l.length) (hw : At w (M.map poB)) : Rd w w.heap.size (some ⟨gAt M i, i % 16 * 6, none⟩) (inCells l[i]) := by
  obtain ⟨M1, g, L, M2, rfl, hL, hget, hgat, _⟩ := h.at hi
  rw [hgat]
  have hm : poB (g, L) ∈ (M1 ++ (g, L) :: M2).map poB := List.mem_map.2 ⟨(g, L), by simp, rfl⟩
  have hb : w.heap[g]? = some (.cells (encI L).toArray 107 (0, 0)) := hw.here _ hm
  have h16 : i % 16 < L.length := by have := Nat.mod_lt i (show 0 < 16 by omega); omega
  have hLi : L[i % 16] = l[i] := by
    rw [List.getElem?_eq_getElem h16, List.getElem?_eq_getElem hi] at hget
    exact Option.some.inj hget
  refine .inr ⟨g, i % 16 * 6, rfl, hw.lt (List.mem_map.2 ⟨_, hm, rfl⟩), fun f v hv => ?_⟩
  rw [cell_of_heap hb, List.getElem?_toArray]
  rw [← hLi] at hv
  exact flat_get inCells 6 (fun _ => rfl) L (i % 16) h16 f v hv
theorem encI_snoc (l : List In) (x : In) : encI (l ++ [x]) = encI l ++ inCells x := by simp [encI]
set_option maxRecDepth 100000 in
set_option maxHeartbeats 16000000 in
theorem program_any (w : World) (g0 lo hi sz : Nat) (B : Nat) (hBw : B ≤ w.heap.size) (hB0 : B ≤ g0) (hle : lo ≤ hi) (hlo : isL lo) (hm : hi ≤ 1114111) (hgl : RdB w B 5 (r2 (65535, 0))) (hgl6 : RdB w B 6 [.int .u8 255, .int .u8 0]) (hw : At w ([[⟨g0, .cells #[.int .i32 lo, .int .i32 hi] 21 (0, 0)⟩]] : List Hp).flatten) :
    Calls Tryd.prog 14 #[.agg #[.int .i64 4, .slice (some ⟨g0, 0, none⟩) 2 2, .int .i64 0, .int .i64 0, .bool false, .bool false, .slice none 0 0], .int .u64 sz] w (Post w ([[⟨g0, .cells #[.int .i32 lo, .int .i32 hi] 21 (0, 0)⟩]] : List Hp).flatten (fun x : Value × Hp × List (Nat × Nat) => .tuple #[x.1, .int .i64 0])
      (fun x => ([x.2.1] : List Hp).flatten) (fun x => GoodL lo hi x.2.2 ∧ x.2.2.length ≤ 17409 ∧ Own 86 6 x.1 (progC (x.2.2.map (fun p => seqOf p.1 p.2))).length (encI (progC (x.2.2.map (fun p => seqOf p.1 p.2)))) x.2.1)) := by
  refine enter [[⟨g0, .cells #[.int .i32 lo, .int .i32 hi] 21 (0, 0)⟩]] Tryd.func14 rfl rfl hw (Le.refl _) ?_
  intro R hR
  have hL0 : ∀ k ∈ ids ([[⟨g0, .cells #[.int .i32 lo, .int .i32 hi] 21 (0, 0)⟩]] : List Hp).flatten, B ≤ k := by
    intro k hk
    simp [ids] at hk
    subst hk
    exact hB0
  refine run_seq ?_
  refine run_region rfl ?_
  (refine op_box rfl rfl ?_; intro _ _)
  refine op_assign rfl rfl ?_
  refine op_assign rfl rfl ?_
  refine ops_nil ?_
  refine fin_code ?_
  refine run_seq ?_
  refine run_region rfl ?_
  (apply op_loadAll; (· exact rfl); (· exact rfl); (· (repeat (first | exact Has.here | apply Has.there))); (· exact rfl))
  ((first | (apply op_call; (· exact rfl)) | apply op_call0); (· exact rfl)); (case' hc => (refine fun w hG hw => tree_any w g0 lo hi B ?_ hB0 hw)); (case hp => (repeat (first | exact Picks.nil | (apply Picks.cons; (· (repeat (first | exact Pick.here | apply Pick.there)))) | apply Picks.empty)))
  · exact Nat.le_trans hBw hG.size
  rintro ⟨t, gr, cR, curR⟩ ⟨hr0, hr1, hB3, hB4⟩
  dsimp only at hr0 hr1 hB3 hB4 ⊢
  refine op_move rfl rfl ?_
  ((first | (apply op_call; (· exact rfl)) | apply op_call0); (· exact rfl)); (case' hc => (refine fun w hG hw => zzC_any w sz t gr cR lo hi curR hr0 hr1 hle hlo hm B ?_ hB3 hB4 ?_ ?_ hw)); (case hp => (repeat (first | exact Picks.nil | (apply Picks.cons; (· (repeat (first | exact Pick.here | apply Pick.there)))) | apply Picks.empty)))
  · exact Nat.le_trans hBw hG.size
  · exact hgl.nowD hG hL0 hBw
  · exact hgl6.nowD hG hL0 hBw
  rintro ⟨⟨v, lr, M, r⟩, L, sq, sv⟩ ⟨h1, h2, h3⟩
  dsimp only at h1 h2 h3 ⊢
  obtain ⟨hp, ho⟩ := h3
  dsimp only at hp ho
  have hlen : (progC (L.map (fun p => seqOf p.1 p.2))).length ≤ 900000 := by
    have := prLen_le (S := L.map (fun p => seqOf p.1 p.2)) (fun s hs => by obtain ⟨p, _, rfl⟩ := List.mem_map.1 hs; exact seqOf_len _ _)
    rw [List.length_map] at this
    rw [progC_len]
    omega
  have hpos : 0 < (progC (L.map (fun p => seqOf p.1 p.2))).length := by rw [progC_len]; omega
  obtain ⟨l, hl⟩ : ∃ l, l = progC (L.map (fun p => seqOf p.1 p.2)) := ⟨_, rfl⟩
  rw [← hl] at hp ho hlen hpos
  have hmax : (1000000 : Nat) ≤ maxLen := by decide
  obtain ⟨gp, cap, cur, rfl, rfl, _, _, hz, hcur, _⟩ := ho.openN hpos
  refine op_move rfl rfl ?_
  refine op_extract rfl rfl rfl ?_
  refine op_extract rfl rfl rfl ?_
  refine op_assign rfl rfl ?_
  refine op_assign rfl rfl ?_
  refine ops_nil ?_
  refine fin_code ?_
  refine run_seq ?_
  refine run_seq ?_
  refine run_region rfl ?_
  refine op_move rfl rfl ?_
  (refine op_neIface rfl rfl ?_)
  refine ops_nil ?_
  refine fin_code ?_
  refine run_cond_f rfl ?_
  refine run_skip ?_
  refine fin_code ?_
  refine run_seq ?_
  refine run_seq ?_
  refine run_region rfl ?_
  refine op_move rfl rfl ?_
  refine op_len rfl rfl ?_
  refine op_move rfl rfl ?_
  refine ops_nil ?_
  refine fin_code ?_
  refine run_block ?_
  refine run_loop (α := Nat × Value × Hp) (fun x => [(27, .slice (some ⟨gp, 0, none⟩) l.length cap), (28, .int .i64 l.length), (29, .int .i64 (x.1 : Nat)), (4, x.2.1)]) (fun x => [[⟨gp, .cells cur 82 (0, 0)⟩], M.map poB, x.2.2])
    (fun x => x.1 ≤ l.length ∧ Own 86 6 x.2.1 x.1 (encI (l.take x.1)) x.2.2) (fun x => l.length - x.1) (0, .slice none 0 0, []) ⟨Nat.zero_le _, Own.nil _ _⟩ (by (repeat (first | exact Sub.nil _ | (refine Sub.cons rfl ?_)))) (by (apply le_of_picks; (repeat (first | exact Picks.nil | (apply Picks.cons; (· (repeat (first | exact Pick.here | apply Pick.there)))) | apply Picks.empty)))) ?_
  rintro ⟨i, rv, rl⟩ ⟨hi, hro⟩
  dsimp only at hi hro ⊢
  by_cases hin : i < l.length
  · have hgo := hcur i _ (ptrs_get (M := M) hin)
    unfold ptrI at hgo
    have htk : l.take (i + 1) = l.take i ++ [l[i]] := List.take_succ_eq_append_getElem hin
    refine run_seq ?_
    refine run_region rfl ?_
    refine op_cmp_t rfl rfl rfl rfl (by first | (simp only [cmpP]; done) | (simp only [cmpP]; omega)) ?_
    refine ops_nil ?_
    refine fin_code ?_
    refine run_seq ?_
    refine run_cond_t rfl ?_
    refine run_skip ?_
    refine fin_code ?_
    refine run_seq ?_
    refine run_block ?_
    refine run_seq ?_
    refine run_region rfl ?_
    refine op_index rfl rfl rfl (by omega) (by first | (rw [Int.toNat_natCast, Nat.mul_one, Nat.zero_add]) | (rw [Int.toNat_natCast, Nat.mul_one]) | (rw [Int.toNat_natCast, Nat.zero_add]) | (rw [Int.toNat_natCast]) | exact rfl) ?_
    (apply op_load; (· exact rfl); (· exact rfl); (· apply cell_of_has; (· (repeat (first | exact Has.here | apply Has.there))); (· first | exact rfl | exact hgo)))
    refine op_assign rfl rfl ?_
    refine ops_nil ?_
    refine fin_code ?_
    refine run_seq ?_
    refine run_region rfl ?_
    refine op_move rfl rfl ?_
    ((first | (apply op_call; (· exact rfl)) | apply op_call0); (· exact rfl)); (case' hc => (refine fun w hG hw => zzI_any w (gAt M i) (i % 16 * 6) l[i] ?_)); (case hp => (repeat (first | exact Picks.nil | (apply Picks.cons; (· (repeat (first | exact Pick.here | apply Pick.there)))) | apply Picks.empty)))
    · exact hp.rd hin (At.item hG.now (by (repeat (first | exact Pick.here | apply Pick.there))))
    intro _ _
    refine op_move rfl rfl ?_
    refine op_extract rfl rfl rfl ?_
    refine op_extract rfl rfl rfl ?_
    refine op_extract rfl rfl rfl ?_
    refine op_extract rfl rfl rfl ?_
    refine op_extract rfl rfl rfl ?_
    refine op_extract rfl rfl rfl ?_
    refine op_assign rfl rfl ?_
    refine op_assign rfl rfl ?_
    refine op_assign rfl rfl ?_
    refine op_assign rfl rfl ?_
    refine op_assign rfl rfl ?_
    refine op_assign rfl rfl ?_
    refine ops_nil ?_
    refine fin_code ?_
    refine run_region rfl ?_
    refine op_move rfl rfl ?_
    refine op_move rfl rfl ?_
    refine op_move rfl rfl ?_
    refine op_move rfl rfl ?_
    refine op_move rfl rfl ?_
    refine op_move rfl rfl ?_
    refine op_move rfl rfl ?_
    refine op_build rfl rfl rfl (by first | (intro v hv; simp at hv; done) | (intro v hv; simp at hv; rcases hv with rfl | rfl | rfl | rfl | rfl | rfl | rfl <;> rfl) | (intro v hv; simp at hv; rcases hv with rfl | rfl | rfl | rfl | rfl | rfl <;> rfl) | (intro v hv; simp at hv; rcases hv with rfl | rfl | rfl | rfl | rfl <;> rfl) | (intro v hv; simp at hv; rcases hv with rfl | rfl | rfl | rfl <;> rfl) | (intro v hv; simp at hv; rcases hv with rfl | rfl | rfl <;> rfl) | (intro v hv; simp at hv; rcases hv with rfl | rfl <;> rfl) | (intro v hv; simp at hv; rcases hv with rfl; rfl)) rfl ?_
    (refine op_slice1 rfl rfl (by first | rfl | simp [Value.cells]) (by decide) ?_; intro _ _)
    (apply op_append1; (· exact rfl); (· exact rfl); (· exact rfl); (· exact hro); (· (repeat (first | exact Pick.here | apply Pick.there))); (· (repeat (first | exact Has.here | apply Has.there))); (· exact rfl); (· first | exact onesC rfl | (intro u hu; simp [Value.cells] at hu; rcases hu with rfl | rfl | rfl | rfl | rfl | rfl <;> rfl) | (intro u hu; simp [Value.cells] at hu; rcases hu with rfl | rfl | rfl <;> rfl) | (intro u hu; simp [Value.cells] at hu; rcases hu with rfl | rfl <;> rfl) | (intro u hu; simp [Value.cells] at hu; subst hu; rfl)); (· omega); (· omega); (· exact rfl))
    intro rv' rl' hro'
    refine op_assign rfl rfl ?_
    refine ops_nil ?_
    refine fin_block ?_
    refine fin_code ?_
    refine run_region rfl ?_
    refine op_add rfl rfl rfl (by simp only [kLo, kHi]; omega) ?_
    refine op_move rfl rfl ?_
    refine ops_nil ?_
    refine fin_round (i + 1, rv', rl') (by dsimp only; omega) (by (repeat (first | exact Sub.nil _ | (refine Sub.cons rfl ?_)))) (by (apply le_of_picks; (repeat (first | exact Picks.nil | (apply Picks.cons; (· (repeat (first | exact Pick.here | apply Pick.there)))) | apply Picks.empty)))) ⟨by dsimp only; omega, ?_⟩
    dsimp only
    rw [htk, encI_snoc]
    simpa [Value.cells, inCells] using hro'
  · obtain rfl : i = l.length := by omega
    rw [List.take_length] at hro
    refine run_seq ?_
    refine run_region rfl ?_
    refine op_cmp_f rfl rfl rfl rfl (by first | (simp only [cmpP]; done) | (simp only [cmpP]; omega)) ?_
    refine ops_nil ?_
    refine fin_code ?_
    refine run_seq ?_
    refine run_cond_f rfl ?_
    refine run_exit ?_
    refine fin_exit_code ?_
    refine fin_exit_inv ?_
    refine fin_exit_here ?_
    refine fin_code ?_
    refine run_seq ?_
    refine run_region rfl ?_
    refine op_move rfl rfl ?_
    refine op_assign rfl rfl ?_
    refine op_assign rfl rfl ?_
    refine ops_nil ?_
    refine fin_code ?_
    refine run_ret ?_
    refine fin_ret2 rfl rfl rfl ?_
    intro w' g'
    exact hR _ _ (post_of g' (rv, rl, L) ⟨h1, h2, by dsimp only; rw [← hl]; exact hro⟩ rfl (by (apply le_of_picks; (repeat (first | exact Picks.nil | (apply Picks.cons; (· (repeat (first | exact Pick.here | apply Pick.there)))) | apply Picks.empty)))))
end Go.Proofs.Eng
