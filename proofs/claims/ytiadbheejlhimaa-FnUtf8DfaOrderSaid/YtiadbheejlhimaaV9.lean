/- A part of the proof: what functions of the program do, step by step. -/
import Derived.Test.YtiadbheejlhimaaV8
set_option linter.unusedVariables false
set_option linter.unusedSimpArgs false
namespace Go.Proofs.Eng
open Go.RowKit
set_option maxRecDepth 100000 in
theorem zzUtf8_any (w0 : World) (mx : Nat) (hm : mx ≤ 1000000) :
    Calls Try.prog 39 #[.int .u32 mx] w0 (Post w0 ([] : List Hp).flatten (fun m : BdM => .pointer (some ⟨m.q, 0, none⟩)) (fun m => (bdH (Bd.new mx) m).flatten) (fun m => BdOk (Bd.new mx) m)) := by
  refine enter [] Try.func39 rfl rfl (At.nil w0) (Le.refl _) ?_
  intro R hR
  refine run_seq ?_
  refine run_region rfl ?_
  refine op_assign rfl rfl ?_
  refine ops_nil ?_
  refine fin_code ?_
  refine run_seq ?_
  refine run_region rfl ?_
  refine op_move rfl rfl ?_
  ((first | (apply op_call; (· exact rfl)) | apply op_call0); (· exact rfl); rotate_left 1; (· exact fun w hG hw => withMax_any w mx hm); rotate_right 1; (· (repeat (first | exact Picks.nil | (apply Picks.cons; (· (repeat (first | exact Pick.here | apply Pick.there)))) | apply Picks.empty))))
  intro m hm'
  dsimp only [bdH] at hR ⊢
  refine op_assign rfl rfl ?_
  refine ops_nil ?_
  refine fin_code ?_
  refine run_ret ?_
  refine fin_ret1 rfl rfl ?_
  intro w' g
  exact hR _ _ (post_of g m hm' rfl (by (apply le_of_picks; (repeat (first | exact Picks.nil | (apply Picks.cons; (· (repeat (first | exact Pick.here | apply Pick.there)))) | apply Picks.empty)))))
set_option maxRecDepth 100000 in
theorem zzAddState_any (w0 : World) (b : Bd) (m : BdM) (s d : Nat) (e : Bool × Nat) (hok : BdOk b m) (hwf : Wf b) (hn : b.n < 1000000) (hs : s * 4 < b.idx.length) (hd : d * 4 + 3 < b.idx.length) (hmx : s ≤ b.max) (hw : At w0 (bdH b m).flatten) :
    Calls Try.prog 40 #[.pointer (some ⟨m.q, 0, none⟩), .int .u32 s, .int .u32 d, .bool e.1, .int .u8 e.2] w0 (Post w0 (bdH b m).flatten (fun x : BdM × Nat × Nat => .tuple #[.pointer (some ⟨x.2.1, 0, none⟩), .nilIface])
      (fun x => ([sbB x.2.1 m.q (b.addS s d e).1 x.2.2] :: [psB x.2.2 (b.addS s d e).2.1] :: bdH (b.addS s d e).2.2 x.1).flatten) (fun x => x.1.q = m.q ∧ x.1.gi = m.gi ∧ BdOk (b.addS s d e).2.2 x.1)) := by
  refine enter (bdH b m) Try.func40 rfl rfl hw (Le.refl _) ?_
  intro R hR
  have A := fun w hw => addState_any w b m s d e hok hwf hn hs hd hmx hw
  obtain ⟨ex, k⟩ := e
  generalize b.addS s d (ex, k) = y at A hR
  obtain ⟨sid, ps, b'⟩ := y
  dsimp only [bdH] at hR A ⊢
  cases ex
  · rw [dv_f] at A
    refine run_seq ?_
    refine run_region rfl ?_
    refine op_assign rfl rfl ?_
    refine op_assign rfl rfl ?_
    refine ops_nil ?_
    refine fin_code ?_
    refine run_seq ?_
    refine run_seq ?_
    refine run_region rfl ?_
    refine op_move rfl rfl ?_
    refine ops_nil ?_
    refine fin_code ?_
    refine run_cond_f rfl ?_
    refine run_skip ?_
    refine fin_code ?_
    refine run_seq ?_
    refine run_region rfl ?_
    refine op_move rfl rfl ?_
    refine op_move rfl rfl ?_
    refine op_move rfl rfl ?_
    refine op_move rfl rfl ?_
    refine op_build rfl rfl rfl (by first | (intro v hv; simp at hv; done) | (intro v hv; simp at hv; rcases hv with rfl | rfl | rfl | rfl | rfl | rfl | rfl <;> rfl) | (intro v hv; simp at hv; rcases hv with rfl | rfl | rfl | rfl | rfl | rfl <;> rfl) | (intro v hv; simp at hv; rcases hv with rfl | rfl | rfl | rfl | rfl <;> rfl) | (intro v hv; simp at hv; rcases hv with rfl | rfl | rfl | rfl <;> rfl) | (intro v hv; simp at hv; rcases hv with rfl | rfl | rfl <;> rfl) | (intro v hv; simp at hv; rcases hv with rfl | rfl <;> rfl) | (intro v hv; simp at hv; rcases hv with rfl; rfl)) rfl ?_
    (refine op_val rfl (val_iface rfl) ?_)
    ((first | (apply op_call; (· exact rfl)) | apply op_call0); (· exact rfl); rotate_left 1; (· exact fun w hG hw => A w hw); rotate_right 1; (· (repeat (first | exact Picks.nil | (apply Picks.cons; (· (repeat (first | exact Pick.here | apply Pick.there)))) | apply Picks.empty))))
    rintro ⟨m', p, gp⟩ hφ
    dsimp only at hφ hR ⊢
    refine op_extract rfl rfl rfl ?_
    refine op_extract rfl rfl rfl ?_
    refine op_assign rfl rfl ?_
    refine op_assign rfl rfl ?_
    refine ops_nil ?_
    refine fin_code ?_
    refine run_ret ?_
    refine fin_ret2 rfl rfl rfl ?_
    intro w' g
    exact hR _ _ (post_of g (m', p, gp) hφ rfl (by (apply le_of_picks; (repeat (first | exact Picks.nil | (apply Picks.cons; (· (repeat (first | exact Pick.here | apply Pick.there)))) | apply Picks.empty)))))
  · rw [dv_t] at A
    refine run_seq ?_
    refine run_region rfl ?_
    refine op_assign rfl rfl ?_
    refine op_assign rfl rfl ?_
    refine ops_nil ?_
    refine fin_code ?_
    refine run_seq ?_
    refine run_seq ?_
    refine run_region rfl ?_
    refine op_move rfl rfl ?_
    refine ops_nil ?_
    refine fin_code ?_
    refine run_cond_t rfl ?_
    refine run_seq ?_
    refine run_region rfl ?_
    refine op_move rfl rfl ?_
    refine op_move rfl rfl ?_
    refine op_move rfl rfl ?_
    refine op_move rfl rfl ?_
    refine op_build rfl rfl rfl (by first | (intro v hv; simp at hv; done) | (intro v hv; simp at hv; rcases hv with rfl | rfl | rfl | rfl | rfl | rfl | rfl <;> rfl) | (intro v hv; simp at hv; rcases hv with rfl | rfl | rfl | rfl | rfl | rfl <;> rfl) | (intro v hv; simp at hv; rcases hv with rfl | rfl | rfl | rfl | rfl <;> rfl) | (intro v hv; simp at hv; rcases hv with rfl | rfl | rfl | rfl <;> rfl) | (intro v hv; simp at hv; rcases hv with rfl | rfl | rfl <;> rfl) | (intro v hv; simp at hv; rcases hv with rfl | rfl <;> rfl) | (intro v hv; simp at hv; rcases hv with rfl; rfl)) rfl ?_
    (refine op_val rfl (val_iface rfl) ?_)
    ((first | (apply op_call; (· exact rfl)) | apply op_call0); (· exact rfl); rotate_left 1; (· exact fun w hG hw => A w hw); rotate_right 1; (· (repeat (first | exact Picks.nil | (apply Picks.cons; (· (repeat (first | exact Pick.here | apply Pick.there)))) | apply Picks.empty))))
    rintro ⟨m', p, gp⟩ hφ
    dsimp only at hφ hR ⊢
    refine op_extract rfl rfl rfl ?_
    refine op_extract rfl rfl rfl ?_
    refine op_assign rfl rfl ?_
    refine op_assign rfl rfl ?_
    refine ops_nil ?_
    refine fin_code ?_
    refine run_ret ?_
    refine fin_ret_code ?_
    refine fin_ret2 rfl rfl rfl ?_
    intro w' g
    exact hR _ _ (post_of g (m', p, gp) hφ rfl (by (apply le_of_picks; (repeat (first | exact Picks.nil | (apply Picks.cons; (· (repeat (first | exact Pick.here | apply Pick.there)))) | apply Picks.empty)))))
set_option maxRecDepth 100000 in
theorem zzAddTr_any (w0 : World) (b0 : Bd) (m0 : BdM) (p sid gp r to : Nat) (ps : List Nat) (hok0 : BdOk b0 m0) (hL : isL r) (hwf0 : Wf b0) (hwt0 : Wt b0) (hpl : ps.length = 4) (hpb : ∀ x ∈ ps, x < b0.n) (hsid : sid < b0.n) (hto : to * 4 < b0.idx.length) (hn0 : b0.n < 1000000)
    (hw : At w0 ([sbB p m0.q sid gp] :: [psB gp ps] :: bdH b0 m0).flatten) :
    Calls Try.prog 41 #[.pointer (some ⟨p, 0, none⟩), .int .i32 r, .int .u32 to] w0 (Post w0 ([sbB p m0.q sid gp] :: [psB gp ps] :: bdH b0 m0).flatten (fun _ : BdM => .tuple #[])
      (fun m' => ([sbB p m'.q sid gp] :: [psB gp ps] :: bdH (b0.addT ps sid (encN r) to) m').flatten) (fun m' => m'.q = m0.q ∧ m'.gi = m0.gi ∧ BdOk (b0.addT ps sid (encN r) to) m')) := by
  refine enter ([sbB p m0.q sid gp] :: [psB gp ps] :: bdH b0 m0) Try.func41 rfl rfl hw (Le.refl _) ?_
  intro R hR
  have A := fun w hw => addTr_any w b0 m0 p sid gp r to ps hok0 hL hwf0 hwt0 hpl hpb hsid hto hn0 hw
  generalize b0.addT ps sid (encN r) to = b' at A hR
  dsimp only [bdH] at hR A ⊢
  refine run_region rfl ?_
  refine op_move rfl rfl ?_
  refine op_move rfl rfl ?_
  refine op_move rfl rfl ?_
  ((first | (apply op_call; (· exact rfl)) | apply op_call0); (· exact rfl); rotate_left 1; (· exact fun w hG hw => A w hw); rotate_right 1; (· (repeat (first | exact Picks.nil | (apply Picks.cons; (· (repeat (first | exact Pick.here | apply Pick.there)))) | apply Picks.empty))))
  intro m' hφ
  refine ops_nil ?_
  refine fin_ret0 (.inr rfl) rfl ?_
  intro w' g
  exact hR _ _ (post_of g m' hφ rfl (by (apply le_of_picks; (repeat (first | exact Picks.nil | (apply Picks.cons; (· (repeat (first | exact Pick.here | apply Pick.there)))) | apply Picks.empty)))))
set_option maxRecDepth 100000 in
theorem zzSetInit_any (w0 : World) (b : Bd) (m : BdM) (s : Nat) (hok : BdOk b m) (hwf : Wf b) (hn : b.n < 1000000) (hs : s * 4 < b.idx.length) (hw : At w0 (bdH b m).flatten) :
    Calls Try.prog 42 #[.pointer (some ⟨m.q, 0, none⟩), .int .u32 s] w0 (Post w0 (bdH b m).flatten (fun _ : BdM => .tuple #[]) (fun m' => (bdH { (b.goa (s * 4)).2 with init := (b.goa (s * 4)).1 } m').flatten) (fun m' => m'.q = m.q ∧ m'.gi = m.gi ∧ BdOk { (b.goa (s * 4)).2 with init := (b.goa (s * 4)).1 } m')) := by
  refine enter (bdH b m) Try.func42 rfl rfl hw (Le.refl _) ?_
  intro R hR
  have A := fun w hw => setInit_any w b m s hok hwf hn hs hw
  generalize ({ (b.goa (s * 4)).2 with init := (b.goa (s * 4)).1 } : Bd) = b' at A hR
  dsimp only [bdH] at hR A ⊢
  refine run_region rfl ?_
  refine op_move rfl rfl ?_
  refine op_move rfl rfl ?_
  ((first | (apply op_call; (· exact rfl)) | apply op_call0); (· exact rfl); rotate_left 1; (· exact fun w hG hw => A w hw); rotate_right 1; (· (repeat (first | exact Picks.nil | (apply Picks.cons; (· (repeat (first | exact Pick.here | apply Pick.there)))) | apply Picks.empty))))
  intro m' hφ
  refine ops_nil ?_
  refine fin_ret0 (.inr rfl) rfl ?_
  intro w' g
  exact hR _ _ (post_of g m' hφ rfl (by (apply le_of_picks; (repeat (first | exact Picks.nil | (apply Picks.cons; (· (repeat (first | exact Pick.here | apply Pick.there)))) | apply Picks.empty)))))
set_option maxRecDepth 100000 in
theorem zzBuilt_any (w0 : World) (b : Bd) (m : BdM) (hok : BdOk b m) (hi : b.init ≤ 100000000) (hw : At w0 (bdH b m).flatten) :
    Calls Try.prog 43 #[.pointer (some ⟨m.q, 0, none⟩)] w0 (Post w0 (bdH b m).flatten (fun dq : Nat => .pointer (some ⟨dq, 0, none⟩)) (fun dq => (dfH b m dq).flatten) (fun _ => True)) := by
  refine enter (bdH b m) Try.func43 rfl rfl hw (Le.refl _) ?_
  intro R hR
  have A := fun w hw => build_any w b m hok hi hw
  dsimp only [bdH, dfH] at hR A ⊢
  refine run_seq ?_
  refine run_region rfl ?_
  refine op_assign rfl rfl ?_
  refine ops_nil ?_
  refine fin_code ?_
  refine run_seq ?_
  refine run_region rfl ?_
  refine op_move rfl rfl ?_
  ((first | (apply op_call; (· exact rfl)) | apply op_call0); (· exact rfl); rotate_left 1; (· exact fun w hG hw => A w hw); rotate_right 1; (· (repeat (first | exact Picks.nil | (apply Picks.cons; (· (repeat (first | exact Pick.here | apply Pick.there)))) | apply Picks.empty))))
  intro dq _
  refine op_assign rfl rfl ?_
  refine ops_nil ?_
  refine fin_code ?_
  refine run_ret ?_
  refine fin_ret1 rfl rfl ?_
  intro w' g
  exact hR _ _ (post_of g dq trivial rfl (by (apply le_of_picks; (repeat (first | exact Picks.nil | (apply Picks.cons; (· (repeat (first | exact Pick.here | apply Pick.there)))) | apply Picks.empty)))))
end Go.Proofs.Eng
