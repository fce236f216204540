/- A part of the proof: what functions of the program do, step by step. -/
import Derived.Test.YtnomlnfdmoecoaaDoorM5
set_option linter.unusedVariables false
set_option linter.unusedSimpArgs false
namespace Go.Proofs.Eng
open Go.RowKit
/-- What the search for states leaves. -/
abbrev Pd := Nat × Value × Value × Hp × Nat
def PdOk (K : Nat → Int) (md : Nat) (dam : Bool) (x : Pd) : Prop := EndS (hashF K) md dam x.2.2.2.2 ∧ Own 58 2 x.2.2.1 (x.2.2.2.2 * nChi md) ((runFS (hashF K) md dam (x.2.2.2.2 * nChi md)).tr.flatMap trV) x.2.2.2.1
set_option maxRecDepth 100000 in
theorem zzPar_any (w : World) (p md : Nat) (dam : Bool) (hmd : md ≤ 2) (K : Nat → Int) (kv : List Value) (B : Nat) (hBw : B ≤ w.heap.size) (hBp : B ≤ p)
    (hK : RdB w B 1 kv) (hkv : ∀ i, i < 64 → kv[i]? = some (.int .u32 (K i)))
    (hw : At w ([laB p md dam] : List Hp).flatten) :
    Calls Tryd.prog 14 #[.pointer (some ⟨p, 0, none⟩)] w (Post w ([laB p md dam] : List Hp).flatten (fun x : Pd => .tuple #[.pointer (some ⟨x.1, 0, none⟩), .nilIface])
      (fun x => ([[⟨x.1, .cells #[x.2.1, x.2.2.1, .int .u8 md, .int .u32 (nChi md : Nat), .int .u32 (2 * md + 1 : Nat)] 55 (0, 0)⟩], x.2.2.2.1] : List Hp).flatten) (fun x => PdOk K md dam x)) := by
  refine enter [laB p md dam] Tryd.func14 rfl rfl hw (Le.refl _) ?_
  intro R hR
  have hL0 : ∀ k ∈ ids ([laB p md dam] : List Hp).flatten, B ≤ k := by
    intro k hk
    simp [ids, laB] at hk
    subst hk
    exact hBp
  refine run_seq ?_
  refine run_region rfl ?_
  refine op_assign rfl rfl ?_
  refine op_assign rfl rfl ?_
  refine ops_nil ?_
  refine fin_code ?_
  refine run_seq ?_
  refine run_region rfl ?_
  refine op_move rfl rfl ?_
  ((first | (apply op_call; (· exact rfl)) | apply op_call0); (· exact rfl)); (case' hc => (refine fun w hG hw => nfa_any w p md dam hmd K kv B ?_ hBp ?_ hkv hw)); (case hp => (repeat (first | exact Picks.nil | (apply Picks.cons; (· (repeat (first | exact Pick.here | apply Pick.there)))) | apply Picks.empty)))
  · exact Nat.le_trans hBw hG.size
  · exact RdB.nowD hK hG hL0 hBw
  rintro x hx
  refine op_extract rfl rfl rfl ?_
  refine op_extract rfl rfl rfl ?_
  refine op_assign rfl rfl ?_
  refine op_assign rfl rfl ?_
  refine ops_nil ?_
  refine fin_code ?_
  refine run_ret ?_
  refine fin_ret2 rfl rfl rfl ?_
  intro w' g'
  exact hR _ _ (post_of g' x hx rfl (by (apply le_of_picks; (repeat (first | exact Picks.nil | (apply Picks.cons; (· (repeat (first | exact Pick.here | apply Pick.there)))) | apply Picks.empty)))))
set_option maxRecDepth 100000 in
theorem par_any (w : World) (md : Nat) (dam : Bool) (hmd : md ≤ 2) (K : Nat → Int) (kv : List Value) (B : Nat) (hBw : B ≤ w.heap.size)
    (hK : RdB w B 1 kv) (hkv : ∀ i, i < 64 → kv[i]? = some (.int .u32 (K i))) :
    Calls Tryd.prog 8 #[.int .u8 md, .bool dam] w (Post w ([] : List Hp).flatten (fun x : Pd => .tuple #[.pointer (some ⟨x.1, 0, none⟩), .bool true])
      (fun x => ([[⟨x.1, .cells #[x.2.1, x.2.2.1, .int .u8 md, .int .u32 (nChi md : Nat), .int .u32 (2 * md + 1 : Nat)] 55 (0, 0)⟩], x.2.2.2.1] : List Hp).flatten) (fun x => PdOk K md dam x)) := by
  refine enter [] Tryd.func8 rfl rfl (At.nil w) (Le.refl _) ?_
  intro R hR
  refine run_seq ?_
  refine run_region rfl ?_
  refine op_assign rfl rfl ?_
  refine op_assign rfl rfl ?_
  refine ops_nil ?_
  refine fin_code ?_
  refine run_seq ?_
  refine run_region rfl ?_
  refine op_move rfl rfl ?_
  refine op_move rfl rfl ?_
  ((first | (apply op_call; (· exact rfl)) | apply op_call0); (· exact rfl); rotate_left 1; (· exact fun w hG hw => zzNfa_any w md dam); rotate_right 1; (· (repeat (first | exact Picks.nil | (apply Picks.cons; (· (repeat (first | exact Pick.here | apply Pick.there)))) | apply Picks.empty))))
  intro p _
  skip
  ((first | (apply op_call; (· exact rfl)) | apply op_call0); (· exact rfl)); (case' hc => (refine fun w hG hw => zzPar_any w p md dam hmd K kv B ?_ ?_ ?_ hkv hw)); (case hp => (repeat (first | exact Picks.nil | (apply Picks.cons; (· (repeat (first | exact Pick.here | apply Pick.there)))) | apply Picks.empty)))
  · exact Nat.le_trans hBw hG.size
  · exact Goes.lowB hG (by simp [ids]) hBw p (by simp [ids, laB])
  · exact RdB.nowD hK hG (by simp [ids]) hBw
  rintro x hx
  refine op_move rfl rfl ?_
  refine op_extract rfl rfl rfl ?_
  refine op_extract rfl rfl rfl ?_
  refine op_assign rfl rfl ?_
  refine op_assign rfl rfl ?_
  refine ops_nil ?_
  refine fin_code ?_
  refine run_seq ?_
  refine run_drawS [] (by kernel_rfl) ?_
  refine dr_stab 0 rfl rfl (Val.s (val_move rfl)) (by decide +kernel) rfl rfl ?_
  refine dr_stab 1 rfl rfl (Val.s (val_move rfl)) (by decide +kernel) rfl rfl ?_
  (apply dr_stab 2; (· exact rfl); (· exact rfl); (· apply Val.s; first | first | exact val_eqIface rfl); (· decide +kernel); (· exact rfl); (· exact rfl))
  refine dr_stab 3 rfl rfl (Val.s (val_assign rfl)) (by decide +kernel) rfl rfl ?_
  refine dr_stab 4 rfl rfl (Val.s (val_assign rfl)) (by decide +kernel) rfl rfl ?_
  (refine dr_done (by decide +kernel) (by (apply le_of_picks; (repeat (first | exact Picks.nil | (apply Picks.cons; (· (repeat (first | exact Pick.here | apply Pick.there)))) | apply Picks.empty)))) ?_)
  refine fin_code ?_
  refine run_ret ?_
  refine fin_ret2 rfl rfl rfl ?_
  intro w' g'
  exact hR _ _ (post_of g' x hx rfl (by (apply le_of_picks; (repeat (first | exact Picks.nil | (apply Picks.cons; (· (repeat (first | exact Pick.here | apply Pick.there)))) | apply Picks.empty)))))
set_option maxRecDepth 100000 in
theorem zzDiam_any (w : World) (q : Nat) (a b c d : Value) (D : Nat) (hw : At w ([[⟨q, .cells #[a, b, c, d, .int .u32 D] 55 (0, 0)⟩]] : List Hp).flatten) :
    Calls Tryd.prog 9 #[.pointer (some ⟨q, 0, none⟩)] w (Post w ([[⟨q, .cells #[a, b, c, d, .int .u32 D] 55 (0, 0)⟩]] : List Hp).flatten (fun _ : Unit => .int .u32 D) (fun _ => ([[⟨q, .cells #[a, b, c, d, .int .u32 D] 55 (0, 0)⟩]] : List Hp).flatten) (fun _ => True)) := by
  refine enter [[⟨q, .cells #[a, b, c, d, .int .u32 D] 55 (0, 0)⟩]] Tryd.func9 rfl rfl hw (Le.refl _) ?_
  intro R hR
  refine run_seq ?_
  refine run_region rfl ?_
  refine op_assign rfl rfl ?_
  refine ops_nil ?_
  refine fin_code ?_
  refine run_seq ?_
  refine run_region rfl ?_
  refine op_move rfl rfl ?_
  refine op_nilCheck rfl rfl ?_
  refine op_fieldAddr rfl rfl ?_
  (apply op_load; (· exact rfl); (· exact rfl); (· apply cell_of_has; (· (repeat (first | exact Has.here | apply Has.there))); (· first | exact rfl)))
  refine op_assign rfl rfl ?_
  refine ops_nil ?_
  refine fin_code ?_
  refine run_ret ?_
  refine fin_ret1 rfl rfl ?_
  intro w' g'
  exact hR _ _ (post_of g' () trivial rfl (by (apply le_of_picks; (repeat (first | exact Picks.nil | (apply Picks.cons; (· (repeat (first | exact Pick.here | apply Pick.there)))) | apply Picks.empty)))))
set_option maxRecDepth 100000 in
theorem diameter_any (w : World) (md : Nat) (dam : Bool) (hmd : md ≤ 2) (K : Nat → Int) (kv : List Value) (B : Nat) (hBw : B ≤ w.heap.size)
    (hK : RdB w B 1 kv) (hkv : ∀ i, i < 64 → kv[i]? = some (.int .u32 (K i))) :
    Calls Tryd.prog 5 #[.int .u8 md, .bool dam] w (Post w ([] : List Hp).flatten (fun _ : Unit => .tuple #[.int .u32 (2 * md + 1 : Nat), .bool true]) (fun _ => ([] : List Hp).flatten) (fun _ => True)) := by
  refine enter [] Tryd.func5 rfl rfl (At.nil w) (Le.refl _) ?_
  intro R hR
  refine run_seq ?_
  refine run_region rfl ?_
  refine op_assign rfl rfl ?_
  refine op_assign rfl rfl ?_
  refine ops_nil ?_
  refine fin_code ?_
  refine run_seq ?_
  refine run_region rfl ?_
  refine op_move rfl rfl ?_
  refine op_move rfl rfl ?_
  ((first | (apply op_call; (· exact rfl)) | apply op_call0); (· exact rfl)); (case' hc => (refine fun w hG hw => par_any w md dam hmd K kv B ?_ ?_ hkv)); (case hp => (repeat (first | exact Picks.nil | (apply Picks.cons; (· (repeat (first | exact Pick.here | apply Pick.there)))) | apply Picks.empty)))
  · exact Nat.le_trans hBw hG.size
  · exact RdB.nowD hK hG (by simp [ids]) hBw
  rintro ⟨q, a, b, lT, n⟩ hx
  dsimp only at hx ⊢
  refine op_move rfl rfl ?_
  refine op_extract rfl rfl rfl ?_
  refine op_extract rfl rfl rfl ?_
  refine op_assign rfl rfl ?_
  refine op_assign rfl rfl ?_
  refine ops_nil ?_
  refine fin_code ?_
  refine run_seq ?_
  refine run_seq ?_
  refine run_region rfl ?_
  refine op_move rfl rfl ?_
  refine op_not rfl rfl ?_
  refine ops_nil ?_
  refine fin_code ?_
  refine run_cond_f rfl ?_
  refine run_skip ?_
  refine fin_code ?_
  refine run_seq ?_
  refine run_region rfl ?_
  refine op_move rfl rfl ?_
  ((first | (apply op_call; (· exact rfl)) | apply op_call0); (· exact rfl); rotate_left 1; (· exact fun w hG hw => zzDiam_any w q a b (.int .u8 md) (.int .u32 (nChi md : Nat)) (2 * md + 1) hw); rotate_right 1; (· (repeat (first | exact Picks.nil | (apply Picks.cons; (· (repeat (first | exact Pick.here | apply Pick.there)))) | apply Picks.empty))))
  intro _ _
  refine op_assign rfl rfl ?_
  refine op_assign rfl rfl ?_
  refine ops_nil ?_
  refine fin_code ?_
  refine run_ret ?_
  refine fin_ret2 rfl rfl rfl ?_
  intro w' g'
  exact hR _ _ (post_of g' () trivial rfl (by (apply le_of_picks; (repeat (first | exact Picks.nil | (apply Picks.cons; (· (repeat (first | exact Pick.here | apply Pick.there)))) | apply Picks.empty)))))
set_option maxRecDepth 100000 in
theorem lawDiam_any (w : World) (m : Int) (h0 : 0 ≤ m) (dam : Bool) (K : Nat → Int) (kv : List Value) (B : Nat) (hBw : B ≤ w.heap.size)
    (hK : RdB w B 1 kv) (hkv : ∀ i, i < 64 → kv[i]? = some (.int .u32 (K i))) :
    Calls Tryd.prog 3 #[.int .u8 m, .bool dam] w (Post w ([] : List Hp).flatten (fun _ : Unit => .bool true) (fun _ => ([] : List Hp).flatten) (fun _ => True)) := by
  refine enter [] Tryd.func3 rfl rfl (At.nil w) (Le.refl _) ?_
  intro R hR
  by_cases h2 : 2 < m
  · refine run_seq ?_
    refine run_region rfl ?_
    refine op_assign rfl rfl ?_
    refine ops_nil ?_
    refine fin_code ?_
    refine run_seq ?_
    refine run_seq ?_
    refine run_region rfl ?_
    refine op_move rfl rfl ?_
    refine op_cmp_t rfl rfl rfl rfl (by first | (simp only [cmpP]; done) | (simp only [cmpP]; omega)) ?_
    refine ops_nil ?_
    refine fin_code ?_
    refine run_cond_t rfl ?_
    refine run_seq ?_
    refine run_region rfl ?_
    refine op_assign rfl rfl ?_
    refine ops_nil ?_
    refine fin_code ?_
    refine run_ret ?_
    refine fin_ret_code ?_
    refine fin_ret1 rfl rfl ?_
    intro w' g'
    exact hR _ _ (post_of g' () trivial rfl (by (apply le_of_picks; (repeat (first | exact Picks.nil | (apply Picks.cons; (· (repeat (first | exact Pick.here | apply Pick.there)))) | apply Picks.empty)))))
  · obtain ⟨md, rfl⟩ : ∃ md : Nat, m = md := ⟨m.toNat, by omega⟩
    refine run_seq ?_
    refine run_region rfl ?_
    refine op_assign rfl rfl ?_
    refine ops_nil ?_
    refine fin_code ?_
    refine run_seq ?_
    refine run_seq ?_
    refine run_region rfl ?_
    refine op_move rfl rfl ?_
    refine op_cmp_f rfl rfl rfl rfl (by first | (simp only [cmpP]; done) | (simp only [cmpP]; omega)) ?_
    refine ops_nil ?_
    refine fin_code ?_
    refine run_cond_f rfl ?_
    refine run_skip ?_
    refine fin_code ?_
    refine run_seq ?_
    refine run_region rfl ?_
    refine op_move rfl rfl ?_
    refine op_move rfl rfl ?_
    ((first | (apply op_call; (· exact rfl)) | apply op_call0); (· exact rfl)); (case' hc => (refine fun w hG hw => diameter_any w md dam (by omega) K kv B ?_ ?_ hkv)); (case hp => (repeat (first | exact Picks.nil | (apply Picks.cons; (· (repeat (first | exact Pick.here | apply Pick.there)))) | apply Picks.empty)))
    · exact Nat.le_trans hBw hG.size
    · exact RdB.nowD hK hG (by simp [ids]) hBw
    intro _ _
    refine op_move rfl rfl ?_
    refine op_extract rfl rfl rfl ?_
    refine op_extract rfl rfl rfl ?_
    refine op_assign rfl rfl ?_
    refine op_assign rfl rfl ?_
    refine ops_nil ?_
    refine fin_code ?_
    refine run_seq ?_
    refine run_region rfl ?_
    refine op_move rfl rfl ?_
    refine op_move rfl rfl ?_
    refine ops_guard_yes rfl rfl rfl ?_
    refine op_move rfl rfl ?_
    refine ops_guard_yes rfl rfl rfl ?_
    refine op_move rfl rfl ?_
    refine ops_guard_yes rfl rfl rfl ?_
    refine op_conv rfl rfl (by simp only [kLo, kHi]; omega) ?_
    refine ops_guard_yes rfl rfl rfl ?_
    (refine op_mul rfl rfl rfl (by simp only [kLo, kHi]; omega) ?_)
    refine ops_guard_yes rfl rfl rfl ?_
    refine op_add rfl rfl rfl (by simp only [kLo, kHi]; omega) ?_
    refine ops_guard_yes rfl rfl rfl ?_
    refine op_cmp_t rfl rfl rfl rfl (by first | (simp only [cmpP]; done) | (simp only [cmpP]; omega)) ?_
    refine op_pick_t rfl rfl rfl ?_
    refine op_assign rfl rfl ?_
    refine ops_nil ?_
    refine fin_code ?_
    refine run_ret ?_
    refine fin_ret1 rfl rfl ?_
    intro w' g'
    exact hR _ _ (post_of g' () trivial rfl (by (apply le_of_picks; (repeat (first | exact Picks.nil | (apply Picks.cons; (· (repeat (first | exact Pick.here | apply Pick.there)))) | apply Picks.empty)))))
end Go.Proofs.Eng
