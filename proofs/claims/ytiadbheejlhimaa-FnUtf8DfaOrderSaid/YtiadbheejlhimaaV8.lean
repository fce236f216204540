/- A part of the proof: what functions of the program do, step by step. -/
import Derived.Test.YtiadbheejlhimaaV7
set_option linter.unusedVariables false
set_option linter.unusedSimpArgs false
namespace Go.Proofs.Eng
open Go.RowKit
section
variable {C : Ctx} {ks : List Kont} {E : Env} {Ls Ls' : List Hp} {ops : Array Oper} {rest : List Oper}
variable {ty : Nat} {pos : String} {af : Array Edge} {d : Nat}
theorem op_invE {α : Type} (T f : Nat) {name : String} (i1 : TMeth C.P T name f) (i2 : TFn C.P f) {x : Operand} {rv : Value} {args : Array Operand} {ats : Array Nat} {vs : List Value} {ls R : List Hp} {ret : α → Value} {L' : α → List Hp} {φ : α → Prop}
    (hn : Nat.blt d C.fn.ntmps = true) (hr : ev E x = some (.iface T rv)) (hx : evs E args.toList = some vs) (hp : Picks Ls ls R)
    (hc : ∀ w, Goes C.w0 C.L0 w (ls ++ R).flatten → At w ls.flatten → Calls C.P f (rv :: vs).toArray w (Post w ls.flatten ret (fun x => (L' x).flatten) φ))
    (k : ∀ x, φ x → Ops C ops rest ks ((d, ret x) :: E) (L' x ++ R)) : Ops C ops (⟨some d, .call { callee := .invoke x name, args := args, argTypes := ats }, ty, pos, af, none⟩ :: rest) ks E Ls := op_inv hn hr hx hp hc k
theorem op_inv0E {α : Type} (T f : Nat) {name : String} (i1 : TMeth C.P T name f) (i2 : TFn C.P f) {x : Operand} {rv : Value} {args : Array Operand} {ats : Array Nat} {vs : List Value} {ls R : List Hp} {ret : α → Value} {L' : α → List Hp} {φ : α → Prop}
    (hr : ev E x = some (.iface T rv)) (hx : evs E args.toList = some vs) (hp : Picks Ls ls R)
    (hc : ∀ w, Goes C.w0 C.L0 w (ls ++ R).flatten → At w ls.flatten → Calls C.P f (rv :: vs).toArray w (Post w ls.flatten ret (fun x => (L' x).flatten) φ))
    (k : ∀ x, φ x → Ops C ops rest ks E (L' x ++ R)) : Ops C ops (⟨none, .call { callee := .invoke x name, args := args, argTypes := ats }, ty, pos, af, none⟩ :: rest) ks E Ls := op_inv0 hr hx hp hc k
end
section
variable {b : Bd} {dq : Nat}
theorem dv_t (k : Nat) : dv (true, k) = .iface 116 (.agg #[.int .u8 k]) := rfl
theorem dv_f (k : Nat) : dv (false, k) = .iface 117 (.agg #[.int .u8 k]) := rfl
set_option maxRecDepth 100000 in
theorem edit_any (w : World) (s : Nat) (h : DfaR w b dq) (hs : s < b.n) : Calls Try.prog 28 #[.pointer (some ⟨dq, 0, none⟩), .int .i64 s] w (Post w ([] : List Hp).flatten (fun _ : Unit => .int .u8 ((b.di s).2 : Nat)) (fun _ => ([] : List Hp).flatten) (fun _ => True)) := by
  refine enter [] Try.func28 rfl rfl (At.nil w) (Le.refl _) ?_
  intro R hR
  obtain ⟨few, ini, fln, dln, T, D, ct, cd, hR0, hT, hD⟩ := h
  obtain ⟨gd, od, rfl, hgd, hcd⟩ := hD.some (by simp; omega)
  have hgd1 : (b.dist.map dv)[s]? = some (dv (b.di s)) := by
    rw [List.getElem?_map, List.getElem?_eq_getElem (by omega), Bd.di, List.getD_eq_getElem?_getD, List.getElem?_eq_getElem (by omega)]
    rfl
  generalize b.di s = x at hgd1 hR
  obtain ⟨ex, k⟩ := x
  cases ex
  · rw [dv_f] at hgd1
    refine run_seq ?_
    refine run_region rfl ?_
    refine op_assign rfl rfl ?_
    refine ops_nil ?_
    refine fin_code ?_
    refine run_seq ?_
    refine run_region rfl ?_
    refine op_move rfl rfl ?_
    refine op_nilCheck rfl rfl ?_
    refine op_fieldAddr rfl rfl ?_
    (apply op_load; (· exact rfl); (· exact rfl); (· exact RdB.cell hR0 (by simp [ids]) rfl))
    refine op_move rfl rfl ?_
    refine op_index rfl rfl rfl (by omega) (by first | (rw [Int.toNat_natCast, Nat.mul_one, Nat.zero_add]) | (rw [Int.toNat_natCast, Nat.mul_one]) | (rw [Int.toNat_natCast, Nat.zero_add]) | (rw [Int.toNat_natCast]) | exact rfl) ?_
    (apply op_load; (· exact rfl); (· exact rfl); (· exact Rd.cellE hcd hgd (by simp [ids]) (by first | rfl | omega) hgd1))
    ((first | (apply op_invE 117 59; (· infer_instance); (· infer_instance); (· exact rfl)) | (apply op_inv0E 117 59; (· infer_instance); (· infer_instance))); (· exact rfl); (· exact rfl); rotate_left 1; (· exact fun w hG hw => atleast_any w k); rotate_right 1; (· (repeat (first | exact Picks.nil | (apply Picks.cons; (· (repeat (first | exact Pick.here | apply Pick.there)))) | apply Picks.empty))))
    intro _ _
    refine op_assign rfl rfl ?_
    refine ops_nil ?_
    refine fin_code ?_
    refine run_ret ?_
    refine fin_ret1 rfl rfl ?_
    intro w' g
    exact hR _ _ (post_of g () trivial rfl (by (apply le_of_picks; (repeat (first | exact Picks.nil | (apply Picks.cons; (· (repeat (first | exact Pick.here | apply Pick.there)))) | apply Picks.empty)))))
  · rw [dv_t] at hgd1
    refine run_seq ?_
    refine run_region rfl ?_
    refine op_assign rfl rfl ?_
    refine ops_nil ?_
    refine fin_code ?_
    refine run_seq ?_
    refine run_region rfl ?_
    refine op_move rfl rfl ?_
    refine op_nilCheck rfl rfl ?_
    refine op_fieldAddr rfl rfl ?_
    (apply op_load; (· exact rfl); (· exact rfl); (· exact RdB.cell hR0 (by simp [ids]) rfl))
    refine op_move rfl rfl ?_
    refine op_index rfl rfl rfl (by omega) (by first | (rw [Int.toNat_natCast, Nat.mul_one, Nat.zero_add]) | (rw [Int.toNat_natCast, Nat.mul_one]) | (rw [Int.toNat_natCast, Nat.zero_add]) | (rw [Int.toNat_natCast]) | exact rfl) ?_
    (apply op_load; (· exact rfl); (· exact rfl); (· exact Rd.cellE hcd hgd (by simp [ids]) (by first | rfl | omega) hgd1))
    ((first | (apply op_invE 116 114; (· infer_instance); (· infer_instance); (· exact rfl)) | (apply op_inv0E 116 114; (· infer_instance); (· infer_instance))); (· exact rfl); (· exact rfl); rotate_left 1; (· exact fun w hG hw => exact_any w k); rotate_right 1; (· (repeat (first | exact Picks.nil | (apply Picks.cons; (· (repeat (first | exact Pick.here | apply Pick.there)))) | apply Picks.empty))))
    intro _ _
    refine op_assign rfl rfl ?_
    refine ops_nil ?_
    refine fin_code ?_
    refine run_ret ?_
    refine fin_ret1 rfl rfl ?_
    intro w' g
    exact hR _ _ (post_of g () trivial rfl (by (apply le_of_picks; (repeat (first | exact Picks.nil | (apply Picks.cons; (· (repeat (first | exact Pick.here | apply Pick.there)))) | apply Picks.empty)))))
set_option maxRecDepth 100000 in
theorem ismatch_any (w : World) (s : Nat) (h : DfaR w b dq) (hs : s < b.n) : Calls Try.prog 107 #[.pointer (some ⟨dq, 0, none⟩), .int .i64 s] w (Post w ([] : List Hp).flatten (fun _ : Unit => .bool (b.di s).1) (fun _ => ([] : List Hp).flatten) (fun _ => True)) := by
  refine enter [] Try.func107 rfl rfl (At.nil w) (Le.refl _) ?_
  intro R hR
  refine run_seq ?_
  refine run_region rfl ?_
  refine op_assign rfl rfl ?_
  refine ops_nil ?_
  refine fin_code ?_
  refine run_seq ?_
  refine run_seq ?_
  refine run_region rfl ?_
  refine op_move rfl rfl ?_
  refine op_move rfl rfl ?_
  ((first | (apply op_call; (· exact rfl)) | apply op_call0); (· exact rfl)); (case' hc => (refine fun w hG hw => dist_any (b := b) w s ?_ hs)); (case hp => (repeat (first | exact Picks.nil | (apply Picks.cons; (· (repeat (first | exact Pick.here | apply Pick.there)))) | apply Picks.empty)))
  · exact h.now hG
  intro _ _
  generalize b.di s = x at hR ⊢
  obtain ⟨ex, k⟩ := x
  cases ex
  · rw [dv_f]
    (refine op_val rfl (val_assert_no rfl rfl) ?_)
    refine op_move rfl rfl ?_
    refine op_extract rfl rfl rfl ?_
    refine op_extract rfl rfl rfl ?_
    (refine op_alloc rfl ?_; intro _ _)
    (apply op_storeAll; (· exact rfl); (· exact rfl); (· exact rfl); (· exact onesC rfl); (· (repeat (first | exact Swap.here | apply Swap.there))); (· exact rfl))
    refine op_assign rfl rfl ?_
    refine ops_nil ?_
    refine fin_code ?_
    refine run_seq ?_
    refine run_region rfl ?_
    refine op_move rfl rfl ?_
    refine ops_nil ?_
    refine fin_code ?_
    refine run_cond_f rfl ?_
    refine run_skip ?_
    refine fin_code ?_
    refine run_seq ?_
    refine run_region rfl ?_
    refine op_assign rfl rfl ?_
    refine ops_nil ?_
    refine fin_code ?_
    refine run_ret ?_
    refine fin_ret1 rfl rfl ?_
    intro w' g
    exact hR _ _ (post_of g () trivial rfl (by (apply le_of_picks; (repeat (first | exact Picks.nil | (apply Picks.cons; (· (repeat (first | exact Pick.here | apply Pick.there)))) | apply Picks.empty)))))
  · rw [dv_t]
    (refine op_val rfl (val_assert_yes rfl) ?_)
    refine op_move rfl rfl ?_
    refine op_extract rfl rfl rfl ?_
    refine op_extract rfl rfl rfl ?_
    (refine op_alloc rfl ?_; intro _ _)
    (apply op_storeAll; (· exact rfl); (· exact rfl); (· exact rfl); (· exact onesC rfl); (· (repeat (first | exact Swap.here | apply Swap.there))); (· exact rfl))
    refine op_assign rfl rfl ?_
    refine ops_nil ?_
    refine fin_code ?_
    refine run_seq ?_
    refine run_region rfl ?_
    refine op_move rfl rfl ?_
    refine ops_nil ?_
    refine fin_code ?_
    refine run_cond_t rfl ?_
    refine run_seq ?_
    refine run_region rfl ?_
    refine op_assign rfl rfl ?_
    refine ops_nil ?_
    refine fin_code ?_
    refine run_ret ?_
    refine fin_ret_code ?_
    refine fin_ret1 rfl rfl ?_
    intro w' g
    exact hR _ _ (post_of g () trivial rfl (by (apply le_of_picks; (repeat (first | exact Picks.nil | (apply Picks.cons; (· (repeat (first | exact Pick.here | apply Pick.there)))) | apply Picks.empty)))))
set_option maxRecDepth 100000 in
theorem nstates_any (w : World) (h : DfaR w b dq) : Calls Try.prog 110 #[.pointer (some ⟨dq, 0, none⟩)] w (Post w ([] : List Hp).flatten (fun _ : Unit => .int .i64 b.n) (fun _ => ([] : List Hp).flatten) (fun _ => True)) := by
  refine enter [] Try.func110 rfl rfl (At.nil w) (Le.refl _) ?_
  intro R hR
  obtain ⟨few, ini, fln, dln, T, D, ct, cd, hR0, hT, hD⟩ := h
  refine run_seq ?_
  refine run_region rfl ?_
  refine op_assign rfl rfl ?_
  refine ops_nil ?_
  refine fin_code ?_
  refine run_seq ?_
  refine run_region rfl ?_
  refine op_move rfl rfl ?_
  refine op_nilCheck rfl rfl ?_
  refine op_fieldAddr rfl rfl ?_
  (apply op_load; (· exact rfl); (· exact rfl); (· exact RdB.cell hR0 (by simp [ids]) rfl))
  refine op_len rfl rfl ?_
  refine op_assign rfl rfl ?_
  refine ops_nil ?_
  refine fin_code ?_
  refine run_ret ?_
  refine fin_ret1 rfl rfl ?_
  intro w' g
  exact hR _ _ (post_of g () trivial rfl (by (apply le_of_picks; (repeat (first | exact Picks.nil | (apply Picks.cons; (· (repeat (first | exact Pick.here | apply Pick.there)))) | apply Picks.empty)))))
set_option maxRecDepth 100000 in
theorem canmatch_any (w : World) (s : Nat) (h : DfaR w b dq) (hs : s < b.n) : Calls Try.prog 106 #[.pointer (some ⟨dq, 0, none⟩), .int .i64 s] w (Post w ([] : List Hp).flatten (fun _ : Unit => .bool (decide (0 < s))) (fun _ => ([] : List Hp).flatten) (fun _ => True)) := by
  refine enter [] Try.func106 rfl rfl (At.nil w) (Le.refl _) ?_
  intro R hR
  have hfew := h.few
  by_cases h0 : 0 < s
  · rw [decide_eq_true h0] at hR
    refine run_seq ?_
    refine run_region rfl ?_
    refine op_assign rfl rfl ?_
    refine ops_nil ?_
    refine fin_code ?_
    refine run_seq ?_
    refine run_region rfl ?_
    refine op_move rfl rfl ?_
    refine op_cmp_t rfl rfl rfl rfl (by first | (simp only [cmpP]; done) | (simp only [cmpP]; omega)) ?_
    refine op_move rfl rfl ?_
    refine ops_guard_yes rfl rfl rfl ?_
    refine op_move rfl rfl ?_
    refine ops_guard_yes rfl rfl rfl ?_
    refine op_move rfl rfl ?_
    refine ops_guard_yes rfl rfl rfl ?_
    ((first | (apply op_call; (· exact rfl)) | apply op_call0); (· exact rfl)); (case' hc => (refine fun w hG hw => nstates_any (b := b) w ?_)); (case hp => (repeat (first | exact Picks.nil | (apply Picks.cons; (· (repeat (first | exact Pick.here | apply Pick.there)))) | apply Picks.empty)))
    · exact h.now hG
    intro _ _
    refine ops_guard_yes rfl rfl rfl ?_
    refine op_cmp_t rfl rfl rfl rfl (by first | (simp only [cmpP]; done) | (simp only [cmpP]; omega)) ?_
    refine op_pick_t rfl rfl rfl ?_
    refine op_assign rfl rfl ?_
    refine ops_nil ?_
    refine fin_code ?_
    refine run_ret ?_
    refine fin_ret1 rfl rfl ?_
    intro w' g
    exact hR _ _ (post_of g () trivial rfl (by (apply le_of_picks; (repeat (first | exact Picks.nil | (apply Picks.cons; (· (repeat (first | exact Pick.here | apply Pick.there)))) | apply Picks.empty)))))
  · rw [decide_eq_false h0] at hR
    obtain rfl : s = 0 := by omega
    refine run_seq ?_
    refine run_region rfl ?_
    refine op_assign rfl rfl ?_
    refine ops_nil ?_
    refine fin_code ?_
    refine run_seq ?_
    refine run_region rfl ?_
    refine op_move rfl rfl ?_
    refine op_cmp_f rfl rfl rfl rfl (by first | (simp only [cmpP]; done) | (simp only [cmpP]; omega)) ?_
    refine op_move rfl rfl ?_
    refine ops_off1 rfl rfl ?_
    refine ops_off1 rfl rfl ?_
    refine ops_off1 rfl rfl ?_
    refine ops_off1 rfl rfl ?_
    refine op_pick_f rfl rfl rfl ?_
    refine op_assign rfl rfl ?_
    refine ops_nil ?_
    refine fin_code ?_
    refine run_ret ?_
    refine fin_ret1 rfl rfl ?_
    intro w' g
    exact hR _ _ (post_of g () trivial rfl (by (apply le_of_picks; (repeat (first | exact Picks.nil | (apply Picks.cons; (· (repeat (first | exact Pick.here | apply Pick.there)))) | apply Picks.empty)))))
set_option maxRecDepth 100000 in
theorem always_any (w : World) (s : Nat) : Calls Try.prog 108 #[.pointer (some ⟨dq, 0, none⟩), .int .i64 s] w (Post w ([] : List Hp).flatten (fun _ : Unit => .bool false) (fun _ => ([] : List Hp).flatten) (fun _ => True)) := by
  refine enter [] Try.func108 rfl rfl (At.nil w) (Le.refl _) ?_
  intro R hR
  refine run_seq ?_
  refine run_region rfl ?_
  refine op_assign rfl rfl ?_
  refine ops_nil ?_
  refine fin_code ?_
  refine run_seq ?_
  refine run_region rfl ?_
  refine op_assign rfl rfl ?_
  refine ops_nil ?_
  refine fin_code ?_
  refine run_ret ?_
  refine fin_ret1 rfl rfl ?_
  intro w' g
  exact hR _ _ (post_of g () trivial rfl (by (apply le_of_picks; (repeat (first | exact Picks.nil | (apply Picks.cons; (· (repeat (first | exact Pick.here | apply Pick.there)))) | apply Picks.empty)))))
end
end Go.Proofs.Eng
