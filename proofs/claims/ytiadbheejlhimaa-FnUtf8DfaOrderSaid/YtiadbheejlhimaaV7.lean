/- A part of the proof: what functions of the program do, step by step. -/
import Derived.Test.YtiadbheejlhimaaV6
set_option linter.unusedVariables false
set_option linter.unusedSimpArgs false
namespace Go.Proofs.Eng
open Go.RowKit
set_option maxRecDepth 100000 in
set_option maxHeartbeats 4000000 in
theorem setInit_any (w0 : World) (b : Bd) (m : BdM) (s : Nat) (hok : BdOk b m) (hwf : Wf b) (hn : b.n < 1000000) (hs : s * 4 < b.idx.length) (hw : At w0 (bdH b m).flatten) :
    Calls Try.prog 56 #[.pointer (some ⟨m.q, 0, none⟩), .int .u32 s] w0 (Post w0 (bdH b m).flatten (fun _ : BdM => .tuple #[]) (fun m' => (bdH { (b.goa (s * 4)).2 with init := (b.goa (s * 4)).1 } m').flatten) (fun m' => m'.q = m.q ∧ m'.gi = m.gi ∧ BdOk { (b.goa (s * 4)).2 with init := (b.goa (s * 4)).1 } m')) := by
  refine enter (bdH b m) Try.func56 rfl rfl hw (Le.refl _) ?_
  intro R hR
  have hidl := hok.idl
  obtain ⟨q, gi, vd, vt, ld, lt⟩ := m
  dsimp only [bdH] at hR ⊢
  refine run_seq ?_
  refine run_region rfl ?_
  refine op_move rfl rfl ?_
  refine op_move rfl rfl ?_
  ((first | (apply op_call; (· exact rfl)) | apply op_call0); (· exact rfl); rotate_left 1; (· exact fun w hG hw => orig_any w s (by omega)); rotate_right 1; (· (repeat (first | exact Picks.nil | (apply Picks.cons; (· (repeat (first | exact Pick.here | apply Pick.there)))) | apply Picks.empty))))
  intro _ _
  skip
  ((first | (apply op_call; (· exact rfl)) | apply op_call0); (· exact rfl); rotate_left 1; (· exact fun w hG hw => goa_any w b ⟨q, gi, vd, vt, ld, lt⟩ (s * 4) hok (by omega) hs (hwf.small (by omega)) hw); rotate_right 1; (· (repeat (first | exact Picks.nil | (apply Picks.cons; (· (repeat (first | exact Pick.here | apply Pick.there)))) | apply Picks.empty))))
  rintro ⟨q', gi', vd1, vt1, ld1, lt1⟩ ⟨hq, hgi, hok1⟩
  dsimp only at hq hgi
  subst hq hgi
  generalize b.goa (s * 4) = x at hok1 hR
  obtain ⟨sid, b1⟩ := x
  dsimp only [bdH, bdC] at hok1 hR ⊢
  refine op_assign rfl rfl ?_
  refine ops_nil ?_
  refine fin_code ?_
  refine run_region rfl ?_
  refine op_move rfl rfl ?_
  refine op_move rfl rfl ?_
  refine op_nilCheck rfl rfl ?_
  refine op_fieldAddr rfl rfl ?_
  (apply op_store; (· exact rfl); (· exact rfl); (· exact rfl); (· (repeat (first | exact Swap.here | apply Swap.there))); (· first | decide | (simp; done) | (simp; omega) | assumption))
  refine ops_nil ?_
  refine fin_ret0 (.inr rfl) rfl ?_
  intro w' g
  exact hR _ _ (post_of g ⟨q', gi', vd1, vt1, ld1, lt1⟩ ⟨rfl, rfl, hok1.od, hok1.ot, hok1.few, hok1.idl⟩ rfl (by dsimp only [bdH, bdC]; (apply le_of_picks; (repeat (first | exact Picks.nil | (apply Picks.cons; (· (repeat (first | exact Pick.here | apply Pick.there)))) | apply Picks.empty)))))
/-- An automaton over bytes, where it lies. -/
def dfH (b : Bd) (m : BdM) (dq : Nat) : List Hp := [[⟨dq, .cells #[m.vt, m.vd, .int .i64 b.init, .int .u8 0] 105 (0, 0)⟩], m.ld, m.lt]
set_option maxRecDepth 100000 in
set_option maxHeartbeats 4000000 in
theorem build_any (w0 : World) (b : Bd) (m : BdM) (hok : BdOk b m) (hi : b.init ≤ 100000000) (hw : At w0 (bdH b m).flatten) :
    Calls Try.prog 57 #[.pointer (some ⟨m.q, 0, none⟩), .int .u8 0] w0 (Post w0 (bdH b m).flatten (fun dq : Nat => .pointer (some ⟨dq, 0, none⟩)) (fun dq => (dfH b m dq).flatten) (fun _ => True)) := by
  refine enter (bdH b m) Try.func57 rfl rfl hw (Le.refl _) ?_
  intro R hR
  obtain ⟨Ad, cd, hvd⟩ := hok.od.isSlice
  obtain ⟨At', ct, hvt⟩ := hok.ot.isSlice
  obtain ⟨q, gi, vd, vt, ld, lt⟩ := m
  dsimp only at hvd hvt
  subst hvd hvt
  dsimp only [bdH, dfH] at hR ⊢
  refine run_seq ?_
  refine run_region rfl ?_
  refine op_assign rfl rfl ?_
  refine ops_nil ?_
  refine fin_code ?_
  refine run_seq ?_
  refine run_drawS [[⟨q, .cells (bdC b ⟨q, gi, .slice Ad b.n cd, .slice At' b.n ct, ld, lt⟩) 132 (0, 0)⟩]] (by kernel_rfl) ?_
  refine dr_stab 0 rfl rfl (Val.s (val_move rfl)) (by decide +kernel) rfl rfl ?_
  refine dr_stab 1 rfl rfl (Val.s (val_nilCheck rfl)) (by decide +kernel) rfl rfl ?_
  refine dr_stab 2 rfl rfl (Val.s (val_fieldAddr rfl)) (by decide +kernel) rfl rfl ?_
  (apply dr_stab 3; (· exact rfl); (· exact rfl); (· apply ValAt.s; (first | (apply val_load; (· exact rfl); (· apply cell_of_has; (· (repeat (first | exact Has.here | apply Has.there))); (· first | exact rfl | exact nats_get _ _ _ (by omega)))) | (apply val_load; (· exact rfl); (· exact RdB.cell hR0 (by simp [ids]) rfl)))); (· decide +kernel); (· exact rfl); (· exact rfl))
  refine dr_stab 4 rfl rfl (Val.s (val_move rfl)) (by decide +kernel) rfl rfl ?_
  refine dr_stab 5 rfl rfl (Val.s (val_nilCheck rfl)) (by decide +kernel) rfl rfl ?_
  refine dr_stab 6 rfl rfl (Val.s (val_fieldAddr rfl)) (by decide +kernel) rfl rfl ?_
  (apply dr_stab 7; (· exact rfl); (· exact rfl); (· apply ValAt.s; (first | (apply val_load; (· exact rfl); (· apply cell_of_has; (· (repeat (first | exact Has.here | apply Has.there))); (· first | exact rfl | exact nats_get _ _ _ (by omega)))) | (apply val_load; (· exact rfl); (· exact RdB.cell hR0 (by simp [ids]) rfl)))); (· decide +kernel); (· exact rfl); (· exact rfl))
  refine dr_stab 8 rfl rfl (Val.s (val_move rfl)) (by decide +kernel) rfl rfl ?_
  refine dr_stab 9 rfl rfl (Val.s (val_nilCheck rfl)) (by decide +kernel) rfl rfl ?_
  refine dr_stab 10 rfl rfl (Val.s (val_fieldAddr rfl)) (by decide +kernel) rfl rfl ?_
  (apply dr_stab 11; (· exact rfl); (· exact rfl); (· apply ValAt.s; (first | (apply val_load; (· exact rfl); (· apply cell_of_has; (· (repeat (first | exact Has.here | apply Has.there))); (· first | exact rfl | exact nats_get _ _ _ (by omega)))) | (apply val_load; (· exact rfl); (· exact RdB.cell hR0 (by simp [ids]) rfl)))); (· decide +kernel); (· exact rfl); (· exact rfl))
  refine dr_stab 12 rfl rfl (Val.s (val_conv rfl (by simp only [kLo, kHi]; omega))) (by decide +kernel) rfl rfl ?_
  refine dr_stab 13 rfl rfl (Val.s (val_move rfl)) (by decide +kernel) rfl rfl ?_
  refine dr_stab 14 rfl rfl (Val.s (val_build rfl rfl (ones rfl) rfl)) (by decide +kernel) rfl rfl ?_
  (refine dr_one 15 rfl (by decide +kernel) (by (apply le_of_picks; (repeat (first | exact Picks.nil | (apply Picks.cons; (· (repeat (first | exact Pick.here | apply Pick.there)))) | apply Picks.empty)))) ?_)
  (refine op_box rfl rfl ?_; intro _ _)
  refine ops_nil ?_
  refine fin_draw ?_
  refine dr_stab 16 rfl rfl (Val.s (val_assign rfl)) (by decide +kernel) rfl rfl ?_
  (refine dr_done (by decide +kernel) (by (apply le_of_picks; (repeat (first | exact Picks.nil | (apply Picks.cons; (· (repeat (first | exact Pick.here | apply Pick.there)))) | apply Picks.empty)))) ?_)
  refine fin_code ?_
  refine run_ret ?_
  rename_i dq _
  refine fin_ret1 rfl rfl ?_
  intro w' g
  exact hR _ _ (post_of g dq trivial rfl (by (apply le_of_picks; (repeat (first | exact Picks.nil | (apply Picks.cons; (· (repeat (first | exact Pick.here | apply Pick.there)))) | apply Picks.empty)))))
/-- An automaton over bytes that is only read. -/
structure DfaR (w : World) (b : Bd) (dq : Nat) : Prop where
  few : b.n ≤ 100000000
  ini : b.init < b.n
  fln : b.fl.length = b.n * 256
  dln : b.dist.length = b.n
  mem : ∃ T D ct cd, RdB w w.heap.size dq [.slice T b.n ct, .slice D b.n cd, .int .i64 b.init, .int .u8 0] ∧ Rd w w.heap.size T (b.fl.map v32) ∧ Rd w w.heap.size D (b.dist.map dv)
theorem DfaR.now {w0 w : World} {L : Hp} {b : Bd} {dq : Nat} (h : DfaR w0 b dq) (g : Goes w0 [] w L) : DfaR w b dq :=
  ⟨h.few, h.ini, h.fln, h.dln, by
    obtain ⟨T, D, ct, cd, h1, h2, h3⟩ := h.mem
    exact ⟨T, D, ct, cd, h1.now g, h2.now g, h3.now g⟩⟩
theorem DfaR.of {w : World} {b : Bd} {m : BdM} {dq : Nat} (hok : BdOk b m) (hi : b.init < b.n) (hw : At w (dfH b m dq).flatten) : DfaR w b dq := by
  obtain ⟨D, cd, hvd⟩ := hok.od.isSlice
  obtain ⟨T, ct, hvt⟩ := hok.ot.isSlice
  have hd := hok.od
  have ht := hok.ot
  rw [hvd] at hd
  rw [hvt] at ht
  have h1 : At w m.ld := At.item hw (by unfold dfH; exact .there .here)
  have h2 : At w m.lt := At.item hw (by unfold dfH; exact .there (.there .here))
  refine ⟨hok.few, hi, hok.flen, by have := hok.od.1; simpa using this, T, D, ct, cd, ?_, ht.rd h2, hd.rd h1⟩
  refine RdB.of (t := 105) (fr := (0, 0)) (At.item hw (l := [⟨dq, .cells #[m.vt, m.vd, .int .i64 b.init, .int .u8 0] 105 (0, 0)⟩]) .here) ?_
  rw [hvd, hvt]
  exact List.mem_singleton.2 rfl
section
variable {b : Bd} {dq : Nat}
set_option maxRecDepth 100000 in
theorem initial_any (w : World) (h : DfaR w b dq) : Calls Try.prog 44 #[.pointer (some ⟨dq, 0, none⟩)] w (Post w ([] : List Hp).flatten (fun _ : Unit => .int .i64 b.init) (fun _ => ([] : List Hp).flatten) (fun _ => True)) := by
  refine enter [] Try.func44 rfl rfl (At.nil w) (Le.refl _) ?_
  intro R hR
  obtain ⟨few, ini, fln, dln, T, D, ct, cd, hR0, hT, hD⟩ := h
  refine run_seq ?_
  refine run_region rfl ?_
  refine op_assign rfl rfl ?_
  refine ops_nil ?_
  refine fin_code ?_
  refine run_seq ?_
  refine run_region rfl ?_
  refine op_move rfl rfl ?_
  refine op_nilCheck rfl rfl ?_
  refine op_fieldAddr rfl rfl ?_
  (apply op_load; (· exact rfl); (· exact rfl); (· exact RdB.cell hR0 (by simp [ids]) rfl))
  refine op_assign rfl rfl ?_
  refine ops_nil ?_
  refine fin_code ?_
  refine run_ret ?_
  refine fin_ret1 rfl rfl ?_
  intro w' g
  exact hR _ _ (post_of g () trivial rfl (by (apply le_of_picks; (repeat (first | exact Picks.nil | (apply Picks.cons; (· (repeat (first | exact Pick.here | apply Pick.there)))) | apply Picks.empty)))))
set_option maxRecDepth 100000 in
theorem start_any (w : World) (h : DfaR w b dq) : Calls Try.prog 27 #[.pointer (some ⟨dq, 0, none⟩)] w (Post w ([] : List Hp).flatten (fun _ : Unit => .int .i64 b.init) (fun _ => ([] : List Hp).flatten) (fun _ => True)) := by
  refine enter [] Try.func27 rfl rfl (At.nil w) (Le.refl _) ?_
  intro R hR
  refine run_seq ?_
  refine run_region rfl ?_
  refine op_assign rfl rfl ?_
  refine ops_nil ?_
  refine fin_code ?_
  refine run_seq ?_
  refine run_region rfl ?_
  refine op_move rfl rfl ?_
  ((first | (apply op_call; (· exact rfl)) | apply op_call0); (· exact rfl)); (case' hc => (refine fun w hG hw => initial_any (b := b) w ?_)); (case hp => (repeat (first | exact Picks.nil | (apply Picks.cons; (· (repeat (first | exact Pick.here | apply Pick.there)))) | apply Picks.empty)))
  · exact h.now hG
  intro _ _
  refine op_assign rfl rfl ?_
  refine ops_nil ?_
  refine fin_code ?_
  refine run_ret ?_
  refine fin_ret1 rfl rfl ?_
  intro w' g
  exact hR _ _ (post_of g () trivial rfl (by (apply le_of_picks; (repeat (first | exact Picks.nil | (apply Picks.cons; (· (repeat (first | exact Pick.here | apply Pick.there)))) | apply Picks.empty)))))
set_option maxRecDepth 100000 in
theorem trans_any (w : World) (s c : Nat) (h : DfaR w b dq) (hs : s < b.n) (hc : c < 256) (htr : b.tr s c ≤ 100000000) : Calls Try.prog 45 #[.pointer (some ⟨dq, 0, none⟩), .int .i64 s, .int .u8 c] w (Post w ([] : List Hp).flatten (fun _ : Unit => .int .i64 (b.tr s c : Nat)) (fun _ => ([] : List Hp).flatten) (fun _ => True)) := by
  refine enter [] Try.func45 rfl rfl (At.nil w) (Le.refl _) ?_
  intro R hR
  obtain ⟨few, ini, fln, dln, T, D, ct, cd, hR0, hT, hD⟩ := h
  obtain ⟨gt, ot, rfl, hgt, hct⟩ := hT.some (by simp; omega)
  have hgt1 : (b.fl.map v32)[s * 256 + ((c : Nat) : Int).toNat * 1]? = some (.int .u32 (b.tr s c : Nat)) := by
    rw [Int.toNat_natCast, Nat.mul_one, List.getElem?_map, List.getElem?_eq_getElem (by omega), Bd.tr, List.getD_eq_getElem?_getD, List.getElem?_eq_getElem (by omega)]
    rfl
  refine run_seq ?_
  refine run_region rfl ?_
  refine op_assign rfl rfl ?_
  refine ops_nil ?_
  refine fin_code ?_
  refine run_seq ?_
  refine run_region rfl ?_
  refine op_move rfl rfl ?_
  refine op_nilCheck rfl rfl ?_
  refine op_fieldAddr rfl rfl ?_
  (apply op_load; (· exact rfl); (· exact rfl); (· exact RdB.cell hR0 (by simp [ids]) rfl))
  refine op_move rfl rfl ?_
  refine op_move rfl rfl ?_
  refine op_index rfl rfl rfl (by omega) (by first | (rw [Int.toNat_natCast, Nat.mul_one, Nat.zero_add]) | (rw [Int.toNat_natCast, Nat.mul_one]) | (rw [Int.toNat_natCast, Nat.zero_add]) | (rw [Int.toNat_natCast]) | exact rfl) ?_
  (refine op_indexP rfl rfl rfl (by omega) ?_)
  (apply op_load; (· exact rfl); (· exact rfl); (· exact Rd.cellE hct hgt (by simp [ids]) (by first | rfl | omega) hgt1))
  refine op_conv rfl rfl (by simp only [kLo, kHi]; omega) ?_
  refine op_assign rfl rfl ?_
  refine ops_nil ?_
  refine fin_code ?_
  refine run_ret ?_
  refine fin_ret1 rfl rfl ?_
  intro w' g
  exact hR _ _ (post_of g () trivial rfl (by (apply le_of_picks; (repeat (first | exact Picks.nil | (apply Picks.cons; (· (repeat (first | exact Pick.here | apply Pick.there)))) | apply Picks.empty)))))
set_option maxRecDepth 100000 in
theorem accept_any (w : World) (s c : Nat) (h : DfaR w b dq) (hs : s < b.n) (hc : c < 256) (htr : b.tr s c ≤ 100000000) : Calls Try.prog 29 #[.pointer (some ⟨dq, 0, none⟩), .int .i64 s, .int .u8 c] w (Post w ([] : List Hp).flatten (fun _ : Unit => .int .i64 (b.tr s c : Nat)) (fun _ => ([] : List Hp).flatten) (fun _ => True)) := by
  refine enter [] Try.func29 rfl rfl (At.nil w) (Le.refl _) ?_
  intro R hR
  refine run_seq ?_
  refine run_region rfl ?_
  refine op_assign rfl rfl ?_
  refine ops_nil ?_
  refine fin_code ?_
  refine run_seq ?_
  refine run_region rfl ?_
  refine op_move rfl rfl ?_
  refine op_move rfl rfl ?_
  refine op_move rfl rfl ?_
  ((first | (apply op_call; (· exact rfl)) | apply op_call0); (· exact rfl)); (case' hc => (refine fun w hG hw => trans_any (b := b) w s c ?_ hs hc htr)); (case hp => (repeat (first | exact Picks.nil | (apply Picks.cons; (· (repeat (first | exact Pick.here | apply Pick.there)))) | apply Picks.empty)))
  · exact h.now hG
  intro _ _
  refine op_assign rfl rfl ?_
  refine ops_nil ?_
  refine fin_code ?_
  refine run_ret ?_
  refine fin_ret1 rfl rfl ?_
  intro w' g
  exact hR _ _ (post_of g () trivial rfl (by (apply le_of_picks; (repeat (first | exact Picks.nil | (apply Picks.cons; (· (repeat (first | exact Pick.here | apply Pick.there)))) | apply Picks.empty)))))
def Bd.di (b : Bd) (s : Nat) : Bool × Nat := b.dist.getD s (false, 0)
set_option maxRecDepth 100000 in
theorem dist_any (w : World) (s : Nat) (h : DfaR w b dq) (hs : s < b.n) : Calls Try.prog 109 #[.pointer (some ⟨dq, 0, none⟩), .int .i64 s] w (Post w ([] : List Hp).flatten (fun _ : Unit => dv (b.di s)) (fun _ => ([] : List Hp).flatten) (fun _ => True)) := by
  refine enter [] Try.func109 rfl rfl (At.nil w) (Le.refl _) ?_
  intro R hR
  obtain ⟨few, ini, fln, dln, T, D, ct, cd, hR0, hT, hD⟩ := h
  obtain ⟨gd, od, rfl, hgd, hcd⟩ := hD.some (by simp; omega)
  have hgd1 : (b.dist.map dv)[s]? = some (dv (b.di s)) := by
    rw [List.getElem?_map, List.getElem?_eq_getElem (by omega), Bd.di, List.getD_eq_getElem?_getD, List.getElem?_eq_getElem (by omega)]
    rfl
  refine run_seq ?_
  refine run_region rfl ?_
  refine op_assign rfl rfl ?_
  refine ops_nil ?_
  refine fin_code ?_
  refine run_seq ?_
  refine run_region rfl ?_
  refine op_move rfl rfl ?_
  refine op_nilCheck rfl rfl ?_
  refine op_fieldAddr rfl rfl ?_
  (apply op_load; (· exact rfl); (· exact rfl); (· exact RdB.cell hR0 (by simp [ids]) rfl))
  refine op_move rfl rfl ?_
  refine op_index rfl rfl rfl (by omega) (by first | (rw [Int.toNat_natCast, Nat.mul_one, Nat.zero_add]) | (rw [Int.toNat_natCast, Nat.mul_one]) | (rw [Int.toNat_natCast, Nat.zero_add]) | (rw [Int.toNat_natCast]) | exact rfl) ?_
  (apply op_load; (· exact rfl); (· exact rfl); (· exact Rd.cellE hcd hgd (by simp [ids]) (by first | rfl | omega) hgd1))
  refine op_assign rfl rfl ?_
  refine ops_nil ?_
  refine fin_code ?_
  refine run_ret ?_
  refine fin_ret1 rfl rfl ?_
  intro w' g
  exact hR _ _ (post_of g () trivial rfl (by (apply le_of_picks; (repeat (first | exact Picks.nil | (apply Picks.cons; (· (repeat (first | exact Pick.here | apply Pick.there)))) | apply Picks.empty)))))
set_option maxRecDepth 100000 in
theorem exact_any (w : World) (k : Nat) : Calls Try.prog 114 #[.agg #[.int .u8 k]] w (Post w ([] : List Hp).flatten (fun _ : Unit => .int .u8 k) (fun _ => ([] : List Hp).flatten) (fun _ => True)) := by
  refine enter [] Try.func114 rfl rfl (At.nil w) (Le.refl _) ?_
  intro R hR
  refine run_seq ?_
  refine run_region rfl ?_
  (refine op_box rfl rfl ?_; intro _ _)
  refine op_assign rfl rfl ?_
  refine ops_nil ?_
  refine fin_code ?_
  refine run_seq ?_
  refine run_region rfl ?_
  refine op_fieldAddr rfl rfl ?_
  (apply op_load; (· exact rfl); (· exact rfl); (· apply cell_of_has; (· (repeat (first | exact Has.here | apply Has.there))); (· first | exact rfl | exact nats_get _ _ _ (by omega))))
  refine op_assign rfl rfl ?_
  refine ops_nil ?_
  refine fin_code ?_
  refine run_ret ?_
  refine fin_ret1 rfl rfl ?_
  intro w' g
  exact hR _ _ (post_of g () trivial rfl (by (apply le_of_picks; (repeat (first | exact Picks.nil | (apply Picks.cons; (· (repeat (first | exact Pick.here | apply Pick.there)))) | apply Picks.empty)))))
set_option maxRecDepth 100000 in
theorem atleast_any (w : World) (k : Nat) : Calls Try.prog 59 #[.agg #[.int .u8 k]] w (Post w ([] : List Hp).flatten (fun _ : Unit => .int .u8 k) (fun _ => ([] : List Hp).flatten) (fun _ => True)) := by
  refine enter [] Try.func59 rfl rfl (At.nil w) (Le.refl _) ?_
  intro R hR
  refine run_seq ?_
  refine run_region rfl ?_
  (refine op_box rfl rfl ?_; intro _ _)
  refine op_assign rfl rfl ?_
  refine ops_nil ?_
  refine fin_code ?_
  refine run_seq ?_
  refine run_region rfl ?_
  refine op_fieldAddr rfl rfl ?_
  (apply op_load; (· exact rfl); (· exact rfl); (· apply cell_of_has; (· (repeat (first | exact Has.here | apply Has.there))); (· first | exact rfl | exact nats_get _ _ _ (by omega))))
  refine op_assign rfl rfl ?_
  refine ops_nil ?_
  refine fin_code ?_
  refine run_ret ?_
  refine fin_ret1 rfl rfl ?_
  intro w' g
  exact hR _ _ (post_of g () trivial rfl (by (apply le_of_picks; (repeat (first | exact Picks.nil | (apply Picks.cons; (· (repeat (first | exact Pick.here | apply Pick.there)))) | apply Picks.empty)))))
end
end Go.Proofs.Eng
