/- A part of the proof: what functions of the program do, step by step. -/
import Derived.Test.YtnomlnfdmoecoaaDoorNb
set_option linter.unusedVariables false
set_option linter.unusedSimpArgs false
namespace Go.Proofs.Eng
open Go.RowKit
theorem addSt_len (l : List NS) (x : NS) : (addSt l x).length ≤ l.length + 1 := by
  unfold addSt
  split
  · omega
  · rw [List.length_append]
    have := List.length_filter_le (fun s => !implyB x s) l
    simp only [List.length_cons, List.length_nil]
    omega
theorem addSt_ok {l : List NS} {x : NS} {Q : NS → Prop} (h : ∀ s ∈ l, Q s) (hx : Q x) : ∀ s ∈ addSt l x, Q s := by
  unfold addSt
  intro s hs
  split at hs
  · exact h s hs
  · rcases List.mem_append.1 hs with hs | hs
    · exact h s (List.mem_filter.1 hs).1
    · rw [List.mem_singleton.1 hs]; exact hx
/-- What holds of places that are in bounds. -/
def Bn (N m : Nat) (s : NS) : Prop := s.o ≤ N ∧ s.d ≤ m
theorem Bn.ok {N m : Nat} {s : NS} (h : Bn N m s) (hN : N ≤ 100000) (hm : m ≤ 255) : NSok s := ⟨Nat.le_trans h.1 hN, Nat.le_trans h.2 hm⟩
def laB (p md : Nat) (dam : Bool) : Hp := [⟨p, .cells #[.int .u8 md, .bool dam] 82 (0, 0)⟩]
set_option maxRecDepth 100000 in
set_option maxHeartbeats 32000000 in
theorem simpT_any (w : World) (p md : Nat) (dam : Bool) (q : Nat) (v : Value) (l : List NS) (lv : Hp) (s : NS) (x N : Nat) (hov : Own 87 3 v l.length (l.flatMap nsV) lv) (hok : ∀ y ∈ l, Bn N md y) (hs : s.o + 2 + md ≤ N) (hsd : s.d ≤ md) (hN : N ≤ 100000) (hmd : md ≤ 8) (hlen : l.length ≤ 60000) (hx : x < 18446744073709551616)
    (hw : At w ([laB p md dam, msB q v, lv] : List Hp).flatten) :
    Calls Tryd.prog 34 #[.pointer (some ⟨p, 0, none⟩), .agg (nsV s).toArray, .int .u64 x, .pointer (some ⟨q, 0, none⟩)] w (Post w ([laB p md dam, msB q v, lv] : List Hp).flatten (fun _ : Value × Hp => .tuple #[]) (fun y => ([laB p md dam, msB q y.1, y.2] : List Hp).flatten)
      (fun y => Own 87 3 y.1 (simpT md dam s x l).length ((simpT md dam s x l).flatMap nsV) y.2 ∧ (∀ y ∈ simpT md dam s x l, Bn N md y) ∧ (simpT md dam s x l).length ≤ l.length + 13)) := by
  obtain ⟨so, sd, st⟩ := s
  dsimp only at hs hsd
  refine enter [laB p md dam, msB q v, lv] Tryd.func34 rfl rfl hw (Le.refl _) ?_
  intro R hR
  dsimp only [laB, nsV] at hR ⊢
  refine run_seq ?_
  refine run_region rfl ?_
  refine op_box rfl rfl ?_
  intro b _
  rw [show (Value.agg [Value.int .u32 so, .int .u8 sd, .bool st].toArray).cells = #[.int .u32 so, .int .u8 sd, .bool st] by simp [Value.cells]]
  have ADD := fun (w : World) (v : Value) (l : List NS) (lv : Hp) (y : NS) (h1 : Own 87 3 v l.length (l.flatMap nsV) lv) (h2 : ∀ s ∈ l, Bn N md s) (h3 : Bn N md y) (h4 : l.length ≤ 64000) hw => addSt_any w q v l lv y h1 (fun s hs => (h2 s hs).ok hN (by omega)) (h3.ok hN (by omega)) (by omega) hw
  dsimp only [msB, nsV] at ADD ⊢
  unfold simpT at hR
  refine ops_nil ?_
  refine fin_code ?_
  refine run_seq ?_
  refine run_seq ?_
  refine run_join1 (α := Value × Hp) (fun _ => [(0, .pointer (some ⟨p, 0, none⟩)), (2, .int .u64 x), (3, .pointer (some ⟨q, 0, none⟩)), (5, .pointer (some ⟨b, 0, none⟩))]) (fun y => [[⟨p, .cells #[.int .u8 md, .bool dam] 82 (0, 0)⟩], [⟨q, .cells #[y.1] 67 (0, 0)⟩], y.2, [⟨b, .cells #[.int .u32 so, .int .u8 sd, .bool st] 87 (0, 0)⟩]])
    (fun y => Own 87 3 y.1 (simp1 md dam ⟨so, sd, st⟩ x l).length ((simp1 md dam ⟨so, sd, st⟩ x l).flatMap nsV) y.2 ∧ (∀ y ∈ simp1 md dam ⟨so, sd, st⟩ x l, Bn N md y) ∧ (simp1 md dam ⟨so, sd, st⟩ x l).length ≤ l.length + 11) ?_ ?_
  rotate_left 1
  · intro J
    unfold simp1 at J
    by_cases hlt : sd < md
    · rw [if_pos hlt] at J
      dsimp only at J
      skip
      refine run_drawS [[⟨p, .cells #[.int .u8 md, .bool dam] 82 (0, 0)⟩], [⟨b, .cells #[.int .u32 so, .int .u8 sd, .bool st] 87 (0, 0)⟩]] (by kernel_rfl) ?_
      refine dr_stab 0 rfl rfl (Val.s (val_fieldAddr rfl)) (by decide +kernel) rfl rfl ?_
      (apply dr_stab 1; (· exact rfl); (· exact rfl); (· apply ValAt.s; (first | (apply val_load; (· exact rfl); (· apply cell_of_has; (· (repeat (first | exact Has.here | apply Has.there))); (· first | exact rfl))) | fail)); (· decide +kernel); (· exact rfl); (· exact rfl))
      refine dr_stab 2 rfl rfl (Val.s (val_move rfl)) (by decide +kernel) rfl rfl ?_
      refine dr_stab 3 rfl rfl (Val.s (val_nilCheck rfl)) (by decide +kernel) rfl rfl ?_
      refine dr_stab 4 rfl rfl (Val.s (val_fieldAddr rfl)) (by decide +kernel) rfl rfl ?_
      (apply dr_stab 5; (· exact rfl); (· exact rfl); (· apply ValAt.s; (first | (apply val_load; (· exact rfl); (· apply cell_of_has; (· (repeat (first | exact Has.here | apply Has.there))); (· first | exact rfl))) | fail)); (· decide +kernel); (· exact rfl); (· exact rfl))
      refine dr_stab 6 rfl rfl (Val.s (val_cmp_t rfl rfl rfl (by first | (simp only [cmpP]; done) | (simp only [cmpP]; omega)))) (by decide +kernel) rfl rfl ?_
      (refine dr_done (by decide +kernel) (by (apply le_of_picks; (repeat (first | exact Picks.nil | (apply Picks.cons; (· (repeat (first | exact Pick.here | apply Pick.there)))) | apply Picks.empty)))) ?_)
      refine fin_code ?_
      refine run_cond_t rfl ?_
      refine run_seq ?_
      refine run_region rfl ?_
      refine op_move rfl rfl ?_
      refine op_fieldAddr rfl rfl ?_
      (apply op_load; (· exact rfl); (· exact rfl); (· apply cell_of_has; (· (repeat (first | exact Has.here | apply Has.there))); (· first | exact rfl)))
      refine op_fieldAddr rfl rfl ?_
      (apply op_load; (· exact rfl); (· exact rfl); (· apply cell_of_has; (· (repeat (first | exact Has.here | apply Has.there))); (· first | exact rfl)))
      refine op_add rfl rfl rfl (by simp only [kLo, kHi]; omega) ?_
      refine op_build rfl rfl rfl (by first | (intro v hv; simp at hv; done) | (intro v hv; simp at hv; rcases hv with rfl | rfl | rfl | rfl | rfl | rfl | rfl <;> rfl) | (intro v hv; simp at hv; rcases hv with rfl | rfl | rfl | rfl | rfl | rfl <;> rfl) | (intro v hv; simp at hv; rcases hv with rfl | rfl | rfl | rfl | rfl <;> rfl) | (intro v hv; simp at hv; rcases hv with rfl | rfl | rfl | rfl <;> rfl) | (intro v hv; simp at hv; rcases hv with rfl | rfl | rfl <;> rfl) | (intro v hv; simp at hv; rcases hv with rfl | rfl <;> rfl) | (intro v hv; simp at hv; rcases hv with rfl; rfl)) rfl ?_
      ((first | (apply op_call; (· exact rfl)) | apply op_call0); (· exact rfl); rotate_left 1; (· exact fun w hG hw => ADD w v l lv ⟨so, sd + 1, false⟩ hov hok ⟨by dsimp only; omega, by dsimp only; omega⟩ (by omega) hw); rotate_right 1; (· (repeat (first | exact Picks.nil | (apply Picks.cons; (· (repeat (first | exact Pick.here | apply Pick.there)))) | apply Picks.empty))))
      rintro ⟨v1, lv1⟩ ho1
      have ok1 := addSt_ok (x := ⟨so, sd + 1, false⟩) hok ⟨by dsimp only; omega, by dsimp only; omega⟩
      have ln1 := addSt_len l ⟨so, sd + 1, false⟩
      generalize addSt l ⟨so, sd + 1, false⟩ = l1 at *
      dsimp only at ho1 ⊢
      refine ops_nil ?_
      refine fin_code ?_
      refine run_seq ?_
      refine run_region rfl ?_
      refine op_move rfl rfl ?_
      refine op_fieldAddr rfl rfl ?_
      (apply op_load; (· exact rfl); (· exact rfl); (· apply cell_of_has; (· (repeat (first | exact Has.here | apply Has.there))); (· first | exact rfl)))
      refine op_add rfl rfl rfl (by simp only [kLo, kHi]; omega) ?_
      refine op_fieldAddr rfl rfl ?_
      (apply op_load; (· exact rfl); (· exact rfl); (· apply cell_of_has; (· (repeat (first | exact Has.here | apply Has.there))); (· first | exact rfl)))
      refine op_add rfl rfl rfl (by simp only [kLo, kHi]; omega) ?_
      refine op_build rfl rfl rfl (by first | (intro v hv; simp at hv; done) | (intro v hv; simp at hv; rcases hv with rfl | rfl | rfl | rfl | rfl | rfl | rfl <;> rfl) | (intro v hv; simp at hv; rcases hv with rfl | rfl | rfl | rfl | rfl | rfl <;> rfl) | (intro v hv; simp at hv; rcases hv with rfl | rfl | rfl | rfl | rfl <;> rfl) | (intro v hv; simp at hv; rcases hv with rfl | rfl | rfl | rfl <;> rfl) | (intro v hv; simp at hv; rcases hv with rfl | rfl | rfl <;> rfl) | (intro v hv; simp at hv; rcases hv with rfl | rfl <;> rfl) | (intro v hv; simp at hv; rcases hv with rfl; rfl)) rfl ?_
      ((first | (apply op_call; (· exact rfl)) | apply op_call0); (· exact rfl); rotate_left 1; (· exact fun w hG hw => ADD w v1 l1 lv1 ⟨so + 1, sd + 1, false⟩ ho1 ok1 ⟨by dsimp only; omega, by dsimp only; omega⟩ (by omega) hw); rotate_right 1; (· (repeat (first | exact Picks.nil | (apply Picks.cons; (· (repeat (first | exact Pick.here | apply Pick.there)))) | apply Picks.empty))))
      rintro ⟨v2, lv2⟩ ho2
      have ok2 := addSt_ok (x := ⟨so + 1, sd + 1, false⟩) ok1 ⟨by dsimp only; omega, by dsimp only; omega⟩
      have ln2 := addSt_len l1 ⟨so + 1, sd + 1, false⟩
      generalize addSt l1 ⟨so + 1, sd + 1, false⟩ = l2 at *
      dsimp only at ho2 ⊢
      refine ops_nil ?_
      refine fin_code ?_
      refine run_seq ?_
      refine run_drawS [[⟨p, .cells #[.int .u8 md, .bool dam] 82 (0, 0)⟩], [⟨b, .cells #[.int .u32 so, .int .u8 sd, .bool st] 87 (0, 0)⟩]] (by kernel_rfl) ?_
      refine dr_stab 0 rfl rfl (Val.s (val_move rfl)) (by decide +kernel) rfl rfl ?_
      refine dr_stab 1 rfl rfl (Val.s (val_nilCheck rfl)) (by decide +kernel) rfl rfl ?_
      refine dr_stab 2 rfl rfl (Val.s (val_fieldAddr rfl)) (by decide +kernel) rfl rfl ?_
      (apply dr_stab 3; (· exact rfl); (· exact rfl); (· apply ValAt.s; (first | (apply val_load; (· exact rfl); (· apply cell_of_has; (· (repeat (first | exact Has.here | apply Has.there))); (· first | exact rfl))) | fail)); (· decide +kernel); (· exact rfl); (· exact rfl))
      refine dr_stab 4 rfl rfl (Val.s (val_add rfl rfl (by simp only [kLo, kHi]; omega))) (by decide +kernel) rfl rfl ?_
      refine dr_stab 5 rfl rfl (Val.s (val_fieldAddr rfl)) (by decide +kernel) rfl rfl ?_
      (apply dr_stab 6; (· exact rfl); (· exact rfl); (· apply ValAt.s; (first | (apply val_load; (· exact rfl); (· apply cell_of_has; (· (repeat (first | exact Has.here | apply Has.there))); (· first | exact rfl))) | fail)); (· decide +kernel); (· exact rfl); (· exact rfl))
      refine dr_stab 7 rfl rfl (Val.s (val_sub rfl rfl (by simp only [kLo, kHi]; omega))) (by decide +kernel) rfl rfl ?_
      refine dr_stab 8 rfl rfl (Val.s (val_assign rfl)) (by decide +kernel) rfl rfl ?_
      (refine dr_done (by decide +kernel) (by (apply le_of_picks; (repeat (first | exact Picks.nil | (apply Picks.cons; (· (repeat (first | exact Pick.here | apply Pick.there)))) | apply Picks.empty)))) ?_)
      refine fin_code ?_
      refine run_seq ?_
      refine run_seq ?_
      refine run_region rfl ?_
      refine op_assign rfl rfl ?_
      refine ops_nil ?_
      refine fin_code ?_
      refine run_block ?_
      generalize hFd : delT ⟨so, sd, st⟩ x (md - sd) 1 l2 = F at J
      refine run_join1 (α := Value × Hp) (fun _ => [(0, .pointer (some ⟨p, 0, none⟩)), (2, .int .u64 x), (3, .pointer (some ⟨q, 0, none⟩)), (5, .pointer (some ⟨b, 0, none⟩))]) (fun y => [[⟨p, .cells #[.int .u8 md, .bool dam] 82 (0, 0)⟩], [⟨q, .cells #[y.1] 67 (0, 0)⟩], y.2, [⟨b, .cells #[.int .u32 so, .int .u8 sd, .bool st] 87 (0, 0)⟩]])
        (fun y => Own 87 3 y.1 F.length (F.flatMap nsV) y.2 ∧ (∀ y ∈ F, Bn N md y) ∧ F.length ≤ l.length + 10) ?_ ?_
      rotate_left 1
      · intro J0
        refine run_loop (α := Nat × Nat × List NS × Value × Hp) (fun y => [(0, .pointer (some ⟨p, 0, none⟩)), (2, .int .u64 x), (3, .pointer (some ⟨q, 0, none⟩)), (5, .pointer (some ⟨b, 0, none⟩)), (8, .int .u8 ((md : Int) + 1 - (sd : Int))), (9, .int .u8 (y.2.1 : Nat))]) (fun y => [[⟨p, .cells #[.int .u8 md, .bool dam] 82 (0, 0)⟩], [⟨q, .cells #[y.2.2.2.1] 67 (0, 0)⟩], y.2.2.2.2, [⟨b, .cells #[.int .u32 so, .int .u8 sd, .bool st] 87 (0, 0)⟩]])
          (fun y => y.1 + y.2.1 = md - sd + 1 ∧ 1 ≤ y.2.1 ∧ Own 87 3 y.2.2.2.1 y.2.2.1.length (y.2.2.1.flatMap nsV) y.2.2.2.2 ∧ (∀ z ∈ y.2.2.1, Bn N md z) ∧ y.2.2.1.length ≤ l.length + 1 + y.2.1 ∧ delT ⟨so, sd, st⟩ x y.1 y.2.1 y.2.2.1 = F) (fun y => y.1)
          (md - sd, 1, l2, v2, lv2) ⟨by dsimp only, Nat.le_refl _, ho2, ok2, by dsimp only; omega, hFd⟩ (by (repeat (first | exact Sub.nil _ | (refine Sub.cons rfl ?_)))) (by (apply le_of_picks; (repeat (first | exact Picks.nil | (apply Picks.cons; (· (repeat (first | exact Pick.here | apply Pick.there)))) | apply Picks.empty)))) ?_
        clear hFd ho2 ok2 ln2 ho1 ok1 ln1
        rintro ⟨k, d, l3, v3, lv3⟩ ⟨hkd, hd1, ho3, ok3, ln3, hF3⟩
        dsimp only at hkd hd1 ho3 ok3 ln3 hF3 ⊢
        cases k with
        | zero =>
          have e : l3 = F := hF3
          subst e
          have J1 := J0 (v3, lv3) ⟨ho3, ok3, by omega⟩
          refine run_seq ?_
          refine run_seq ?_
          refine run_region rfl ?_
          refine op_move rfl rfl ?_
          refine op_move rfl rfl ?_
          refine op_cmp_f rfl rfl rfl rfl (by first | (simp only [cmpP]; done) | (simp only [cmpP]; omega)) ?_
          refine ops_nil ?_
          refine fin_code ?_
          refine run_cond_f rfl ?_
          refine run_exit ?_
          refine fin_exit_code ?_
          refine fin_exit_inv ?_
          refine fin_exit_here ?_
          (apply J1)
          · (repeat (first | exact Sub.nil _ | (refine Sub.cons rfl ?_)))
          · (apply le_of_picks; (repeat (first | exact Picks.nil | (apply Picks.cons; (· (repeat (first | exact Pick.here | apply Pick.there)))) | apply Picks.empty)))
        | succ k =>
          simp only [delT] at hF3
          refine run_seq ?_
          refine run_seq ?_
          refine run_region rfl ?_
          refine op_move rfl rfl ?_
          refine op_move rfl rfl ?_
          refine op_cmp_t rfl rfl rfl rfl (by first | (simp only [cmpP]; done) | (simp only [cmpP]; omega)) ?_
          refine ops_nil ?_
          refine fin_code ?_
          refine run_cond_t rfl ?_
          refine run_skip ?_
          refine fin_code ?_
          refine run_seq ?_
          refine run_block ?_
          refine run_seq ?_
          refine run_region rfl ?_
          refine op_move rfl rfl ?_
          refine op_move rfl rfl ?_
          ((first | (apply op_call; (· exact rfl)) | apply op_call0); (· exact rfl); rotate_left 1; (· exact fun w hG hw => xbit_any w x d hx (by omega)); rotate_right 1; (· (repeat (first | exact Picks.nil | (apply Picks.cons; (· (repeat (first | exact Pick.here | apply Pick.there)))) | apply Picks.empty))))
          intro _ _
          cases hb : bitN x d with
          | true =>
            simp only [hb, if_true] at hF3
            refine ops_nil ?_
            refine fin_code ?_
            refine run_cond_t rfl ?_
            refine run_region rfl ?_
            refine op_move rfl rfl ?_
            refine op_fieldAddr rfl rfl ?_
            (apply op_load; (· exact rfl); (· exact rfl); (· apply cell_of_has; (· (repeat (first | exact Has.here | apply Has.there))); (· first | exact rfl)))
            refine op_add rfl rfl rfl (by simp only [kLo, kHi]; omega) ?_
            refine op_move rfl rfl ?_
            refine op_conv rfl rfl (by simp only [kLo, kHi]; omega) ?_
            refine op_add rfl rfl rfl (by simp only [kLo, kHi]; omega) ?_
            refine op_fieldAddr rfl rfl ?_
            (apply op_load; (· exact rfl); (· exact rfl); (· apply cell_of_has; (· (repeat (first | exact Has.here | apply Has.there))); (· first | exact rfl)))
            refine op_move rfl rfl ?_
            refine op_add rfl rfl rfl (by simp only [kLo, kHi]; omega) ?_
            refine op_build rfl rfl rfl (by first | (intro v hv; simp at hv; done) | (intro v hv; simp at hv; rcases hv with rfl | rfl | rfl | rfl | rfl | rfl | rfl <;> rfl) | (intro v hv; simp at hv; rcases hv with rfl | rfl | rfl | rfl | rfl | rfl <;> rfl) | (intro v hv; simp at hv; rcases hv with rfl | rfl | rfl | rfl | rfl <;> rfl) | (intro v hv; simp at hv; rcases hv with rfl | rfl | rfl | rfl <;> rfl) | (intro v hv; simp at hv; rcases hv with rfl | rfl | rfl <;> rfl) | (intro v hv; simp at hv; rcases hv with rfl | rfl <;> rfl) | (intro v hv; simp at hv; rcases hv with rfl; rfl)) rfl ?_
            ((first | (apply op_call; (· exact rfl)) | apply op_call0); (· exact rfl); rotate_left 1; (· exact fun w hG hw => ADD w v3 l3 lv3 ⟨so + 1 + d, sd + d, false⟩ ho3 ok3 ⟨by dsimp only; omega, by dsimp only; omega⟩ (by omega) hw); rotate_right 1; (· (repeat (first | exact Picks.nil | (apply Picks.cons; (· (repeat (first | exact Pick.here | apply Pick.there)))) | apply Picks.empty))))
            rintro ⟨v4, lv4⟩ ho4
            have ok4 := addSt_ok (x := ⟨so + 1 + d, sd + d, false⟩) ok3 ⟨by dsimp only; omega, by dsimp only; omega⟩
            have ln4 := addSt_len l3 ⟨so + 1 + d, sd + d, false⟩
            generalize addSt l3 ⟨so + 1 + d, sd + d, false⟩ = l4 at *
            dsimp only at ho4 ⊢
            refine ops_nil ?_
            refine fin_block ?_
            refine fin_code ?_
            refine run_region rfl ?_
            refine op_move rfl rfl ?_
            refine op_add rfl rfl rfl (by simp only [kLo, kHi]; omega) ?_
            refine op_assign rfl rfl ?_
            refine ops_nil ?_
            refine fin_round (k, d + 1, l4, v4, lv4) (by dsimp only; omega) (by (repeat (first | exact Sub.nil _ | (refine Sub.cons rfl ?_)))) (by (apply le_of_picks; (repeat (first | exact Picks.nil | (apply Picks.cons; (· (repeat (first | exact Pick.here | apply Pick.there)))) | apply Picks.empty)))) ⟨by dsimp only; omega, by dsimp only; omega, ho4, ok4, by dsimp only; omega, hF3⟩
          | false =>
            simp only [hb, if_false, Bool.false_eq_true] at hF3
            refine ops_nil ?_
            refine fin_code ?_
            refine run_cond_f rfl ?_
            refine run_skip ?_
            refine fin_block ?_
            refine fin_code ?_
            refine run_region rfl ?_
            refine op_move rfl rfl ?_
            refine op_add rfl rfl rfl (by simp only [kLo, kHi]; omega) ?_
            refine op_assign rfl rfl ?_
            refine ops_nil ?_
            refine fin_round (k, d + 1, l3, v3, lv3) (by dsimp only; omega) (by (repeat (first | exact Sub.nil _ | (refine Sub.cons rfl ?_)))) (by (apply le_of_picks; (repeat (first | exact Picks.nil | (apply Picks.cons; (· (repeat (first | exact Pick.here | apply Pick.there)))) | apply Picks.empty)))) ⟨by dsimp only; omega, by dsimp only; omega, ho3, ok3, by dsimp only; omega, hF3⟩
      clear hFd ho2 ok2 ln2 ho1 ok1 ln1
      rintro ⟨v3, lv3⟩ ⟨ho3, ok3, ln3⟩
      dsimp only at ho3 ⊢
      cases dam with
      | false =>
        rw [Bool.false_and, if_neg (by decide)] at J
        have J1 := J (v3, lv3) ⟨ho3, ok3, by omega⟩
        refine fin_code ?_
        refine run_seq ?_
        refine run_region rfl ?_
        refine op_move rfl rfl ?_
        refine op_nilCheck rfl rfl ?_
        refine op_fieldAddr rfl rfl ?_
        (apply op_load; (· exact rfl); (· exact rfl); (· apply cell_of_has; (· (repeat (first | exact Has.here | apply Has.there))); (· first | exact rfl)))
        refine op_move rfl rfl ?_
        refine ops_off1 rfl rfl ?_
        refine ops_off1 rfl rfl ?_
        refine op_pick_f rfl rfl rfl ?_
        refine ops_nil ?_
        refine fin_code ?_
        refine run_cond_f rfl ?_
        refine run_skip ?_
        (apply J1)
        · (repeat (first | exact Sub.nil _ | (refine Sub.cons rfl ?_)))
        · (apply le_of_picks; (repeat (first | exact Picks.nil | (apply Picks.cons; (· (repeat (first | exact Pick.here | apply Pick.there)))) | apply Picks.empty)))
      | true =>
        cases hb1 : bitN x 1 with
        | false =>
          rw [hb1, Bool.true_and, if_neg (by decide)] at J
          have J1 := J (v3, lv3) ⟨ho3, ok3, by omega⟩
          have X1 := xbit_any (x := x) (i := 1) (hx := hx) (hi := by omega)
          rw [hb1] at X1
          refine fin_code ?_
          refine run_seq ?_
          refine run_region rfl ?_
          refine op_move rfl rfl ?_
          refine op_nilCheck rfl rfl ?_
          refine op_fieldAddr rfl rfl ?_
          (apply op_load; (· exact rfl); (· exact rfl); (· apply cell_of_has; (· (repeat (first | exact Has.here | apply Has.there))); (· first | exact rfl)))
          refine op_move rfl rfl ?_
          refine ops_guard_yes rfl rfl rfl ?_
          refine op_move rfl rfl ?_
          refine ops_guard_yes rfl rfl rfl ?_
          ((first | (apply op_call; (· exact rfl)) | apply op_call0); (· exact rfl); rotate_left 1; (· exact fun w hG hw => X1 w); rotate_right 1; (· (repeat (first | exact Picks.nil | (apply Picks.cons; (· (repeat (first | exact Pick.here | apply Pick.there)))) | apply Picks.empty))))
          intro _ _
          refine op_pick_t rfl rfl rfl ?_
          refine ops_nil ?_
          refine fin_code ?_
          refine run_cond_f rfl ?_
          refine run_skip ?_
          (apply J1)
          · (repeat (first | exact Sub.nil _ | (refine Sub.cons rfl ?_)))
          · (apply le_of_picks; (repeat (first | exact Picks.nil | (apply Picks.cons; (· (repeat (first | exact Pick.here | apply Pick.there)))) | apply Picks.empty)))
        | true =>
          rw [hb1, Bool.true_and, if_pos rfl] at J
          have X1 := xbit_any (x := x) (i := 1) (hx := hx) (hi := by omega)
          rw [hb1] at X1
          refine fin_code ?_
          refine run_seq ?_
          refine run_region rfl ?_
          refine op_move rfl rfl ?_
          refine op_nilCheck rfl rfl ?_
          refine op_fieldAddr rfl rfl ?_
          (apply op_load; (· exact rfl); (· exact rfl); (· apply cell_of_has; (· (repeat (first | exact Has.here | apply Has.there))); (· first | exact rfl)))
          refine op_move rfl rfl ?_
          refine ops_guard_yes rfl rfl rfl ?_
          refine op_move rfl rfl ?_
          refine ops_guard_yes rfl rfl rfl ?_
          ((first | (apply op_call; (· exact rfl)) | apply op_call0); (· exact rfl); rotate_left 1; (· exact fun w hG hw => X1 w); rotate_right 1; (· (repeat (first | exact Picks.nil | (apply Picks.cons; (· (repeat (first | exact Pick.here | apply Pick.there)))) | apply Picks.empty))))
          intro _ _
          refine op_pick_t rfl rfl rfl ?_
          refine ops_nil ?_
          refine fin_code ?_
          refine run_cond_t rfl ?_
          refine run_region rfl ?_
          refine op_move rfl rfl ?_
          refine op_fieldAddr rfl rfl ?_
          (apply op_load; (· exact rfl); (· exact rfl); (· apply cell_of_has; (· (repeat (first | exact Has.here | apply Has.there))); (· first | exact rfl)))
          refine op_fieldAddr rfl rfl ?_
          (apply op_load; (· exact rfl); (· exact rfl); (· apply cell_of_has; (· (repeat (first | exact Has.here | apply Has.there))); (· first | exact rfl)))
          refine op_add rfl rfl rfl (by simp only [kLo, kHi]; omega) ?_
          refine op_build rfl rfl rfl (by first | (intro v hv; simp at hv; done) | (intro v hv; simp at hv; rcases hv with rfl | rfl | rfl | rfl | rfl | rfl | rfl <;> rfl) | (intro v hv; simp at hv; rcases hv with rfl | rfl | rfl | rfl | rfl | rfl <;> rfl) | (intro v hv; simp at hv; rcases hv with rfl | rfl | rfl | rfl | rfl <;> rfl) | (intro v hv; simp at hv; rcases hv with rfl | rfl | rfl | rfl <;> rfl) | (intro v hv; simp at hv; rcases hv with rfl | rfl | rfl <;> rfl) | (intro v hv; simp at hv; rcases hv with rfl | rfl <;> rfl) | (intro v hv; simp at hv; rcases hv with rfl; rfl)) rfl ?_
          ((first | (apply op_call; (· exact rfl)) | apply op_call0); (· exact rfl); rotate_left 1; (· exact fun w hG hw => ADD w v3 F lv3 ⟨so, sd + 1, true⟩ ho3 ok3 ⟨by dsimp only; omega, by dsimp only; omega⟩ (by omega) hw); rotate_right 1; (· (repeat (first | exact Picks.nil | (apply Picks.cons; (· (repeat (first | exact Pick.here | apply Pick.there)))) | apply Picks.empty))))
          rintro ⟨v4, lv4⟩ ho4
          have ok4 := addSt_ok (x := ⟨so, sd + 1, true⟩) ok3 ⟨by dsimp only; omega, by dsimp only; omega⟩
          have ln4 := addSt_len F ⟨so, sd + 1, true⟩
          generalize addSt F ⟨so, sd + 1, true⟩ = l4 at *
          dsimp only at ho4 ⊢
          have J1 := J (v4, lv4) ⟨ho4, ok4, by omega⟩
          refine ops_nil ?_
          (apply J1)
          · (repeat (first | exact Sub.nil _ | (refine Sub.cons rfl ?_)))
          · (apply le_of_picks; (repeat (first | exact Picks.nil | (apply Picks.cons; (· (repeat (first | exact Pick.here | apply Pick.there)))) | apply Picks.empty)))
    · rw [if_neg hlt] at J
      have J1 := J (v, lv) ⟨hov, hok, by omega⟩
      skip
      refine run_drawS [[⟨p, .cells #[.int .u8 md, .bool dam] 82 (0, 0)⟩], [⟨b, .cells #[.int .u32 so, .int .u8 sd, .bool st] 87 (0, 0)⟩]] (by kernel_rfl) ?_
      refine dr_stab 0 rfl rfl (Val.s (val_fieldAddr rfl)) (by decide +kernel) rfl rfl ?_
      (apply dr_stab 1; (· exact rfl); (· exact rfl); (· apply ValAt.s; (first | (apply val_load; (· exact rfl); (· apply cell_of_has; (· (repeat (first | exact Has.here | apply Has.there))); (· first | exact rfl))) | fail)); (· decide +kernel); (· exact rfl); (· exact rfl))
      refine dr_stab 2 rfl rfl (Val.s (val_move rfl)) (by decide +kernel) rfl rfl ?_
      refine dr_stab 3 rfl rfl (Val.s (val_nilCheck rfl)) (by decide +kernel) rfl rfl ?_
      refine dr_stab 4 rfl rfl (Val.s (val_fieldAddr rfl)) (by decide +kernel) rfl rfl ?_
      (apply dr_stab 5; (· exact rfl); (· exact rfl); (· apply ValAt.s; (first | (apply val_load; (· exact rfl); (· apply cell_of_has; (· (repeat (first | exact Has.here | apply Has.there))); (· first | exact rfl))) | fail)); (· decide +kernel); (· exact rfl); (· exact rfl))
      refine dr_stab 6 rfl rfl (Val.s (val_cmp_f rfl rfl rfl (by first | (simp only [cmpP]; done) | (simp only [cmpP]; omega)))) (by decide +kernel) rfl rfl ?_
      (refine dr_done (by decide +kernel) (by (apply le_of_picks; (repeat (first | exact Picks.nil | (apply Picks.cons; (· (repeat (first | exact Pick.here | apply Pick.there)))) | apply Picks.empty)))) ?_)
      refine fin_code ?_
      refine run_cond_f rfl ?_
      refine run_skip ?_
      (apply J1)
      · (repeat (first | exact Sub.nil _ | (refine Sub.cons rfl ?_)))
      · (apply le_of_picks; (repeat (first | exact Picks.nil | (apply Picks.cons; (· (repeat (first | exact Pick.here | apply Pick.there)))) | apply Picks.empty)))
  rintro ⟨v1, lv1⟩ ⟨ho1, ok1, ln1⟩
  dsimp only at ho1 ⊢
  generalize simp1 md dam ⟨so, sd, st⟩ x l = l1 at *
  unfold simp3 simp2 at hR
  have X0 := xbit_any (x := x) (i := 0) (hx := hx) (hi := by omega)
  cases hb0 : bitN x 0 with
  | false =>
    simp only [hb0, Bool.and_false, if_false, Bool.false_eq_true] at hR
    rw [hb0] at X0
    refine fin_code ?_
    refine run_seq ?_
    refine run_seq ?_
    refine run_region rfl ?_
    refine op_move rfl rfl ?_
    ((first | (apply op_call; (· exact rfl)) | apply op_call0); (· exact rfl); rotate_left 1; (· exact fun w hG hw => X0 w); rotate_right 1; (· (repeat (first | exact Picks.nil | (apply Picks.cons; (· (repeat (first | exact Pick.here | apply Pick.there)))) | apply Picks.empty))))
    intro _ _
    cases st with
    | false =>
      refine ops_nil ?_
      refine fin_code ?_
      refine run_cond_f rfl ?_
      refine run_skip ?_
      refine fin_code ?_
      refine run_seq ?_
      refine run_region rfl ?_
      refine op_fieldAddr rfl rfl ?_
      (apply op_load; (· exact rfl); (· exact rfl); (· apply cell_of_has; (· (repeat (first | exact Has.here | apply Has.there))); (· first | exact rfl)))
      refine op_move rfl rfl ?_
      refine ops_off1 rfl rfl ?_
      refine ops_off1 rfl rfl ?_
      refine op_pick_f rfl rfl rfl ?_
      refine ops_nil ?_
      refine fin_code ?_
      refine run_cond_f rfl ?_
      refine run_skip ?_
      refine fin_ret0 (.inr rfl) rfl ?_
      intro w' g
      exact hR _ _ (post_of g (v1, lv1) ⟨ho1, ok1, by omega⟩ rfl (by dsimp only [msB]; (apply le_of_picks; (repeat (first | exact Picks.nil | (apply Picks.cons; (· (repeat (first | exact Pick.here | apply Pick.there)))) | apply Picks.empty)))))
    | true =>
      refine ops_nil ?_
      refine fin_code ?_
      refine run_cond_f rfl ?_
      refine run_skip ?_
      refine fin_code ?_
      refine run_seq ?_
      refine run_region rfl ?_
      refine op_fieldAddr rfl rfl ?_
      (apply op_load; (· exact rfl); (· exact rfl); (· apply cell_of_has; (· (repeat (first | exact Has.here | apply Has.there))); (· first | exact rfl)))
      refine op_move rfl rfl ?_
      refine ops_guard_yes rfl rfl rfl ?_
      refine op_move rfl rfl ?_
      refine ops_guard_yes rfl rfl rfl ?_
      ((first | (apply op_call; (· exact rfl)) | apply op_call0); (· exact rfl); rotate_left 1; (· exact fun w hG hw => X0 w); rotate_right 1; (· (repeat (first | exact Picks.nil | (apply Picks.cons; (· (repeat (first | exact Pick.here | apply Pick.there)))) | apply Picks.empty))))
      intro _ _
      refine op_pick_t rfl rfl rfl ?_
      refine ops_nil ?_
      refine fin_code ?_
      refine run_cond_f rfl ?_
      refine run_skip ?_
      refine fin_ret0 (.inr rfl) rfl ?_
      intro w' g
      exact hR _ _ (post_of g (v1, lv1) ⟨ho1, ok1, by omega⟩ rfl (by dsimp only [msB]; (apply le_of_picks; (repeat (first | exact Picks.nil | (apply Picks.cons; (· (repeat (first | exact Pick.here | apply Pick.there)))) | apply Picks.empty)))))
  | true =>
    simp only [hb0, Bool.and_true, if_true] at hR
    rw [hb0] at X0
    refine fin_code ?_
    refine run_seq ?_
    refine run_seq ?_
    refine run_region rfl ?_
    refine op_move rfl rfl ?_
    ((first | (apply op_call; (· exact rfl)) | apply op_call0); (· exact rfl); rotate_left 1; (· exact fun w hG hw => X0 w); rotate_right 1; (· (repeat (first | exact Picks.nil | (apply Picks.cons; (· (repeat (first | exact Pick.here | apply Pick.there)))) | apply Picks.empty))))
    intro _ _
    refine ops_nil ?_
    refine fin_code ?_
    refine run_cond_t rfl ?_
    refine run_region rfl ?_
    refine op_move rfl rfl ?_
    refine op_fieldAddr rfl rfl ?_
    (apply op_load; (· exact rfl); (· exact rfl); (· apply cell_of_has; (· (repeat (first | exact Has.here | apply Has.there))); (· first | exact rfl)))
    refine op_add rfl rfl rfl (by simp only [kLo, kHi]; omega) ?_
    refine op_fieldAddr rfl rfl ?_
    (apply op_load; (· exact rfl); (· exact rfl); (· apply cell_of_has; (· (repeat (first | exact Has.here | apply Has.there))); (· first | exact rfl)))
    refine op_build rfl rfl rfl (by first | (intro v hv; simp at hv; done) | (intro v hv; simp at hv; rcases hv with rfl | rfl | rfl | rfl | rfl | rfl | rfl <;> rfl) | (intro v hv; simp at hv; rcases hv with rfl | rfl | rfl | rfl | rfl | rfl <;> rfl) | (intro v hv; simp at hv; rcases hv with rfl | rfl | rfl | rfl | rfl <;> rfl) | (intro v hv; simp at hv; rcases hv with rfl | rfl | rfl | rfl <;> rfl) | (intro v hv; simp at hv; rcases hv with rfl | rfl | rfl <;> rfl) | (intro v hv; simp at hv; rcases hv with rfl | rfl <;> rfl) | (intro v hv; simp at hv; rcases hv with rfl; rfl)) rfl ?_
    ((first | (apply op_call; (· exact rfl)) | apply op_call0); (· exact rfl); rotate_left 1; (· exact fun w hG hw => ADD w v1 l1 lv1 ⟨so + 1, sd, false⟩ ho1 ok1 ⟨by dsimp only; omega, by dsimp only; omega⟩ (by omega) hw); rotate_right 1; (· (repeat (first | exact Picks.nil | (apply Picks.cons; (· (repeat (first | exact Pick.here | apply Pick.there)))) | apply Picks.empty))))
    rintro ⟨v2, lv2⟩ ho2
    have ok2 := addSt_ok (x := ⟨so + 1, sd, false⟩) ok1 ⟨by dsimp only; omega, by dsimp only; omega⟩
    have ln2 := addSt_len l1 ⟨so + 1, sd, false⟩
    generalize addSt l1 ⟨so + 1, sd, false⟩ = l2 at *
    dsimp only at ho2 ⊢
    cases st with
    | false =>
      simp only [if_false, Bool.false_eq_true] at hR
      refine ops_nil ?_
      refine fin_code ?_
      refine run_seq ?_
      refine run_region rfl ?_
      refine op_fieldAddr rfl rfl ?_
      (apply op_load; (· exact rfl); (· exact rfl); (· apply cell_of_has; (· (repeat (first | exact Has.here | apply Has.there))); (· first | exact rfl)))
      refine op_move rfl rfl ?_
      refine ops_off1 rfl rfl ?_
      refine ops_off1 rfl rfl ?_
      refine op_pick_f rfl rfl rfl ?_
      refine ops_nil ?_
      refine fin_code ?_
      refine run_cond_f rfl ?_
      refine run_skip ?_
      refine fin_ret0 (.inr rfl) rfl ?_
      intro w' g
      exact hR _ _ (post_of g (v2, lv2) ⟨ho2, ok2, by omega⟩ rfl (by dsimp only [msB]; (apply le_of_picks; (repeat (first | exact Picks.nil | (apply Picks.cons; (· (repeat (first | exact Pick.here | apply Pick.there)))) | apply Picks.empty)))))
    | true =>
      simp only [if_true] at hR
      refine ops_nil ?_
      refine fin_code ?_
      refine run_seq ?_
      refine run_region rfl ?_
      refine op_fieldAddr rfl rfl ?_
      (apply op_load; (· exact rfl); (· exact rfl); (· apply cell_of_has; (· (repeat (first | exact Has.here | apply Has.there))); (· first | exact rfl)))
      refine op_move rfl rfl ?_
      refine ops_guard_yes rfl rfl rfl ?_
      refine op_move rfl rfl ?_
      refine ops_guard_yes rfl rfl rfl ?_
      ((first | (apply op_call; (· exact rfl)) | apply op_call0); (· exact rfl); rotate_left 1; (· exact fun w hG hw => X0 w); rotate_right 1; (· (repeat (first | exact Picks.nil | (apply Picks.cons; (· (repeat (first | exact Pick.here | apply Pick.there)))) | apply Picks.empty))))
      intro _ _
      refine op_pick_t rfl rfl rfl ?_
      refine ops_nil ?_
      refine fin_code ?_
      refine run_cond_t rfl ?_
      refine run_region rfl ?_
      refine op_move rfl rfl ?_
      refine op_fieldAddr rfl rfl ?_
      (apply op_load; (· exact rfl); (· exact rfl); (· apply cell_of_has; (· (repeat (first | exact Has.here | apply Has.there))); (· first | exact rfl)))
      refine op_add rfl rfl rfl (by simp only [kLo, kHi]; omega) ?_
      refine op_fieldAddr rfl rfl ?_
      (apply op_load; (· exact rfl); (· exact rfl); (· apply cell_of_has; (· (repeat (first | exact Has.here | apply Has.there))); (· first | exact rfl)))
      refine op_build rfl rfl rfl (by first | (intro v hv; simp at hv; done) | (intro v hv; simp at hv; rcases hv with rfl | rfl | rfl | rfl | rfl | rfl | rfl <;> rfl) | (intro v hv; simp at hv; rcases hv with rfl | rfl | rfl | rfl | rfl | rfl <;> rfl) | (intro v hv; simp at hv; rcases hv with rfl | rfl | rfl | rfl | rfl <;> rfl) | (intro v hv; simp at hv; rcases hv with rfl | rfl | rfl | rfl <;> rfl) | (intro v hv; simp at hv; rcases hv with rfl | rfl | rfl <;> rfl) | (intro v hv; simp at hv; rcases hv with rfl | rfl <;> rfl) | (intro v hv; simp at hv; rcases hv with rfl; rfl)) rfl ?_
      ((first | (apply op_call; (· exact rfl)) | apply op_call0); (· exact rfl); rotate_left 1; (· exact fun w hG hw => ADD w v2 l2 lv2 ⟨so + 2, sd, false⟩ ho2 ok2 ⟨by dsimp only; omega, by dsimp only; omega⟩ (by omega) hw); rotate_right 1; (· (repeat (first | exact Picks.nil | (apply Picks.cons; (· (repeat (first | exact Pick.here | apply Pick.there)))) | apply Picks.empty))))
      rintro ⟨v3, lv3⟩ ho3
      have ok3 := addSt_ok (x := ⟨so + 2, sd, false⟩) ok2 ⟨by dsimp only; omega, by dsimp only; omega⟩
      have ln3 := addSt_len l2 ⟨so + 2, sd, false⟩
      generalize addSt l2 ⟨so + 2, sd, false⟩ = l3 at *
      dsimp only at ho3 ⊢
      refine ops_nil ?_
      refine fin_ret0 (.inr rfl) rfl ?_
      intro w' g
      exact hR _ _ (post_of g (v3, lv3) ⟨ho3, ok3, by omega⟩ rfl (by dsimp only [msB]; (apply le_of_picks; (repeat (first | exact Picks.nil | (apply Picks.cons; (· (repeat (first | exact Pick.here | apply Pick.there)))) | apply Picks.empty)))))
end Go.Proofs.Eng
