/- A part of the proof: what functions of the program do, step by step. -/
import Derived.Test.YtnomlnfdmoecoaaDoorN6
set_option linter.unusedVariables false
set_option linter.unusedSimpArgs false
namespace Go.Proofs.Eng
open Go.RowKit
section
variable {α : Type} [Inhabited α] {L : Array α → Hp} {rv : Value} {n : Nat} {lt : α → α → Bool}
set_option maxRecDepth 100000 in
set_option maxHeartbeats 16000000 in
theorem part_any (D : SD L rv n lt) (w : World) (d : Array α) (A B P : Int) (a b pv : Nat) (hd : d.size = n) (hA : A = a) (hB : B = b) (hP : P = pv) (hab : a + 1 < b) (hbn : b ≤ n) (hpn : pv < n) (hw : At w ([L d] : List Hp).flatten) :
    Calls Tryd.prog 56 #[.iface 91 rv, .int .i64 A, .int .i64 B, .int .i64 P] w (Post w ([L d] : List Hp).flatten (fun _ : Unit => .tuple #[.int .i64 (Sort.partition lt d a b pv).1, .bool (Sort.partition lt d a b pv).2.1]) (fun _ => ([L (Sort.partition lt d a b pv).2.2] : List Hp).flatten) (fun _ => True)) := by
  subst hA hB hP
  have hfew := D.few
  refine enter [L d] Tryd.func56 rfl rfl hw (Le.refl _) ?_
  intro R hR
  unfold Sort.partition at hR
  dsimp only at hR
  refine run_seq ?_
  refine run_region rfl ?_
  refine op_assign rfl rfl ?_
  refine op_assign rfl rfl ?_
  refine ops_nil ?_
  refine fin_code ?_
  refine run_seq ?_
  refine run_region rfl ?_
  refine op_move rfl rfl ?_
  refine op_move rfl rfl ?_
  refine op_move rfl rfl ?_
  ((first | (apply op_invE 91 86; (· infer_instance); (· infer_instance); (· exact rfl)) | (apply op_inv0E 91 86; (· infer_instance); (· infer_instance))); (· exact rfl); (· exact rfl); rotate_left 1; (· exact fun w hG hw => D.swap w d _ _ a pv hd (by omega) (by omega) (by omega) (by omega) hw); rotate_right 1; (· (repeat (first | exact Picks.nil | (apply Picks.cons; (· (repeat (first | exact Pick.here | apply Pick.there)))) | apply Picks.empty))))
  intro _ _
  have hdk : (Sort.swp d a pv).size = n := by rw [swp_size', hd]
  generalize Sort.swp d a pv = dk at *
  obtain ⟨j, hj⟩ : ∃ j, j = b - 1 := ⟨_, rfl⟩
  rw [← hj] at hR
  have hjb : (b : Int) - 1 = (j : Int) := by omega
  have hu := scanUp_ge (fun x => lt x dk[a]!) dk j (j + 1 - (a + 1)) (a + 1) (Nat.le_refl _)
  generalize hU : Sort.scanUp (fun x => lt x dk[a]!) dk j (a + 1) = u at *
  refine ops_nil ?_
  refine fin_code ?_
  refine run_seq ?_
  refine run_region rfl ?_
  refine op_move rfl rfl ?_
  refine op_add rfl rfl rfl (by simp only [kLo, kHi]; omega) ?_
  refine op_move rfl rfl ?_
  refine op_sub rfl rfl rfl (by simp only [kLo, kHi]; omega) ?_
  refine op_assign rfl rfl ?_
  refine op_assign rfl rfl ?_
  refine ops_nil ?_
  refine fin_code ?_
  refine run_seq ?_
  refine run_block ?_
  refine run_join1 (α := Unit) (fun _ => [(0, .iface 91 rv), (1, .int .i64 a), (10, .int .i64 (u : Nat)), (11, .int .i64 (j : Nat))]) (fun _ => [L dk]) (fun _ => True) ?_ ?_
  rotate_left 1
  · intro J
    have J1 := J () trivial
    refine run_loop (α := Nat) (fun x => [(0, .iface 91 rv), (1, .int .i64 a), (10, .int .i64 (x : Nat)), (11, .int .i64 (j : Nat))]) (fun _ => [L dk])
      (fun x => a + 1 ≤ x ∧ x ≤ j + 2 ∧ Sort.scanUp (fun x => lt x dk[a]!) dk (j) x = u) (fun x => j + 2 - x) (a + 1) ⟨Nat.le_refl _, by omega, hU⟩ (by rw [← hjb]; (repeat (first | exact Sub.nil _ | (refine Sub.cons rfl ?_)))) (by (apply le_of_picks; (repeat (first | exact Picks.nil | (apply Picks.cons; (· (repeat (first | exact Pick.here | apply Pick.there)))) | apply Picks.empty)))) ?_
    rintro x ⟨hix, hxj, hUx⟩
    by_cases hxj2 : x ≤ j
    · refine run_seq ?_
      refine run_seq ?_
      refine run_region rfl ?_
      refine op_move rfl rfl ?_
      refine op_move rfl rfl ?_
      refine op_cmp_t rfl rfl rfl rfl (by first | (simp only [cmpP]; done) | (simp only [cmpP]; omega)) ?_
      refine op_move rfl rfl ?_
      refine ops_guard_yes rfl rfl rfl ?_
      refine op_move rfl rfl ?_
      refine ops_guard_yes rfl rfl rfl ?_
      refine op_move rfl rfl ?_
      refine ops_guard_yes rfl rfl rfl ?_
      refine op_move rfl rfl ?_
      refine ops_guard_yes rfl rfl rfl ?_
      ((first | (apply op_invE 91 85; (· infer_instance); (· infer_instance); (· exact rfl)) | (apply op_inv0E 91 85; (· infer_instance); (· infer_instance))); (· exact rfl); (· exact rfl); rotate_left 1; (· exact fun w hG hw => D.less w dk _ _ x a hdk (by omega) (by omega) (by omega) (by omega) hw); rotate_right 1; (· (repeat (first | exact Picks.nil | (apply Picks.cons; (· (repeat (first | exact Pick.here | apply Pick.there)))) | apply Picks.empty))))
      intro _ _
      cases hlt : lt dk[x]! dk[a]! with
      | true =>
        rw [scanUp_yes hxj2 (by simp [hlt])] at hUx
        refine op_pick_t rfl rfl rfl ?_
        refine ops_nil ?_
        refine fin_code ?_
        refine run_cond_t rfl ?_
        refine run_skip ?_
        refine fin_code ?_
        refine run_block ?_
        refine run_region rfl ?_
        refine op_move rfl rfl ?_
        refine op_add rfl rfl rfl (by simp only [kLo, kHi]; omega) ?_
        refine op_assign rfl rfl ?_
        refine ops_nil ?_
        refine fin_block ?_
        refine fin_round (x + 1) (by omega) (by (repeat (first | exact Sub.nil _ | (refine Sub.cons rfl ?_)))) (by (apply le_of_picks; (repeat (first | exact Picks.nil | (apply Picks.cons; (· (repeat (first | exact Pick.here | apply Pick.there)))) | apply Picks.empty)))) ⟨by omega, by omega, hUx⟩
      | false =>
        rw [scanUp_no (by simp [hlt])] at hUx
        subst hUx
        refine op_pick_t rfl rfl rfl ?_
        refine ops_nil ?_
        refine fin_code ?_
        refine run_cond_f rfl ?_
        refine run_exit ?_
        refine fin_exit_code ?_
        refine fin_exit_inv ?_
        refine fin_exit_here ?_
        (apply J1)
        · (repeat (first | exact Sub.nil _ | (refine Sub.cons rfl ?_)))
        · (apply le_of_picks; (repeat (first | exact Picks.nil | (apply Picks.cons; (· (repeat (first | exact Pick.here | apply Pick.there)))) | apply Picks.empty)))
    · rw [scanUp_no (by simp; omega)] at hUx
      subst hUx
      refine run_seq ?_
      refine run_seq ?_
      refine run_region rfl ?_
      refine op_move rfl rfl ?_
      refine op_move rfl rfl ?_
      refine op_cmp_f rfl rfl rfl rfl (by first | (simp only [cmpP]; done) | (simp only [cmpP]; omega)) ?_
      refine op_move rfl rfl ?_
      refine ops_off1 rfl rfl ?_
      refine ops_off1 rfl rfl ?_
      refine ops_off1 rfl rfl ?_
      refine ops_off1 rfl rfl ?_
      refine op_pick_f rfl rfl rfl ?_
      refine ops_nil ?_
      refine fin_code ?_
      refine run_cond_f rfl ?_
      refine run_exit ?_
      refine fin_exit_code ?_
      refine fin_exit_inv ?_
      refine fin_exit_here ?_
      (apply J1)
      · (repeat (first | exact Sub.nil _ | (refine Sub.cons rfl ?_)))
      · (apply le_of_picks; (repeat (first | exact Picks.nil | (apply Picks.cons; (· (repeat (first | exact Pick.here | apply Pick.there)))) | apply Picks.empty)))
  rintro ⟨⟩ _
  generalize hV : Sort.scanDown (fun x => !lt x dk[a]!) dk u (j) = v at *
  have hvge := scanDown_ge (fun x => !lt x dk[a]!) dk u (j)
  have hvle := scanDown_le (fun x => !lt x dk[a]!) dk u (j)
  rw [hV] at hvge hvle
  refine fin_code ?_
  refine run_seq ?_
  refine run_block ?_
  refine run_join1 (α := Unit) (fun _ => [(0, .iface 91 rv), (1, .int .i64 a), (10, .int .i64 (u : Nat)), (11, .int .i64 (v : Nat))]) (fun _ => [L dk]) (fun _ => True) ?_ ?_
  rotate_left 1
  · intro J
    have J1 := J () trivial
    refine run_loop (α := Nat) (fun x => [(0, .iface 91 rv), (1, .int .i64 a), (10, .int .i64 (u : Nat)), (11, .int .i64 (x : Nat))]) (fun _ => [L dk])
      (fun x => x ≤ j ∧ Sort.scanDown (fun x => !lt x dk[a]!) dk u x = v) (fun x => x) (j) ⟨Nat.le_refl _, hV⟩ (by (repeat (first | exact Sub.nil _ | (refine Sub.cons rfl ?_)))) (by (apply le_of_picks; (repeat (first | exact Picks.nil | (apply Picks.cons; (· (repeat (first | exact Pick.here | apply Pick.there)))) | apply Picks.empty)))) ?_
    rintro x ⟨hxj, hVx⟩
    by_cases hxj2 : u ≤ x
    · refine run_seq ?_
      refine run_seq ?_
      refine run_region rfl ?_
      refine op_move rfl rfl ?_
      refine op_move rfl rfl ?_
      refine op_cmp_t rfl rfl rfl rfl (by first | (simp only [cmpP]; done) | (simp only [cmpP]; omega)) ?_
      refine op_move rfl rfl ?_
      refine ops_guard_yes rfl rfl rfl ?_
      refine op_move rfl rfl ?_
      refine ops_guard_yes rfl rfl rfl ?_
      refine op_move rfl rfl ?_
      refine ops_guard_yes rfl rfl rfl ?_
      refine op_move rfl rfl ?_
      refine ops_guard_yes rfl rfl rfl ?_
      ((first | (apply op_invE 91 85; (· infer_instance); (· infer_instance); (· exact rfl)) | (apply op_inv0E 91 85; (· infer_instance); (· infer_instance))); (· exact rfl); (· exact rfl); rotate_left 1; (· exact fun w hG hw => D.less w dk _ _ x a hdk (by omega) (by omega) (by omega) (by omega) hw); rotate_right 1; (· (repeat (first | exact Picks.nil | (apply Picks.cons; (· (repeat (first | exact Pick.here | apply Pick.there)))) | apply Picks.empty))))
      intro _ _
      cases hlt : lt dk[x]! dk[a]! with
      | false =>
        obtain ⟨x', rfl⟩ : ∃ x', x = x' + 1 := ⟨x - 1, by omega⟩
        rw [scanDown_yes hxj2 (by simp [hlt])] at hVx
        refine ops_guard_yes rfl rfl rfl ?_
        refine op_not rfl rfl ?_
        refine op_pick_t rfl rfl rfl ?_
        refine ops_nil ?_
        refine fin_code ?_
        refine run_cond_t rfl ?_
        refine run_skip ?_
        refine fin_code ?_
        refine run_block ?_
        refine run_region rfl ?_
        refine op_move rfl rfl ?_
        refine op_sub rfl rfl rfl (by simp only [kLo, kHi]; omega) ?_
        refine op_assign rfl rfl ?_
        refine ops_nil ?_
        refine fin_block ?_
        refine fin_round x' (by omega) (by rw [show ((x' : Nat) : Int) = ((x' + 1 : Nat) : Int) - 1 by omega]; (repeat (first | exact Sub.nil _ | (refine Sub.cons rfl ?_)))) (by (apply le_of_picks; (repeat (first | exact Picks.nil | (apply Picks.cons; (· (repeat (first | exact Pick.here | apply Pick.there)))) | apply Picks.empty)))) ⟨by omega, hVx⟩
      | true =>
        rw [scanDown_no (by omega) (by simp [hlt])] at hVx
        subst hVx
        refine ops_guard_yes rfl rfl rfl ?_
        refine op_not rfl rfl ?_
        refine op_pick_t rfl rfl rfl ?_
        refine ops_nil ?_
        refine fin_code ?_
        refine run_cond_f rfl ?_
        refine run_exit ?_
        refine fin_exit_code ?_
        refine fin_exit_inv ?_
        refine fin_exit_here ?_
        (apply J1)
        · (repeat (first | exact Sub.nil _ | (refine Sub.cons rfl ?_)))
        · (apply le_of_picks; (repeat (first | exact Picks.nil | (apply Picks.cons; (· (repeat (first | exact Pick.here | apply Pick.there)))) | apply Picks.empty)))
    · rw [scanDown_no (by omega) (by simp; omega)] at hVx
      subst hVx
      refine run_seq ?_
      refine run_seq ?_
      refine run_region rfl ?_
      refine op_move rfl rfl ?_
      refine op_move rfl rfl ?_
      refine op_cmp_f rfl rfl rfl rfl (by first | (simp only [cmpP]; done) | (simp only [cmpP]; omega)) ?_
      refine op_move rfl rfl ?_
      refine ops_off1 rfl rfl ?_
      refine ops_off1 rfl rfl ?_
      refine ops_off1 rfl rfl ?_
      refine ops_off1 rfl rfl ?_
      refine ops_off1 rfl rfl ?_
      refine op_pick_f rfl rfl rfl ?_
      refine ops_nil ?_
      refine fin_code ?_
      refine run_cond_f rfl ?_
      refine run_exit ?_
      refine fin_exit_code ?_
      refine fin_exit_inv ?_
      refine fin_exit_here ?_
      (apply J1)
      · (repeat (first | exact Sub.nil _ | (refine Sub.cons rfl ?_)))
      · (apply le_of_picks; (repeat (first | exact Picks.nil | (apply Picks.cons; (· (repeat (first | exact Pick.here | apply Pick.there)))) | apply Picks.empty)))
  rintro ⟨⟩ _
  by_cases huv : u > v
  · rw [if_pos huv] at hR
    refine fin_code ?_
    refine run_seq ?_
    refine run_seq ?_
    refine run_region rfl ?_
    refine op_move rfl rfl ?_
    refine op_move rfl rfl ?_
    refine op_cmp_t rfl rfl rfl rfl (by first | (simp only [cmpP]; done) | (simp only [cmpP]; omega)) ?_
    refine ops_nil ?_
    refine fin_code ?_
    refine run_cond_t rfl ?_
    refine run_seq ?_
    refine run_region rfl ?_
    refine op_move rfl rfl ?_
    refine op_move rfl rfl ?_
    refine op_move rfl rfl ?_
    ((first | (apply op_invE 91 86; (· infer_instance); (· infer_instance); (· exact rfl)) | (apply op_inv0E 91 86; (· infer_instance); (· infer_instance))); (· exact rfl); (· exact rfl); rotate_left 1; (· exact fun w hG hw => D.swap w dk _ _ v a hdk (by omega) (by omega) (by omega) (by omega) hw); rotate_right 1; (· (repeat (first | exact Picks.nil | (apply Picks.cons; (· (repeat (first | exact Pick.here | apply Pick.there)))) | apply Picks.empty))))
    intro _ _
    refine ops_nil ?_
    refine fin_code ?_
    refine run_seq ?_
    refine run_region rfl ?_
    refine op_move rfl rfl ?_
    refine op_assign rfl rfl ?_
    refine op_assign rfl rfl ?_
    refine ops_nil ?_
    refine fin_code ?_
    refine run_ret ?_
    refine fin_ret_code ?_
    refine fin_ret2 rfl rfl rfl ?_
    intro w' g
    exact hR _ _ (post_of g () trivial rfl (by (apply le_of_picks; (repeat (first | exact Picks.nil | (apply Picks.cons; (· (repeat (first | exact Pick.here | apply Pick.there)))) | apply Picks.empty)))))
  rw [if_neg huv] at hR
  have hv0 : ((v - 1 : Nat) : Int) = (v : Int) - 1 := by omega
  refine fin_code ?_
  refine run_seq ?_
  refine run_seq ?_
  refine run_region rfl ?_
  refine op_move rfl rfl ?_
  refine op_move rfl rfl ?_
  refine op_cmp_f rfl rfl rfl rfl (by first | (simp only [cmpP]; done) | (simp only [cmpP]; omega)) ?_
  refine ops_nil ?_
  refine fin_code ?_
  refine run_cond_f rfl ?_
  refine run_skip ?_
  refine fin_code ?_
  refine run_seq ?_
  refine run_region rfl ?_
  refine op_move rfl rfl ?_
  refine op_move rfl rfl ?_
  refine op_move rfl rfl ?_
  ((first | (apply op_invE 91 86; (· infer_instance); (· infer_instance); (· exact rfl)) | (apply op_inv0E 91 86; (· infer_instance); (· infer_instance))); (· exact rfl); (· exact rfl); rotate_left 1; (· exact fun w hG hw => D.swap w dk _ _ u v hdk (by omega) (by omega) (by omega) (by omega) hw); rotate_right 1; (· (repeat (first | exact Picks.nil | (apply Picks.cons; (· (repeat (first | exact Pick.here | apply Pick.there)))) | apply Picks.empty))))
  intro _ _
  generalize hF : Sort.partLoop lt a (u + 1) (v - 1) (Sort.swp dk u v) = F at hR
  refine ops_nil ?_
  refine fin_code ?_
  refine run_seq ?_
  refine run_region rfl ?_
  refine op_move rfl rfl ?_
  refine op_add rfl rfl rfl (by simp only [kLo, kHi]; omega) ?_
  refine op_assign rfl rfl ?_
  refine ops_nil ?_
  refine fin_code ?_
  refine run_seq ?_
  refine run_region rfl ?_
  refine op_move rfl rfl ?_
  refine op_sub rfl rfl rfl (by simp only [kLo, kHi]; omega) ?_
  refine op_assign rfl rfl ?_
  refine ops_nil ?_
  refine fin_code ?_
  refine run_seq ?_
  refine run_block ?_
  refine run_join1 (α := Nat × Array α) (fun x => [(0, .iface 91 rv), (1, .int .i64 a), (11, .int .i64 (x.1 : Nat))]) (fun x => [L x.2]) (fun x => x = F ∧ x.1 < n ∧ x.2.size = n) ?_ ?_
  rotate_left 1
  · intro J0
    refine run_loop (α := Nat × Nat × Array α) (fun x => [(0, .iface 91 rv), (1, .int .i64 a), (10, .int .i64 (x.1 : Nat)), (11, .int .i64 (x.2.1 : Nat))]) (fun x => [L x.2.2])
      (fun x => a < x.1 ∧ x.1 ≤ x.2.1 + 2 ∧ x.2.1 < n ∧ x.2.2.size = n ∧ Sort.partLoop lt a x.1 x.2.1 x.2.2 = F) (fun x => x.2.1 + 2 - x.1)
      (u + 1, v - 1, Sort.swp dk u v) ⟨by dsimp only; omega, by dsimp only; omega, by dsimp only; omega, by rw [swp_size', hdk], hF⟩ (by rw [hv0]; (repeat (first | exact Sub.nil _ | (refine Sub.cons rfl ?_)))) (by (apply le_of_picks; (repeat (first | exact Picks.nil | (apply Picks.cons; (· (repeat (first | exact Pick.here | apply Pick.there)))) | apply Picks.empty)))) ?_
    clear hF hu hU hV hvge hvle huv hv0 hdk hjb hj
    clear u v dk j
    rintro ⟨i, j, dk⟩ ⟨hai, hij, hjn, hdk, hFk⟩
    dsimp only at hai hij hjn hdk hFk ⊢
    rw [partLoop_eq] at hFk
    have hu := scanUp_ge (fun x => lt x dk[a]!) dk j (j + 1 - i) i (Nat.le_refl _)
    generalize hU : Sort.scanUp (fun x => lt x dk[a]!) dk j i = u at *
    refine run_block ?_
    refine run_seq ?_
    refine run_block ?_
    refine run_join1 (α := Unit) (fun _ => [(0, .iface 91 rv), (1, .int .i64 a), (10, .int .i64 (u : Nat)), (11, .int .i64 (j : Nat))]) (fun _ => [L dk]) (fun _ => True) ?_ ?_
    rotate_left 1
    · intro J
      have J1 := J () trivial
      refine run_loop (α := Nat) (fun x => [(0, .iface 91 rv), (1, .int .i64 a), (10, .int .i64 (x : Nat)), (11, .int .i64 (j : Nat))]) (fun _ => [L dk])
        (fun x => i ≤ x ∧ x ≤ j + 2 ∧ Sort.scanUp (fun x => lt x dk[a]!) dk (j) x = u) (fun x => j + 2 - x) (i) ⟨Nat.le_refl _, by omega, hU⟩ (by (repeat (first | exact Sub.nil _ | (refine Sub.cons rfl ?_)))) (by (apply le_of_picks; (repeat (first | exact Picks.nil | (apply Picks.cons; (· (repeat (first | exact Pick.here | apply Pick.there)))) | apply Picks.empty)))) ?_
      rintro x ⟨hix, hxj, hUx⟩
      by_cases hxj2 : x ≤ j
      · refine run_seq ?_
        refine run_seq ?_
        refine run_region rfl ?_
        refine op_move rfl rfl ?_
        refine op_move rfl rfl ?_
        refine op_cmp_t rfl rfl rfl rfl (by first | (simp only [cmpP]; done) | (simp only [cmpP]; omega)) ?_
        refine op_move rfl rfl ?_
        refine ops_guard_yes rfl rfl rfl ?_
        refine op_move rfl rfl ?_
        refine ops_guard_yes rfl rfl rfl ?_
        refine op_move rfl rfl ?_
        refine ops_guard_yes rfl rfl rfl ?_
        refine op_move rfl rfl ?_
        refine ops_guard_yes rfl rfl rfl ?_
        ((first | (apply op_invE 91 85; (· infer_instance); (· infer_instance); (· exact rfl)) | (apply op_inv0E 91 85; (· infer_instance); (· infer_instance))); (· exact rfl); (· exact rfl); rotate_left 1; (· exact fun w hG hw => D.less w dk _ _ x a hdk (by omega) (by omega) (by omega) (by omega) hw); rotate_right 1; (· (repeat (first | exact Picks.nil | (apply Picks.cons; (· (repeat (first | exact Pick.here | apply Pick.there)))) | apply Picks.empty))))
        intro _ _
        cases hlt : lt dk[x]! dk[a]! with
        | true =>
          rw [scanUp_yes hxj2 (by simp [hlt])] at hUx
          refine op_pick_t rfl rfl rfl ?_
          refine ops_nil ?_
          refine fin_code ?_
          refine run_cond_t rfl ?_
          refine run_skip ?_
          refine fin_code ?_
          refine run_block ?_
          refine run_region rfl ?_
          refine op_move rfl rfl ?_
          refine op_add rfl rfl rfl (by simp only [kLo, kHi]; omega) ?_
          refine op_assign rfl rfl ?_
          refine ops_nil ?_
          refine fin_block ?_
          refine fin_round (x + 1) (by omega) (by (repeat (first | exact Sub.nil _ | (refine Sub.cons rfl ?_)))) (by (apply le_of_picks; (repeat (first | exact Picks.nil | (apply Picks.cons; (· (repeat (first | exact Pick.here | apply Pick.there)))) | apply Picks.empty)))) ⟨by omega, by omega, hUx⟩
        | false =>
          rw [scanUp_no (by simp [hlt])] at hUx
          subst hUx
          refine op_pick_t rfl rfl rfl ?_
          refine ops_nil ?_
          refine fin_code ?_
          refine run_cond_f rfl ?_
          refine run_exit ?_
          refine fin_exit_code ?_
          refine fin_exit_inv ?_
          refine fin_exit_here ?_
          (apply J1)
          · (repeat (first | exact Sub.nil _ | (refine Sub.cons rfl ?_)))
          · (apply le_of_picks; (repeat (first | exact Picks.nil | (apply Picks.cons; (· (repeat (first | exact Pick.here | apply Pick.there)))) | apply Picks.empty)))
      · rw [scanUp_no (by simp; omega)] at hUx
        subst hUx
        refine run_seq ?_
        refine run_seq ?_
        refine run_region rfl ?_
        refine op_move rfl rfl ?_
        refine op_move rfl rfl ?_
        refine op_cmp_f rfl rfl rfl rfl (by first | (simp only [cmpP]; done) | (simp only [cmpP]; omega)) ?_
        refine op_move rfl rfl ?_
        refine ops_off1 rfl rfl ?_
        refine ops_off1 rfl rfl ?_
        refine ops_off1 rfl rfl ?_
        refine ops_off1 rfl rfl ?_
        refine op_pick_f rfl rfl rfl ?_
        refine ops_nil ?_
        refine fin_code ?_
        refine run_cond_f rfl ?_
        refine run_exit ?_
        refine fin_exit_code ?_
        refine fin_exit_inv ?_
        refine fin_exit_here ?_
        (apply J1)
        · (repeat (first | exact Sub.nil _ | (refine Sub.cons rfl ?_)))
        · (apply le_of_picks; (repeat (first | exact Picks.nil | (apply Picks.cons; (· (repeat (first | exact Pick.here | apply Pick.there)))) | apply Picks.empty)))
    rintro ⟨⟩ _
    generalize hV : Sort.scanDown (fun x => !lt x dk[a]!) dk u (j) = v at *
    have hvge := scanDown_ge (fun x => !lt x dk[a]!) dk u (j)
    have hvle := scanDown_le (fun x => !lt x dk[a]!) dk u (j)
    rw [hV] at hvge hvle
    refine fin_code ?_
    refine run_seq ?_
    refine run_block ?_
    refine run_join1 (α := Unit) (fun _ => [(0, .iface 91 rv), (1, .int .i64 a), (10, .int .i64 (u : Nat)), (11, .int .i64 (v : Nat))]) (fun _ => [L dk]) (fun _ => True) ?_ ?_
    rotate_left 1
    · intro J
      have J1 := J () trivial
      refine run_loop (α := Nat) (fun x => [(0, .iface 91 rv), (1, .int .i64 a), (10, .int .i64 (u : Nat)), (11, .int .i64 (x : Nat))]) (fun _ => [L dk])
        (fun x => x ≤ j ∧ Sort.scanDown (fun x => !lt x dk[a]!) dk u x = v) (fun x => x) (j) ⟨Nat.le_refl _, hV⟩ (by (repeat (first | exact Sub.nil _ | (refine Sub.cons rfl ?_)))) (by (apply le_of_picks; (repeat (first | exact Picks.nil | (apply Picks.cons; (· (repeat (first | exact Pick.here | apply Pick.there)))) | apply Picks.empty)))) ?_
      rintro x ⟨hxj, hVx⟩
      by_cases hxj2 : u ≤ x
      · refine run_seq ?_
        refine run_seq ?_
        refine run_region rfl ?_
        refine op_move rfl rfl ?_
        refine op_move rfl rfl ?_
        refine op_cmp_t rfl rfl rfl rfl (by first | (simp only [cmpP]; done) | (simp only [cmpP]; omega)) ?_
        refine op_move rfl rfl ?_
        refine ops_guard_yes rfl rfl rfl ?_
        refine op_move rfl rfl ?_
        refine ops_guard_yes rfl rfl rfl ?_
        refine op_move rfl rfl ?_
        refine ops_guard_yes rfl rfl rfl ?_
        refine op_move rfl rfl ?_
        refine ops_guard_yes rfl rfl rfl ?_
        ((first | (apply op_invE 91 85; (· infer_instance); (· infer_instance); (· exact rfl)) | (apply op_inv0E 91 85; (· infer_instance); (· infer_instance))); (· exact rfl); (· exact rfl); rotate_left 1; (· exact fun w hG hw => D.less w dk _ _ x a hdk (by omega) (by omega) (by omega) (by omega) hw); rotate_right 1; (· (repeat (first | exact Picks.nil | (apply Picks.cons; (· (repeat (first | exact Pick.here | apply Pick.there)))) | apply Picks.empty))))
        intro _ _
        cases hlt : lt dk[x]! dk[a]! with
        | false =>
          obtain ⟨x', rfl⟩ : ∃ x', x = x' + 1 := ⟨x - 1, by omega⟩
          rw [scanDown_yes hxj2 (by simp [hlt])] at hVx
          refine ops_guard_yes rfl rfl rfl ?_
          refine op_not rfl rfl ?_
          refine op_pick_t rfl rfl rfl ?_
          refine ops_nil ?_
          refine fin_code ?_
          refine run_cond_t rfl ?_
          refine run_skip ?_
          refine fin_code ?_
          refine run_block ?_
          refine run_region rfl ?_
          refine op_move rfl rfl ?_
          refine op_sub rfl rfl rfl (by simp only [kLo, kHi]; omega) ?_
          refine op_assign rfl rfl ?_
          refine ops_nil ?_
          refine fin_block ?_
          refine fin_round x' (by omega) (by rw [show ((x' : Nat) : Int) = ((x' + 1 : Nat) : Int) - 1 by omega]; (repeat (first | exact Sub.nil _ | (refine Sub.cons rfl ?_)))) (by (apply le_of_picks; (repeat (first | exact Picks.nil | (apply Picks.cons; (· (repeat (first | exact Pick.here | apply Pick.there)))) | apply Picks.empty)))) ⟨by omega, hVx⟩
        | true =>
          rw [scanDown_no (by omega) (by simp [hlt])] at hVx
          subst hVx
          refine ops_guard_yes rfl rfl rfl ?_
          refine op_not rfl rfl ?_
          refine op_pick_t rfl rfl rfl ?_
          refine ops_nil ?_
          refine fin_code ?_
          refine run_cond_f rfl ?_
          refine run_exit ?_
          refine fin_exit_code ?_
          refine fin_exit_inv ?_
          refine fin_exit_here ?_
          (apply J1)
          · (repeat (first | exact Sub.nil _ | (refine Sub.cons rfl ?_)))
          · (apply le_of_picks; (repeat (first | exact Picks.nil | (apply Picks.cons; (· (repeat (first | exact Pick.here | apply Pick.there)))) | apply Picks.empty)))
      · rw [scanDown_no (by omega) (by simp; omega)] at hVx
        subst hVx
        refine run_seq ?_
        refine run_seq ?_
        refine run_region rfl ?_
        refine op_move rfl rfl ?_
        refine op_move rfl rfl ?_
        refine op_cmp_f rfl rfl rfl rfl (by first | (simp only [cmpP]; done) | (simp only [cmpP]; omega)) ?_
        refine op_move rfl rfl ?_
        refine ops_off1 rfl rfl ?_
        refine ops_off1 rfl rfl ?_
        refine ops_off1 rfl rfl ?_
        refine ops_off1 rfl rfl ?_
        refine ops_off1 rfl rfl ?_
        refine op_pick_f rfl rfl rfl ?_
        refine ops_nil ?_
        refine fin_code ?_
        refine run_cond_f rfl ?_
        refine run_exit ?_
        refine fin_exit_code ?_
        refine fin_exit_inv ?_
        refine fin_exit_here ?_
        (apply J1)
        · (repeat (first | exact Sub.nil _ | (refine Sub.cons rfl ?_)))
        · (apply le_of_picks; (repeat (first | exact Picks.nil | (apply Picks.cons; (· (repeat (first | exact Pick.here | apply Pick.there)))) | apply Picks.empty)))
    rintro ⟨⟩ _
    by_cases huv : u > v
    · rw [if_pos huv] at hFk
      have J1 := J0 (v, dk) ⟨hFk, by dsimp only; omega, hdk⟩
      refine fin_code ?_
      refine run_seq ?_
      refine run_seq ?_
      refine run_region rfl ?_
      refine op_move rfl rfl ?_
      refine op_move rfl rfl ?_
      refine op_cmp_t rfl rfl rfl rfl (by first | (simp only [cmpP]; done) | (simp only [cmpP]; omega)) ?_
      refine ops_nil ?_
      refine fin_code ?_
      refine run_cond_t rfl ?_
      refine run_exit ?_
      refine fin_exit_code ?_
      refine fin_exit_past rfl ?_
      refine fin_exit_inv ?_
      refine fin_exit_here ?_
      (apply J1)
      · (repeat (first | exact Sub.nil _ | (refine Sub.cons rfl ?_)))
      · (apply le_of_picks; (repeat (first | exact Picks.nil | (apply Picks.cons; (· (repeat (first | exact Pick.here | apply Pick.there)))) | apply Picks.empty)))
    · rw [if_neg huv] at hFk
      refine fin_code ?_
      refine run_seq ?_
      refine run_seq ?_
      refine run_region rfl ?_
      refine op_move rfl rfl ?_
      refine op_move rfl rfl ?_
      refine op_cmp_f rfl rfl rfl rfl (by first | (simp only [cmpP]; done) | (simp only [cmpP]; omega)) ?_
      refine ops_nil ?_
      refine fin_code ?_
      refine run_cond_f rfl ?_
      refine run_skip ?_
      refine fin_code ?_
      refine run_seq ?_
      refine run_region rfl ?_
      refine op_move rfl rfl ?_
      refine op_move rfl rfl ?_
      refine op_move rfl rfl ?_
      ((first | (apply op_invE 91 86; (· infer_instance); (· infer_instance); (· exact rfl)) | (apply op_inv0E 91 86; (· infer_instance); (· infer_instance))); (· exact rfl); (· exact rfl); rotate_left 1; (· exact fun w hG hw => D.swap w dk _ _ u v hdk (by omega) (by omega) (by omega) (by omega) hw); rotate_right 1; (· (repeat (first | exact Picks.nil | (apply Picks.cons; (· (repeat (first | exact Pick.here | apply Pick.there)))) | apply Picks.empty))))
      intro _ _
      refine ops_nil ?_
      refine fin_code ?_
      refine run_seq ?_
      refine run_region rfl ?_
      refine op_move rfl rfl ?_
      refine op_add rfl rfl rfl (by simp only [kLo, kHi]; omega) ?_
      refine op_assign rfl rfl ?_
      refine ops_nil ?_
      refine fin_code ?_
      refine run_region rfl ?_
      refine op_move rfl rfl ?_
      refine op_sub rfl rfl rfl (by simp only [kLo, kHi]; omega) ?_
      refine op_assign rfl rfl ?_
      refine ops_nil ?_
      refine fin_block ?_
      refine fin_round (u + 1, v - 1, Sort.swp dk u v) (by dsimp only; omega) (by rw [show ((v - 1 : Nat) : Int) = (v : Int) - 1 by omega]; (repeat (first | exact Sub.nil _ | (refine Sub.cons rfl ?_)))) (by (apply le_of_picks; (repeat (first | exact Picks.nil | (apply Picks.cons; (· (repeat (first | exact Pick.here | apply Pick.there)))) | apply Picks.empty)))) ⟨by dsimp only; omega, by dsimp only; omega, by dsimp only; omega, by dsimp only; rw [swp_size', hdk], hFk⟩
  rintro ⟨p, dp⟩ ⟨rfl, hpn', hdp⟩
  dsimp only at hpn' hdp hR ⊢
  refine fin_code ?_
  refine run_seq ?_
  refine run_region rfl ?_
  refine op_move rfl rfl ?_
  refine op_move rfl rfl ?_
  refine op_move rfl rfl ?_
  ((first | (apply op_invE 91 86; (· infer_instance); (· infer_instance); (· exact rfl)) | (apply op_inv0E 91 86; (· infer_instance); (· infer_instance))); (· exact rfl); (· exact rfl); rotate_left 1; (· exact fun w hG hw => D.swap w dp _ _ p a hdp (by omega) (by omega) (by omega) (by omega) hw); rotate_right 1; (· (repeat (first | exact Picks.nil | (apply Picks.cons; (· (repeat (first | exact Pick.here | apply Pick.there)))) | apply Picks.empty))))
  intro _ _
  refine ops_nil ?_
  refine fin_code ?_
  refine run_seq ?_
  refine run_region rfl ?_
  refine op_move rfl rfl ?_
  refine op_assign rfl rfl ?_
  refine op_assign rfl rfl ?_
  refine ops_nil ?_
  refine fin_code ?_
  refine run_ret ?_
  refine fin_ret2 rfl rfl rfl ?_
  intro w' g
  exact hR _ _ (post_of g () trivial rfl (by (apply le_of_picks; (repeat (first | exact Picks.nil | (apply Picks.cons; (· (repeat (first | exact Pick.here | apply Pick.there)))) | apply Picks.empty)))))
end
end Go.Proofs.Eng
