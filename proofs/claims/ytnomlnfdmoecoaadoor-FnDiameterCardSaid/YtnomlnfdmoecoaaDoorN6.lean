/- A part of the proof: what functions of the program do, step by step. -/
import Derived.Test.YtnomlnfdmoecoaaDoorN5
set_option linter.unusedVariables false
set_option linter.unusedSimpArgs false
namespace Go.Proofs.Eng
open Go.RowKit
section
variable {α : Type} [Inhabited α] {L : Array α → Hp} {rv : Value} {n : Nat} {lt : α → α → Bool}
theorem scanUp_yes {p : α → Bool} {d : Array α} {j i : Nat} (h : i ≤ j) (hp : p d[i]! = true) : Sort.scanUp p d j i = Sort.scanUp p d j (i + 1) := by
  rw [Sort.scanUp, if_pos (by simp [h, hp])]
theorem scanUp_no {p : α → Bool} {d : Array α} {j i : Nat} (h : ¬ (i ≤ j ∧ p d[i]! = true)) : Sort.scanUp p d j i = i := by
  rw [Sort.scanUp, if_neg (by simpa using h)]
theorem scanDown_yes {p : α → Bool} {d : Array α} {j i : Nat} (h : i ≤ j + 1) (hp : p d[j + 1]! = true) : Sort.scanDown p d i (j + 1) = Sort.scanDown p d i j := by
  rw [Sort.scanDown, if_pos (by simp [h, hp])]
theorem scanDown_no {p : α → Bool} {d : Array α} {j i : Nat} (hi : 1 ≤ i) (h : ¬ (i ≤ j ∧ p d[j]! = true)) : Sort.scanDown p d i j = j := by
  cases j with
  | zero => rfl
  | succ j => rw [Sort.scanDown, if_neg (by simpa using h)]
theorem partLoop_eq (lt : α → α → Bool) (a i j : Nat) (d : Array α) : Sort.partLoop lt a i j d =
    (if Sort.scanUp (fun x => lt x d[a]!) d j i > Sort.scanDown (fun x => !lt x d[a]!) d (Sort.scanUp (fun x => lt x d[a]!) d j i) j then (Sort.scanDown (fun x => !lt x d[a]!) d (Sort.scanUp (fun x => lt x d[a]!) d j i) j, d)
     else Sort.partLoop lt a (Sort.scanUp (fun x => lt x d[a]!) d j i + 1) (Sort.scanDown (fun x => !lt x d[a]!) d (Sort.scanUp (fun x => lt x d[a]!) d j i) j - 1) (Sort.swp d (Sort.scanUp (fun x => lt x d[a]!) d j i) (Sort.scanDown (fun x => !lt x d[a]!) d (Sort.scanUp (fun x => lt x d[a]!) d j i) j))) := by
  rw [Sort.partLoop]
  have h1 := scanUp_ge (fun x => lt x d[a]!) d j (j + 1 - i) i (Nat.le_refl _)
  have h2 := scanDown_le (fun x => !lt x d[a]!) d (Sort.scanUp (fun x => lt x d[a]!) d j i) j
  split
  · rfl
  · rw [dif_pos (by omega)]
theorem partEqLoop_eq (lt : α → α → Bool) (a i j : Nat) (d : Array α) : Sort.partEqLoop lt a i j d =
    (if Sort.scanUp (fun x => !lt d[a]! x) d j i > Sort.scanDown (fun x => lt d[a]! x) d (Sort.scanUp (fun x => !lt d[a]! x) d j i) j then (Sort.scanUp (fun x => !lt d[a]! x) d j i, d)
     else Sort.partEqLoop lt a (Sort.scanUp (fun x => !lt d[a]! x) d j i + 1) (Sort.scanDown (fun x => lt d[a]! x) d (Sort.scanUp (fun x => !lt d[a]! x) d j i) j - 1) (Sort.swp d (Sort.scanUp (fun x => !lt d[a]! x) d j i) (Sort.scanDown (fun x => lt d[a]! x) d (Sort.scanUp (fun x => !lt d[a]! x) d j i) j))) := by
  rw [Sort.partEqLoop]
  have h1 := scanUp_ge (fun x => !lt d[a]! x) d j (j + 1 - i) i (Nat.le_refl _)
  have h2 := scanDown_le (fun x => lt d[a]! x) d (Sort.scanUp (fun x => !lt d[a]! x) d j i) j
  split
  · rfl
  · rw [dif_pos (by omega)]
set_option maxRecDepth 100000 in
set_option maxHeartbeats 16000000 in
theorem partEq_any (D : SD L rv n lt) (w : World) (d : Array α) (A B P : Int) (a b pv : Nat) (hd : d.size = n) (hA : A = a) (hB : B = b) (hP : P = pv) (hab : a + 1 < b) (hbn : b ≤ n) (hpn : pv < n) (hw : At w ([L d] : List Hp).flatten) :
    Calls Tryd.prog 55 #[.iface 91 rv, .int .i64 A, .int .i64 B, .int .i64 P] w (Post w ([L d] : List Hp).flatten (fun _ : Unit => .int .i64 (Sort.partitionEqual lt d a b pv).1) (fun _ => ([L (Sort.partitionEqual lt d a b pv).2] : List Hp).flatten) (fun _ => True)) := by
  subst hA hB hP
  have hfew := D.few
  refine enter [L d] Tryd.func55 rfl rfl hw (Le.refl _) ?_
  intro R hR
  unfold Sort.partitionEqual at hR
  generalize hF : Sort.partEqLoop lt a (a + 1) (b - 1) (Sort.swp d a pv) = F at hR
  refine run_seq ?_
  refine run_region rfl ?_
  refine op_assign rfl rfl ?_
  refine ops_nil ?_
  refine fin_code ?_
  refine run_seq ?_
  refine run_region rfl ?_
  refine op_move rfl rfl ?_
  refine op_move rfl rfl ?_
  refine op_move rfl rfl ?_
  ((first | (apply op_invE 91 86; (· infer_instance); (· infer_instance); (· exact rfl)) | (apply op_inv0E 91 86; (· infer_instance); (· infer_instance))); (· exact rfl); (· exact rfl); rotate_left 1; (· exact fun w hG hw => D.swap w d _ _ a pv hd (by omega) (by omega) (by omega) (by omega) hw); rotate_right 1; (· (repeat (first | exact Picks.nil | (apply Picks.cons; (· (repeat (first | exact Pick.here | apply Pick.there)))) | apply Picks.empty))))
  intro _ _
  refine ops_nil ?_
  refine fin_code ?_
  refine run_seq ?_
  refine run_region rfl ?_
  refine op_move rfl rfl ?_
  refine op_add rfl rfl rfl (by simp only [kLo, kHi]; omega) ?_
  refine op_move rfl rfl ?_
  refine op_sub rfl rfl rfl (by simp only [kLo, kHi]; omega) ?_
  refine op_assign rfl rfl ?_
  refine op_assign rfl rfl ?_
  refine ops_nil ?_
  refine fin_code ?_
  refine run_seq ?_
  refine run_block ?_
  refine run_loop (α := Nat × Nat × Array α) (fun x => [(0, .iface 91 rv), (1, .int .i64 a), (9, .int .i64 (x.1 : Nat)), (10, .int .i64 (x.2.1 : Nat))]) (fun x => [L x.2.2])
    (fun x => a < x.1 ∧ x.1 ≤ x.2.1 + 2 ∧ x.2.1 < n ∧ x.2.2.size = n ∧ Sort.partEqLoop lt a x.1 x.2.1 x.2.2 = F) (fun x => x.2.1 + 2 - x.1)
    (a + 1, b - 1, Sort.swp d a pv) ⟨by dsimp only; omega, by dsimp only; omega, by dsimp only; omega, by rw [swp_size', hd], hF⟩ (by rw [show ((b - 1 : Nat) : Int) = (b : Int) - 1 by omega]; (repeat (first | exact Sub.nil _ | (refine Sub.cons rfl ?_)))) (by (apply le_of_picks; (repeat (first | exact Picks.nil | (apply Picks.cons; (· (repeat (first | exact Pick.here | apply Pick.there)))) | apply Picks.empty)))) ?_
  rintro ⟨i, j, dk⟩ ⟨hai, hij, hjn, hdk, hFk⟩
  dsimp only at hai hij hjn hdk hFk ⊢
  rw [partEqLoop_eq] at hFk
  have hu := scanUp_ge (fun x => !lt dk[a]! x) dk j (j + 1 - i) i (Nat.le_refl _)
  have hdn := scanDown_le (fun x => lt dk[a]! x) dk (Sort.scanUp (fun x => !lt dk[a]! x) dk j i) j
  generalize hU : Sort.scanUp (fun x => !lt dk[a]! x) dk j i = u at *
  refine run_block ?_
  refine run_seq ?_
  refine run_block ?_
  refine run_join1 (α := Unit) (fun _ => [(0, .iface 91 rv), (1, .int .i64 a), (9, .int .i64 (u : Nat)), (10, .int .i64 (j : Nat))]) (fun _ => [L dk]) (fun _ => True) ?_ ?_
  rotate_left 1
  · intro J
    have J1 := J () trivial
    refine run_loop (α := Nat) (fun x => [(0, .iface 91 rv), (1, .int .i64 a), (9, .int .i64 (x : Nat)), (10, .int .i64 (j : Nat))]) (fun _ => [L dk])
      (fun x => i ≤ x ∧ x ≤ j + 2 ∧ Sort.scanUp (fun x => !lt dk[a]! x) dk j x = u) (fun x => j + 2 - x) i ⟨Nat.le_refl _, hij, hU⟩ (by (repeat (first | exact Sub.nil _ | (refine Sub.cons rfl ?_)))) (by (apply le_of_picks; (repeat (first | exact Picks.nil | (apply Picks.cons; (· (repeat (first | exact Pick.here | apply Pick.there)))) | apply Picks.empty)))) ?_
    rintro x ⟨hix, hxj, hUx⟩
    by_cases hxj2 : x ≤ j
    · refine run_seq ?_
      refine run_seq ?_
      refine run_region rfl ?_
      refine op_move rfl rfl ?_
      refine op_move rfl rfl ?_
      refine op_cmp_t rfl rfl rfl rfl (by first | (simp only [cmpP]; done) | (simp only [cmpP]; omega)) ?_
      refine op_move rfl rfl ?_
      refine ops_guard_yes rfl rfl rfl ?_
      refine op_move rfl rfl ?_
      refine ops_guard_yes rfl rfl rfl ?_
      refine op_move rfl rfl ?_
      refine ops_guard_yes rfl rfl rfl ?_
      refine op_move rfl rfl ?_
      refine ops_guard_yes rfl rfl rfl ?_
      ((first | (apply op_invE 91 85; (· infer_instance); (· infer_instance); (· exact rfl)) | (apply op_inv0E 91 85; (· infer_instance); (· infer_instance))); (· exact rfl); (· exact rfl); rotate_left 1; (· exact fun w hG hw => D.less w dk _ _ a x hdk (by omega) (by omega) (by omega) (by omega) hw); rotate_right 1; (· (repeat (first | exact Picks.nil | (apply Picks.cons; (· (repeat (first | exact Pick.here | apply Pick.there)))) | apply Picks.empty))))
      intro _ _
      cases hlt : lt dk[a]! dk[x]! with
      | false =>
        rw [scanUp_yes hxj2 (by simp [hlt])] at hUx
        refine ops_guard_yes rfl rfl rfl ?_
        refine op_not rfl rfl ?_
        refine op_pick_t rfl rfl rfl ?_
        refine ops_nil ?_
        refine fin_code ?_
        refine run_cond_t rfl ?_
        refine run_skip ?_
        refine fin_code ?_
        refine run_block ?_
        refine run_region rfl ?_
        refine op_move rfl rfl ?_
        refine op_add rfl rfl rfl (by simp only [kLo, kHi]; omega) ?_
        refine op_assign rfl rfl ?_
        refine ops_nil ?_
        refine fin_block ?_
        refine fin_round (x + 1) (by omega) (by (repeat (first | exact Sub.nil _ | (refine Sub.cons rfl ?_)))) (by (apply le_of_picks; (repeat (first | exact Picks.nil | (apply Picks.cons; (· (repeat (first | exact Pick.here | apply Pick.there)))) | apply Picks.empty)))) ⟨by omega, by omega, hUx⟩
      | true =>
        rw [scanUp_no (by simp [hlt])] at hUx
        subst hUx
        refine ops_guard_yes rfl rfl rfl ?_
        refine op_not rfl rfl ?_
        refine op_pick_t rfl rfl rfl ?_
        refine ops_nil ?_
        refine fin_code ?_
        refine run_cond_f rfl ?_
        refine run_exit ?_
        refine fin_exit_code ?_
        refine fin_exit_inv ?_
        refine fin_exit_here ?_
        (apply J1)
        · (repeat (first | exact Sub.nil _ | (refine Sub.cons rfl ?_)))
        · (apply le_of_picks; (repeat (first | exact Picks.nil | (apply Picks.cons; (· (repeat (first | exact Pick.here | apply Pick.there)))) | apply Picks.empty)))
    · rw [scanUp_no (by simp; omega)] at hUx
      subst hUx
      refine run_seq ?_
      refine run_seq ?_
      refine run_region rfl ?_
      refine op_move rfl rfl ?_
      refine op_move rfl rfl ?_
      refine op_cmp_f rfl rfl rfl rfl (by first | (simp only [cmpP]; done) | (simp only [cmpP]; omega)) ?_
      refine op_move rfl rfl ?_
      refine ops_off1 rfl rfl ?_
      refine ops_off1 rfl rfl ?_
      refine ops_off1 rfl rfl ?_
      refine ops_off1 rfl rfl ?_
      refine ops_off1 rfl rfl ?_
      refine op_pick_f rfl rfl rfl ?_
      refine ops_nil ?_
      refine fin_code ?_
      refine run_cond_f rfl ?_
      refine run_exit ?_
      refine fin_exit_code ?_
      refine fin_exit_inv ?_
      refine fin_exit_here ?_
      (apply J1)
      · (repeat (first | exact Sub.nil _ | (refine Sub.cons rfl ?_)))
      · (apply le_of_picks; (repeat (first | exact Picks.nil | (apply Picks.cons; (· (repeat (first | exact Pick.here | apply Pick.there)))) | apply Picks.empty)))
  rintro ⟨⟩ _
  generalize hV : Sort.scanDown (fun x => lt dk[a]! x) dk u j = v at *
  have hvge := scanDown_ge (fun x => lt dk[a]! x) dk u j
  rw [hV] at hvge
  refine fin_code ?_
  refine run_seq ?_
  refine run_block ?_
  refine run_join1 (α := Unit) (fun _ => [(0, .iface 91 rv), (1, .int .i64 a), (9, .int .i64 (u : Nat)), (10, .int .i64 (v : Nat))]) (fun _ => [L dk]) (fun _ => True) ?_ ?_
  rotate_left 1
  · intro J
    have J1 := J () trivial
    refine run_loop (α := Nat) (fun x => [(0, .iface 91 rv), (1, .int .i64 a), (9, .int .i64 (u : Nat)), (10, .int .i64 (x : Nat))]) (fun _ => [L dk])
      (fun x => x ≤ j ∧ Sort.scanDown (fun x => lt dk[a]! x) dk u x = v) (fun x => x) j ⟨Nat.le_refl _, hV⟩ (by (repeat (first | exact Sub.nil _ | (refine Sub.cons rfl ?_)))) (by (apply le_of_picks; (repeat (first | exact Picks.nil | (apply Picks.cons; (· (repeat (first | exact Pick.here | apply Pick.there)))) | apply Picks.empty)))) ?_
    rintro x ⟨hxj, hVx⟩
    by_cases hxj2 : u ≤ x
    · refine run_seq ?_
      refine run_seq ?_
      refine run_region rfl ?_
      refine op_move rfl rfl ?_
      refine op_move rfl rfl ?_
      refine op_cmp_t rfl rfl rfl rfl (by first | (simp only [cmpP]; done) | (simp only [cmpP]; omega)) ?_
      refine op_move rfl rfl ?_
      refine ops_guard_yes rfl rfl rfl ?_
      refine op_move rfl rfl ?_
      refine ops_guard_yes rfl rfl rfl ?_
      refine op_move rfl rfl ?_
      refine ops_guard_yes rfl rfl rfl ?_
      refine op_move rfl rfl ?_
      refine ops_guard_yes rfl rfl rfl ?_
      ((first | (apply op_invE 91 85; (· infer_instance); (· infer_instance); (· exact rfl)) | (apply op_inv0E 91 85; (· infer_instance); (· infer_instance))); (· exact rfl); (· exact rfl); rotate_left 1; (· exact fun w hG hw => D.less w dk _ _ a x hdk (by omega) (by omega) (by omega) (by omega) hw); rotate_right 1; (· (repeat (first | exact Picks.nil | (apply Picks.cons; (· (repeat (first | exact Pick.here | apply Pick.there)))) | apply Picks.empty))))
      intro _ _
      cases hlt : lt dk[a]! dk[x]! with
      | true =>
        obtain ⟨x', rfl⟩ : ∃ x', x = x' + 1 := ⟨x - 1, by omega⟩
        rw [scanDown_yes hxj2 (by simp [hlt])] at hVx
        refine op_pick_t rfl rfl rfl ?_
        refine ops_nil ?_
        refine fin_code ?_
        refine run_cond_t rfl ?_
        refine run_skip ?_
        refine fin_code ?_
        refine run_block ?_
        refine run_region rfl ?_
        refine op_move rfl rfl ?_
        refine op_sub rfl rfl rfl (by simp only [kLo, kHi]; omega) ?_
        refine op_assign rfl rfl ?_
        refine ops_nil ?_
        refine fin_block ?_
        refine fin_round x' (by omega) (by rw [show ((x' : Nat) : Int) = ((x' + 1 : Nat) : Int) - 1 by omega]; (repeat (first | exact Sub.nil _ | (refine Sub.cons rfl ?_)))) (by (apply le_of_picks; (repeat (first | exact Picks.nil | (apply Picks.cons; (· (repeat (first | exact Pick.here | apply Pick.there)))) | apply Picks.empty)))) ⟨by omega, hVx⟩
      | false =>
        rw [scanDown_no (by omega) (by simp [hlt])] at hVx
        subst hVx
        refine op_pick_t rfl rfl rfl ?_
        refine ops_nil ?_
        refine fin_code ?_
        refine run_cond_f rfl ?_
        refine run_exit ?_
        refine fin_exit_code ?_
        refine fin_exit_inv ?_
        refine fin_exit_here ?_
        (apply J1)
        · (repeat (first | exact Sub.nil _ | (refine Sub.cons rfl ?_)))
        · (apply le_of_picks; (repeat (first | exact Picks.nil | (apply Picks.cons; (· (repeat (first | exact Pick.here | apply Pick.there)))) | apply Picks.empty)))
    · rw [scanDown_no (by omega) (by simp; omega)] at hVx
      subst hVx
      refine run_seq ?_
      refine run_seq ?_
      refine run_region rfl ?_
      refine op_move rfl rfl ?_
      refine op_move rfl rfl ?_
      refine op_cmp_f rfl rfl rfl rfl (by first | (simp only [cmpP]; done) | (simp only [cmpP]; omega)) ?_
      refine op_move rfl rfl ?_
      refine ops_off1 rfl rfl ?_
      refine ops_off1 rfl rfl ?_
      refine ops_off1 rfl rfl ?_
      refine ops_off1 rfl rfl ?_
      refine op_pick_f rfl rfl rfl ?_
      refine ops_nil ?_
      refine fin_code ?_
      refine run_cond_f rfl ?_
      refine run_exit ?_
      refine fin_exit_code ?_
      refine fin_exit_inv ?_
      refine fin_exit_here ?_
      (apply J1)
      · (repeat (first | exact Sub.nil _ | (refine Sub.cons rfl ?_)))
      · (apply le_of_picks; (repeat (first | exact Picks.nil | (apply Picks.cons; (· (repeat (first | exact Pick.here | apply Pick.there)))) | apply Picks.empty)))
  rintro ⟨⟩ _
  by_cases huv : u > v
  · rw [if_pos huv] at hFk
    subst hFk
    refine fin_code ?_
    refine run_seq ?_
    refine run_seq ?_
    refine run_region rfl ?_
    refine op_move rfl rfl ?_
    refine op_move rfl rfl ?_
    refine op_cmp_t rfl rfl rfl rfl (by first | (simp only [cmpP]; done) | (simp only [cmpP]; omega)) ?_
    refine ops_nil ?_
    refine fin_code ?_
    refine run_cond_t rfl ?_
    refine run_exit ?_
    refine fin_exit_code ?_
    refine fin_exit_past rfl ?_
    refine fin_exit_inv ?_
    refine fin_exit_here ?_
    refine fin_code ?_
    refine run_seq ?_
    refine run_region rfl ?_
    refine op_move rfl rfl ?_
    refine op_assign rfl rfl ?_
    refine ops_nil ?_
    refine fin_code ?_
    refine run_ret ?_
    refine fin_ret1 rfl rfl ?_
    intro w' g
    exact hR _ _ (post_of g () trivial rfl (by (apply le_of_picks; (repeat (first | exact Picks.nil | (apply Picks.cons; (· (repeat (first | exact Pick.here | apply Pick.there)))) | apply Picks.empty)))))
  · rw [if_neg huv] at hFk
    refine fin_code ?_
    refine run_seq ?_
    refine run_seq ?_
    refine run_region rfl ?_
    refine op_move rfl rfl ?_
    refine op_move rfl rfl ?_
    refine op_cmp_f rfl rfl rfl rfl (by first | (simp only [cmpP]; done) | (simp only [cmpP]; omega)) ?_
    refine ops_nil ?_
    refine fin_code ?_
    refine run_cond_f rfl ?_
    refine run_skip ?_
    refine fin_code ?_
    refine run_seq ?_
    refine run_region rfl ?_
    refine op_move rfl rfl ?_
    refine op_move rfl rfl ?_
    refine op_move rfl rfl ?_
    ((first | (apply op_invE 91 86; (· infer_instance); (· infer_instance); (· exact rfl)) | (apply op_inv0E 91 86; (· infer_instance); (· infer_instance))); (· exact rfl); (· exact rfl); rotate_left 1; (· exact fun w hG hw => D.swap w dk _ _ u v hdk (by omega) (by omega) (by omega) (by omega) hw); rotate_right 1; (· (repeat (first | exact Picks.nil | (apply Picks.cons; (· (repeat (first | exact Pick.here | apply Pick.there)))) | apply Picks.empty))))
    intro _ _
    refine ops_nil ?_
    refine fin_code ?_
    refine run_seq ?_
    refine run_region rfl ?_
    refine op_move rfl rfl ?_
    refine op_add rfl rfl rfl (by simp only [kLo, kHi]; omega) ?_
    refine op_assign rfl rfl ?_
    refine ops_nil ?_
    refine fin_code ?_
    refine run_region rfl ?_
    refine op_move rfl rfl ?_
    refine op_sub rfl rfl rfl (by simp only [kLo, kHi]; omega) ?_
    refine op_assign rfl rfl ?_
    refine ops_nil ?_
    refine fin_block ?_
    refine fin_round (u + 1, v - 1, Sort.swp dk u v) (by dsimp only; omega) (by rw [show ((v - 1 : Nat) : Int) = (v : Int) - 1 by omega]; (repeat (first | exact Sub.nil _ | (refine Sub.cons rfl ?_)))) (by (apply le_of_picks; (repeat (first | exact Picks.nil | (apply Picks.cons; (· (repeat (first | exact Pick.here | apply Pick.there)))) | apply Picks.empty)))) ⟨by dsimp only; omega, by dsimp only; omega, by dsimp only; omega, by dsimp only; rw [swp_size', hdk], hFk⟩
end
end Go.Proofs.Eng
