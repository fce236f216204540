/- A part of the proof: what functions of the program do, step by step. -/
import Derived.Test.YtnomlnfdmoecoaaDoorN7
import Derived.Sort.Walk13a
set_option linter.unusedVariables false
set_option linter.unusedSimpArgs false
namespace Go.Proofs.Eng
open Go.RowKit
section
variable {α : Type} [Inhabited α] {L : Array α → Hp} {rv : Value} {n : Nat} {lt : α → α → Bool}
theorem scanSorted_yes {d : Array α} {b i : Nat} (h : i < b) (hp : lt d[i]! d[i - 1]! = false) : Sort.scanSorted lt d b i = Sort.scanSorted lt d b (i + 1) := by
  rw [Sort.scanSorted, if_pos (by simp [h, hp])]
theorem scanSorted_no {d : Array α} {b i : Nat} (h : ¬ (i < b ∧ lt d[i]! d[i - 1]! = false)) : Sort.scanSorted lt d b i = i := by
  rw [Sort.scanSorted, if_neg (by simpa using h)]
theorem scanSorted_le (lt : α → α → Bool) (d : Array α) (b : Nat) : ∀ (m i : Nat), b - i ≤ m → i ≤ b → i ≤ Sort.scanSorted lt d b i ∧ Sort.scanSorted lt d b i ≤ b
  | 0, i, h, hi => by
    rw [scanSorted_no (by omega)]
    exact ⟨Nat.le_refl _, hi⟩
  | m + 1, i, h, hi => by
    by_cases hc : i < b ∧ lt d[i]! d[i - 1]! = false
    · rw [scanSorted_yes hc.1 hc.2]
      have := scanSorted_le lt d b m (i + 1) (by omega) (by omega)
      omega
    · rw [scanSorted_no hc]
      exact ⟨Nat.le_refl _, hi⟩
set_option maxRecDepth 100000 in
set_option maxHeartbeats 32000000 in
theorem pins_any (D : SD L rv n lt) (w : World) (d : Array α) (A B : Int) (a b : Nat) (hd : d.size = n) (hA : A = a) (hB : B = b) (hab : a < b) (hbn : b ≤ n) (hw : At w ([L d] : List Hp).flatten) :
    Calls Tryd.prog 54 #[.iface 91 rv, .int .i64 A, .int .i64 B] w (Post w ([L d] : List Hp).flatten (fun _ : Unit => .bool (Sort.partialInsertionSort lt d a b).2) (fun _ => ([L (Sort.partialInsertionSort lt d a b).1] : List Hp).flatten) (fun _ => True)) := by
  subst hA hB
  have hfew := D.few
  refine enter [L d] Tryd.func54 rfl rfl hw (Le.refl _) ?_
  intro R hR
  unfold Sort.partialInsertionSort at hR
  generalize hF : Sort.partialIns lt a b 5 (a + 1) d = F at hR
  refine run_seq ?_
  refine run_region rfl ?_
  refine op_assign rfl rfl ?_
  refine ops_nil ?_
  refine fin_code ?_
  refine run_seq ?_
  refine run_region rfl ?_
  refine op_move rfl rfl ?_
  refine op_add rfl rfl rfl (by simp only [kLo, kHi]; omega) ?_
  refine op_assign rfl rfl ?_
  refine ops_nil ?_
  refine fin_code ?_
  refine run_seq ?_
  refine run_seq ?_
  refine run_region rfl ?_
  refine op_assign rfl rfl ?_
  refine ops_nil ?_
  refine fin_code ?_
  refine run_block ?_
  refine run_loop (α := Nat × Nat × Nat × Array α) (fun x => [(0, .iface 91 rv), (1, .int .i64 a), (2, .int .i64 b), (7, .int .i64 (x.2.2.1 : Nat)), (8, .int .i64 (x.2.1 : Nat))]) (fun x => [L x.2.2.2])
    (fun x => x.1 + x.2.1 = 5 ∧ a < x.2.2.1 ∧ x.2.2.1 ≤ b ∧ x.2.2.2.size = n ∧ Sort.partialIns lt a b x.1 x.2.2.1 x.2.2.2 = F) (fun x => x.1)
    (5, 0, a + 1, d) ⟨rfl, by dsimp only; omega, by dsimp only; omega, hd, hF⟩ (by (repeat (first | exact Sub.nil _ | (refine Sub.cons rfl ?_)))) (by (apply le_of_picks; (repeat (first | exact Picks.nil | (apply Picks.cons; (· (repeat (first | exact Pick.here | apply Pick.there)))) | apply Picks.empty)))) ?_
  rintro ⟨s, k, i, dk⟩ ⟨hsk, hai, hib, hdk, hFk⟩
  dsimp only at hsk hai hib hdk hFk ⊢
  cases s with
  | zero =>
    have hF0 : F = (dk, false) := by rw [← hFk]; rfl
    subst hF0
    refine run_seq ?_
    refine run_seq ?_
    refine run_region rfl ?_
    refine op_move rfl rfl ?_
    refine op_cmp_f rfl rfl rfl rfl (by first | (simp only [cmpP]; done) | (simp only [cmpP]; omega)) ?_
    refine ops_nil ?_
    refine fin_code ?_
    refine run_cond_f rfl ?_
    refine run_exit ?_
    refine fin_exit_code ?_
    refine fin_exit_inv ?_
    refine fin_exit_here ?_
    refine fin_code ?_
    refine run_seq ?_
    refine run_region rfl ?_
    refine op_assign rfl rfl ?_
    refine ops_nil ?_
    refine fin_code ?_
    refine run_ret ?_
    refine fin_ret1 rfl rfl ?_
    intro w' g
    exact hR _ _ (post_of g () trivial rfl (by (apply le_of_picks; (repeat (first | exact Picks.nil | (apply Picks.cons; (· (repeat (first | exact Pick.here | apply Pick.there)))) | apply Picks.empty)))))
  | succ s =>
  rw [Sort.partialIns_succ] at hFk
  have hu := scanSorted_le lt dk b (b - i) i (Nat.le_refl _) hib
  generalize hU : Sort.scanSorted lt dk b i = u at *
  refine run_seq ?_
  refine run_seq ?_
  refine run_region rfl ?_
  refine op_move rfl rfl ?_
  refine op_cmp_t rfl rfl rfl rfl (by first | (simp only [cmpP]; done) | (simp only [cmpP]; omega)) ?_
  refine ops_nil ?_
  refine fin_code ?_
  refine run_cond_t rfl ?_
  refine run_skip ?_
  refine fin_code ?_
  refine run_seq ?_
  refine run_block ?_
  refine run_seq ?_
  refine run_block ?_
  refine run_join1 (α := Unit) (fun _ => [(0, .iface 91 rv), (1, .int .i64 a), (2, .int .i64 b), (7, .int .i64 (u : Nat)), (8, .int .i64 (k : Nat))]) (fun _ => [L dk]) (fun _ => True) ?_ ?_
  rotate_left 1
  · intro J
    have J1 := J () trivial
    refine run_loop (α := Nat) (fun x => [(0, .iface 91 rv), (1, .int .i64 a), (2, .int .i64 b), (7, .int .i64 (x : Nat)), (8, .int .i64 (k : Nat))]) (fun _ => [L dk])
      (fun x => i ≤ x ∧ x ≤ b ∧ Sort.scanSorted lt dk b x = u) (fun x => b - x) i ⟨Nat.le_refl _, hib, hU⟩ (by (repeat (first | exact Sub.nil _ | (refine Sub.cons rfl ?_)))) (by (apply le_of_picks; (repeat (first | exact Picks.nil | (apply Picks.cons; (· (repeat (first | exact Pick.here | apply Pick.there)))) | apply Picks.empty)))) ?_
    rintro x ⟨hix, hxb, hUx⟩
    by_cases hxb2 : x < b
    · refine run_seq ?_
      refine run_seq ?_
      refine run_region rfl ?_
      refine op_move rfl rfl ?_
      refine op_move rfl rfl ?_
      refine op_cmp_t rfl rfl rfl rfl (by first | (simp only [cmpP]; done) | (simp only [cmpP]; omega)) ?_
      refine op_move rfl rfl ?_
      refine ops_guard_yes rfl rfl rfl ?_
      refine op_move rfl rfl ?_
      refine ops_guard_yes rfl rfl rfl ?_
      refine op_move rfl rfl ?_
      refine ops_guard_yes rfl rfl rfl ?_
      refine op_move rfl rfl ?_
      refine ops_guard_yes rfl rfl rfl ?_
      refine op_sub rfl rfl rfl (by simp only [kLo, kHi]; omega) ?_
      refine ops_guard_yes rfl rfl rfl ?_
      ((first | (apply op_invE 91 85; (· infer_instance); (· infer_instance); (· exact rfl)) | (apply op_inv0E 91 85; (· infer_instance); (· infer_instance))); (· exact rfl); (· exact rfl); rotate_left 1; (· exact fun w hG hw => D.less w dk _ _ x (x - 1) hdk (by omega) (by omega) (by omega) (by omega) hw); rotate_right 1; (· (repeat (first | exact Picks.nil | (apply Picks.cons; (· (repeat (first | exact Pick.here | apply Pick.there)))) | apply Picks.empty))))
      intro _ _
      cases hlt : lt dk[x]! dk[x - 1]! with
      | false =>
        rw [scanSorted_yes hxb2 hlt] at hUx
        refine ops_guard_yes rfl rfl rfl ?_
        refine op_not rfl rfl ?_
        refine op_pick_t rfl rfl rfl ?_
        refine ops_nil ?_
        refine fin_code ?_
        refine run_cond_t rfl ?_
        refine run_skip ?_
        refine fin_code ?_
        refine run_block ?_
        refine run_region rfl ?_
        refine op_move rfl rfl ?_
        refine op_add rfl rfl rfl (by simp only [kLo, kHi]; omega) ?_
        refine op_assign rfl rfl ?_
        refine ops_nil ?_
        refine fin_block ?_
        refine fin_round (x + 1) (by omega) (by (repeat (first | exact Sub.nil _ | (refine Sub.cons rfl ?_)))) (by (apply le_of_picks; (repeat (first | exact Picks.nil | (apply Picks.cons; (· (repeat (first | exact Pick.here | apply Pick.there)))) | apply Picks.empty)))) ⟨by omega, by omega, hUx⟩
      | true =>
        rw [scanSorted_no (by simp [hlt])] at hUx
        subst hUx
        refine ops_guard_yes rfl rfl rfl ?_
        refine op_not rfl rfl ?_
        refine op_pick_t rfl rfl rfl ?_
        refine ops_nil ?_
        refine fin_code ?_
        refine run_cond_f rfl ?_
        refine run_exit ?_
        refine fin_exit_code ?_
        refine fin_exit_inv ?_
        refine fin_exit_here ?_
        (apply J1)
        · (repeat (first | exact Sub.nil _ | (refine Sub.cons rfl ?_)))
        · (apply le_of_picks; (repeat (first | exact Picks.nil | (apply Picks.cons; (· (repeat (first | exact Pick.here | apply Pick.there)))) | apply Picks.empty)))
    · rw [scanSorted_no (by omega)] at hUx
      subst hUx
      refine run_seq ?_
      refine run_seq ?_
      refine run_region rfl ?_
      refine op_move rfl rfl ?_
      refine op_move rfl rfl ?_
      refine op_cmp_f rfl rfl rfl rfl (by first | (simp only [cmpP]; done) | (simp only [cmpP]; omega)) ?_
      refine op_move rfl rfl ?_
      refine ops_off1 rfl rfl ?_
      refine ops_off1 rfl rfl ?_
      refine ops_off1 rfl rfl ?_
      refine ops_off1 rfl rfl ?_
      refine ops_off1 rfl rfl ?_
      refine ops_off1 rfl rfl ?_
      refine op_pick_f rfl rfl rfl ?_
      refine ops_nil ?_
      refine fin_code ?_
      refine run_cond_f rfl ?_
      refine run_exit ?_
      refine fin_exit_code ?_
      refine fin_exit_inv ?_
      refine fin_exit_here ?_
      (apply J1)
      · (repeat (first | exact Sub.nil _ | (refine Sub.cons rfl ?_)))
      · (apply le_of_picks; (repeat (first | exact Picks.nil | (apply Picks.cons; (· (repeat (first | exact Pick.here | apply Pick.there)))) | apply Picks.empty)))
  rintro ⟨⟩ _
  by_cases hub : u = b
  · rw [if_pos hub] at hFk
    subst hFk
    subst hub
    refine fin_code ?_
    refine run_seq ?_
    refine run_seq ?_
    refine run_region rfl ?_
    refine op_move rfl rfl ?_
    refine op_move rfl rfl ?_
    refine op_cmp_t rfl rfl rfl rfl (by first | (simp only [cmpP]; done) | (simp only [cmpP]; omega)) ?_
    refine ops_nil ?_
    refine fin_code ?_
    refine run_cond_t rfl ?_
    refine run_seq ?_
    refine run_region rfl ?_
    refine op_assign rfl rfl ?_
    refine ops_nil ?_
    refine fin_code ?_
    refine run_ret ?_
    refine fin_ret_code ?_
    refine fin_ret_block ?_
    refine fin_ret_code ?_
    refine fin_ret_inv ?_
    refine fin_ret_block ?_
    refine fin_ret_code ?_
    refine fin_ret1 rfl rfl ?_
    intro w' g
    exact hR _ _ (post_of g () trivial rfl (by (apply le_of_picks; (repeat (first | exact Picks.nil | (apply Picks.cons; (· (repeat (first | exact Pick.here | apply Pick.there)))) | apply Picks.empty)))))
  rw [if_neg hub] at hFk
  by_cases h50 : b - a < 50
  · rw [if_pos h50] at hFk
    subst hFk
    refine fin_code ?_
    refine run_seq ?_
    refine run_seq ?_
    refine run_region rfl ?_
    refine op_move rfl rfl ?_
    refine op_move rfl rfl ?_
    refine op_cmp_f rfl rfl rfl rfl (by first | (simp only [cmpP]; done) | (simp only [cmpP]; omega)) ?_
    refine ops_nil ?_
    refine fin_code ?_
    refine run_cond_f rfl ?_
    refine run_skip ?_
    refine fin_code ?_
    refine run_seq ?_
    refine run_seq ?_
    refine run_region rfl ?_
    refine op_move rfl rfl ?_
    refine op_move rfl rfl ?_
    refine op_sub rfl rfl rfl (by simp only [kLo, kHi]; omega) ?_
    refine op_cmp_t rfl rfl rfl rfl (by first | (simp only [cmpP]; done) | (simp only [cmpP]; omega)) ?_
    refine ops_nil ?_
    refine fin_code ?_
    refine run_cond_t rfl ?_
    refine run_seq ?_
    refine run_region rfl ?_
    refine op_assign rfl rfl ?_
    refine ops_nil ?_
    refine fin_code ?_
    refine run_ret ?_
    refine fin_ret_code ?_
    refine fin_ret_block ?_
    refine fin_ret_code ?_
    refine fin_ret_inv ?_
    refine fin_ret_block ?_
    refine fin_ret_code ?_
    refine fin_ret1 rfl rfl ?_
    intro w' g
    exact hR _ _ (post_of g () trivial rfl (by (apply le_of_picks; (repeat (first | exact Picks.nil | (apply Picks.cons; (· (repeat (first | exact Pick.here | apply Pick.there)))) | apply Picks.empty)))))
  rw [if_neg h50] at hFk
  refine fin_code ?_
  refine run_seq ?_
  refine run_seq ?_
  refine run_region rfl ?_
  refine op_move rfl rfl ?_
  refine op_move rfl rfl ?_
  refine op_cmp_f rfl rfl rfl rfl (by first | (simp only [cmpP]; done) | (simp only [cmpP]; omega)) ?_
  refine ops_nil ?_
  refine fin_code ?_
  refine run_cond_f rfl ?_
  refine run_skip ?_
  refine fin_code ?_
  refine run_seq ?_
  refine run_seq ?_
  refine run_region rfl ?_
  refine op_move rfl rfl ?_
  refine op_move rfl rfl ?_
  refine op_sub rfl rfl rfl (by simp only [kLo, kHi]; omega) ?_
  refine op_cmp_f rfl rfl rfl rfl (by first | (simp only [cmpP]; done) | (simp only [cmpP]; omega)) ?_
  refine ops_nil ?_
  refine fin_code ?_
  refine run_cond_f rfl ?_
  refine run_skip ?_
  refine fin_code ?_
  refine run_seq ?_
  refine run_region rfl ?_
  refine op_move rfl rfl ?_
  refine op_move rfl rfl ?_
  refine op_move rfl rfl ?_
  refine op_sub rfl rfl rfl (by simp only [kLo, kHi]; omega) ?_
  ((first | (apply op_invE 91 86; (· infer_instance); (· infer_instance); (· exact rfl)) | (apply op_inv0E 91 86; (· infer_instance); (· infer_instance))); (· exact rfl); (· exact rfl); rotate_left 1; (· exact fun w hG hw => D.swap w dk _ _ u (u - 1) hdk (by omega) (by omega) (by omega) (by omega) hw); rotate_right 1; (· (repeat (first | exact Picks.nil | (apply Picks.cons; (· (repeat (first | exact Pick.here | apply Pick.there)))) | apply Picks.empty))))
  intro _ _
  have hd1 : (Sort.swp dk u (u - 1)).size = n := by rw [swp_size', hdk]
  generalize Sort.swp dk u (u - 1) = d1 at *
  refine ops_nil ?_
  refine fin_code ?_
  refine run_seq ?_
  refine run_seq ?_
  refine run_region rfl ?_
  refine op_move rfl rfl ?_
  refine op_move rfl rfl ?_
  refine op_sub rfl rfl rfl (by simp only [kLo, kHi]; omega) ?_
  refine ops_join1 (α := Array α) (fun _ => [(0, .iface 91 rv), (1, .int .i64 a), (2, .int .i64 b), (7, .int .i64 (u : Nat)), (8, .int .i64 (k : Nat))]) (fun x => [L x]) (fun x => x = Sort.fixDown lt a u d1 ∧ x.size = n) ?_ ?_
  rotate_left 1
  · intro J
    by_cases h2 : u - a ≥ 2
    · generalize hG : Sort.shiftDown lt (u - 1) d1 = G
      have hfix : Sort.fixDown lt a u d1 = G := by unfold Sort.fixDown; rw [if_pos h2, hG]
      rw [hfix] at J
      refine op_cmp_t rfl rfl rfl rfl (by first | (simp only [cmpP]; done) | (simp only [cmpP]; omega)) ?_
      refine ops_nil ?_
      refine fin_code ?_
      refine run_cond_t rfl ?_
      refine run_seq ?_
      refine run_region rfl ?_
      refine op_move rfl rfl ?_
      refine op_sub rfl rfl rfl (by simp only [kLo, kHi]; omega) ?_
      refine op_assign rfl rfl ?_
      refine ops_nil ?_
      refine fin_code ?_
      refine run_block ?_
      refine run_loop (α := Nat × Array α) (fun x => [(0, .iface 91 rv), (1, .int .i64 a), (2, .int .i64 b), (7, .int .i64 (u : Nat)), (8, .int .i64 (k : Nat)), (9, .int .i64 (x.1 : Nat))]) (fun x => [L x.2])
        (fun x => x.1 ≤ u ∧ x.2.size = n ∧ Sort.shiftDown lt x.1 x.2 = G) (fun x => x.1) (u - 1, d1) ⟨by dsimp only; omega, hd1, hG⟩ (by rw [show ((u - 1 : Nat) : Int) = (u : Int) - 1 by omega]; (repeat (first | exact Sub.nil _ | (refine Sub.cons rfl ?_)))) (by (apply le_of_picks; (repeat (first | exact Picks.nil | (apply Picks.cons; (· (repeat (first | exact Pick.here | apply Pick.there)))) | apply Picks.empty)))) ?_
      rintro ⟨j, dj⟩ ⟨hju, hdj, hGj⟩
      dsimp only at hju hdj hGj ⊢
      cases j with
      | zero =>
        have J1 := J dj ⟨hGj, hdj⟩
        refine run_seq ?_
        refine run_seq ?_
        refine run_region rfl ?_
        refine op_move rfl rfl ?_
        refine op_cmp_f rfl rfl rfl rfl (by first | (simp only [cmpP]; done) | (simp only [cmpP]; omega)) ?_
        refine ops_nil ?_
        refine fin_code ?_
        refine run_cond_f rfl ?_
        refine run_exit ?_
        refine fin_exit_code ?_
        refine fin_exit_inv ?_
        refine fin_exit_here ?_
        (apply J1)
        · (repeat (first | exact Sub.nil _ | (refine Sub.cons rfl ?_)))
        · (apply le_of_picks; (repeat (first | exact Picks.nil | (apply Picks.cons; (· (repeat (first | exact Pick.here | apply Pick.there)))) | apply Picks.empty)))
      | succ j =>
        simp only [Sort.shiftDown] at hGj
        refine run_seq ?_
        refine run_seq ?_
        refine run_region rfl ?_
        refine op_move rfl rfl ?_
        refine op_cmp_t rfl rfl rfl rfl (by first | (simp only [cmpP]; done) | (simp only [cmpP]; omega)) ?_
        refine ops_nil ?_
        refine fin_code ?_
        refine run_cond_t rfl ?_
        refine run_skip ?_
        refine fin_code ?_
        refine run_seq ?_
        refine run_block ?_
        refine run_seq ?_
        refine run_seq ?_
        refine run_region rfl ?_
        refine op_move rfl rfl ?_
        refine op_move rfl rfl ?_
        refine op_move rfl rfl ?_
        refine op_sub rfl rfl rfl (by simp only [kLo, kHi]; omega) ?_
        ((first | (apply op_invE 91 85; (· infer_instance); (· infer_instance); (· exact rfl)) | (apply op_inv0E 91 85; (· infer_instance); (· infer_instance))); (· exact rfl); (· exact rfl); rotate_left 1; (· exact fun w hG hw => D.less w dj _ _ (j + 1) j hdj (by omega) (by omega) (by omega) (by omega) hw); rotate_right 1; (· (repeat (first | exact Picks.nil | (apply Picks.cons; (· (repeat (first | exact Pick.here | apply Pick.there)))) | apply Picks.empty))))
        intro _ _
        cases hlt : lt dj[j + 1]! dj[j]! with
        | false =>
          simp only [hlt, Bool.not_false, if_true] at hGj
          have J1 := J dj ⟨hGj, hdj⟩
          refine op_not rfl rfl ?_
          refine ops_nil ?_
          refine fin_code ?_
          refine run_cond_t rfl ?_
          refine run_exit ?_
          refine fin_exit_code ?_
          refine fin_exit_past rfl ?_
          refine fin_exit_code ?_
          refine fin_exit_inv ?_
          refine fin_exit_here ?_
          (apply J1)
          · (repeat (first | exact Sub.nil _ | (refine Sub.cons rfl ?_)))
          · (apply le_of_picks; (repeat (first | exact Picks.nil | (apply Picks.cons; (· (repeat (first | exact Pick.here | apply Pick.there)))) | apply Picks.empty)))
        | true =>
          simp only [hlt, Bool.not_true, if_false, Bool.false_eq_true] at hGj
          refine op_not rfl rfl ?_
          refine ops_nil ?_
          refine fin_code ?_
          refine run_cond_f rfl ?_
          refine run_skip ?_
          refine fin_code ?_
          refine run_region rfl ?_
          refine op_move rfl rfl ?_
          refine op_move rfl rfl ?_
          refine op_move rfl rfl ?_
          refine op_sub rfl rfl rfl (by simp only [kLo, kHi]; omega) ?_
          ((first | (apply op_invE 91 86; (· infer_instance); (· infer_instance); (· exact rfl)) | (apply op_inv0E 91 86; (· infer_instance); (· infer_instance))); (· exact rfl); (· exact rfl); rotate_left 1; (· exact fun w hG hw => D.swap w dj _ _ (j + 1) j hdj (by omega) (by omega) (by omega) (by omega) hw); rotate_right 1; (· (repeat (first | exact Picks.nil | (apply Picks.cons; (· (repeat (first | exact Pick.here | apply Pick.there)))) | apply Picks.empty))))
          intro _ _
          refine ops_nil ?_
          refine fin_block ?_
          refine fin_code ?_
          refine run_region rfl ?_
          refine op_move rfl rfl ?_
          refine op_sub rfl rfl rfl (by simp only [kLo, kHi]; omega) ?_
          refine op_assign rfl rfl ?_
          refine ops_nil ?_
          refine fin_round (j, Sort.swp dj (j + 1) j) (by dsimp only; omega) (by rw [show ((j : Nat) : Int) = ((j + 1 : Nat) : Int) - 1 by omega]; (repeat (first | exact Sub.nil _ | (refine Sub.cons rfl ?_)))) (by (apply le_of_picks; (repeat (first | exact Picks.nil | (apply Picks.cons; (· (repeat (first | exact Pick.here | apply Pick.there)))) | apply Picks.empty)))) ⟨by dsimp only; omega, by dsimp only; rw [swp_size', hdj], hGj⟩
    · have hfix : Sort.fixDown lt a u d1 = d1 := by unfold Sort.fixDown; rw [if_neg h2]
      have J1 := J d1 ⟨hfix.symm, hd1⟩
      refine op_cmp_f rfl rfl rfl rfl (by first | (simp only [cmpP]; done) | (simp only [cmpP]; omega)) ?_
      refine ops_nil ?_
      refine fin_code ?_
      refine run_cond_f rfl ?_
      refine run_skip ?_
      (apply J1)
      · (repeat (first | exact Sub.nil _ | (refine Sub.cons rfl ?_)))
      · (apply le_of_picks; (repeat (first | exact Picks.nil | (apply Picks.cons; (· (repeat (first | exact Pick.here | apply Pick.there)))) | apply Picks.empty)))
  rintro d2 ⟨he2, hd2⟩
  rw [← he2] at hFk
  clear he2
  refine fin_code ?_
  refine run_seq ?_
  refine run_region rfl ?_
  refine op_move rfl rfl ?_
  refine op_move rfl rfl ?_
  refine op_sub rfl rfl rfl (by simp only [kLo, kHi]; omega) ?_
  refine ops_join1 (α := Array α) (fun _ => [(0, .iface 91 rv), (1, .int .i64 a), (2, .int .i64 b), (7, .int .i64 (u : Nat)), (8, .int .i64 (k : Nat))]) (fun x => [L x]) (fun x => x = Sort.fixUp lt b u d2 ∧ x.size = n) ?_ ?_
  rotate_left 1
  · intro J
    by_cases h2 : b - u ≥ 2
    · generalize hG : Sort.shiftUp lt b (u + 1) d2 = G
      have hfix : Sort.fixUp lt b u d2 = G := by unfold Sort.fixUp; rw [if_pos h2, hG]
      rw [hfix] at J
      refine op_cmp_t rfl rfl rfl rfl (by first | (simp only [cmpP]; done) | (simp only [cmpP]; omega)) ?_
      refine ops_nil ?_
      refine fin_code ?_
      refine run_cond_t rfl ?_
      refine run_seq ?_
      refine run_region rfl ?_
      refine op_move rfl rfl ?_
      refine op_add rfl rfl rfl (by simp only [kLo, kHi]; omega) ?_
      refine op_assign rfl rfl ?_
      refine ops_nil ?_
      refine fin_code ?_
      refine run_block ?_
      refine run_loop (α := Nat × Array α) (fun x => [(0, .iface 91 rv), (1, .int .i64 a), (2, .int .i64 b), (7, .int .i64 (u : Nat)), (8, .int .i64 (k : Nat)), (10, .int .i64 (x.1 : Nat))]) (fun x => [L x.2])
        (fun x => u < x.1 ∧ x.1 ≤ b ∧ x.2.size = n ∧ Sort.shiftUp lt b x.1 x.2 = G) (fun x => b - x.1) (u + 1, d2) ⟨by dsimp only; omega, by dsimp only; omega, hd2, hG⟩ (by (repeat (first | exact Sub.nil _ | (refine Sub.cons rfl ?_)))) (by (apply le_of_picks; (repeat (first | exact Picks.nil | (apply Picks.cons; (· (repeat (first | exact Pick.here | apply Pick.there)))) | apply Picks.empty)))) ?_
      rintro ⟨j, dj⟩ ⟨huj, hjb, hdj, hGj⟩
      dsimp only at huj hjb hdj hGj ⊢
      rw [Sort.shiftUp] at hGj
      by_cases hj : j < b
      · rw [if_pos hj] at hGj
        refine run_seq ?_
        refine run_seq ?_
        refine run_region rfl ?_
        refine op_move rfl rfl ?_
        refine op_move rfl rfl ?_
        refine op_cmp_t rfl rfl rfl rfl (by first | (simp only [cmpP]; done) | (simp only [cmpP]; omega)) ?_
        refine ops_nil ?_
        refine fin_code ?_
        refine run_cond_t rfl ?_
        refine run_skip ?_
        refine fin_code ?_
        refine run_seq ?_
        refine run_block ?_
        refine run_seq ?_
        refine run_seq ?_
        refine run_region rfl ?_
        refine op_move rfl rfl ?_
        refine op_move rfl rfl ?_
        refine op_move rfl rfl ?_
        refine op_sub rfl rfl rfl (by simp only [kLo, kHi]; omega) ?_
        ((first | (apply op_invE 91 85; (· infer_instance); (· infer_instance); (· exact rfl)) | (apply op_inv0E 91 85; (· infer_instance); (· infer_instance))); (· exact rfl); (· exact rfl); rotate_left 1; (· exact fun w hG hw => D.less w dj _ _ j (j - 1) hdj (by omega) (by omega) (by omega) (by omega) hw); rotate_right 1; (· (repeat (first | exact Picks.nil | (apply Picks.cons; (· (repeat (first | exact Pick.here | apply Pick.there)))) | apply Picks.empty))))
        intro _ _
        cases hlt : lt dj[j]! dj[j - 1]! with
        | false =>
          simp only [hlt, Bool.not_false, if_true] at hGj
          have J1 := J dj ⟨hGj, hdj⟩
          refine op_not rfl rfl ?_
          refine ops_nil ?_
          refine fin_code ?_
          refine run_cond_t rfl ?_
          refine run_exit ?_
          refine fin_exit_code ?_
          refine fin_exit_past rfl ?_
          refine fin_exit_code ?_
          refine fin_exit_inv ?_
          refine fin_exit_here ?_
          (apply J1)
          · (repeat (first | exact Sub.nil _ | (refine Sub.cons rfl ?_)))
          · (apply le_of_picks; (repeat (first | exact Picks.nil | (apply Picks.cons; (· (repeat (first | exact Pick.here | apply Pick.there)))) | apply Picks.empty)))
        | true =>
          simp only [hlt, Bool.not_true, if_false, Bool.false_eq_true] at hGj
          refine op_not rfl rfl ?_
          refine ops_nil ?_
          refine fin_code ?_
          refine run_cond_f rfl ?_
          refine run_skip ?_
          refine fin_code ?_
          refine run_region rfl ?_
          refine op_move rfl rfl ?_
          refine op_move rfl rfl ?_
          refine op_move rfl rfl ?_
          refine op_sub rfl rfl rfl (by simp only [kLo, kHi]; omega) ?_
          ((first | (apply op_invE 91 86; (· infer_instance); (· infer_instance); (· exact rfl)) | (apply op_inv0E 91 86; (· infer_instance); (· infer_instance))); (· exact rfl); (· exact rfl); rotate_left 1; (· exact fun w hG hw => D.swap w dj _ _ j (j - 1) hdj (by omega) (by omega) (by omega) (by omega) hw); rotate_right 1; (· (repeat (first | exact Picks.nil | (apply Picks.cons; (· (repeat (first | exact Pick.here | apply Pick.there)))) | apply Picks.empty))))
          intro _ _
          refine ops_nil ?_
          refine fin_block ?_
          refine fin_code ?_
          refine run_region rfl ?_
          refine op_move rfl rfl ?_
          refine op_add rfl rfl rfl (by simp only [kLo, kHi]; omega) ?_
          refine op_assign rfl rfl ?_
          refine ops_nil ?_
          refine fin_round (j + 1, Sort.swp dj j (j - 1)) (by dsimp only; omega) (by (repeat (first | exact Sub.nil _ | (refine Sub.cons rfl ?_)))) (by (apply le_of_picks; (repeat (first | exact Picks.nil | (apply Picks.cons; (· (repeat (first | exact Pick.here | apply Pick.there)))) | apply Picks.empty)))) ⟨by dsimp only; omega, by dsimp only; omega, by dsimp only; rw [swp_size', hdj], hGj⟩
      · rw [if_neg hj] at hGj
        have J1 := J dj ⟨hGj, hdj⟩
        refine run_seq ?_
        refine run_seq ?_
        refine run_region rfl ?_
        refine op_move rfl rfl ?_
        refine op_move rfl rfl ?_
        refine op_cmp_f rfl rfl rfl rfl (by first | (simp only [cmpP]; done) | (simp only [cmpP]; omega)) ?_
        refine ops_nil ?_
        refine fin_code ?_
        refine run_cond_f rfl ?_
        refine run_exit ?_
        refine fin_exit_code ?_
        refine fin_exit_inv ?_
        refine fin_exit_here ?_
        (apply J1)
        · (repeat (first | exact Sub.nil _ | (refine Sub.cons rfl ?_)))
        · (apply le_of_picks; (repeat (first | exact Picks.nil | (apply Picks.cons; (· (repeat (first | exact Pick.here | apply Pick.there)))) | apply Picks.empty)))
    · have hfix : Sort.fixUp lt b u d2 = d2 := by unfold Sort.fixUp; rw [if_neg h2]
      have J1 := J d2 ⟨hfix.symm, hd2⟩
      refine op_cmp_f rfl rfl rfl rfl (by first | (simp only [cmpP]; done) | (simp only [cmpP]; omega)) ?_
      refine ops_nil ?_
      refine fin_code ?_
      refine run_cond_f rfl ?_
      refine run_skip ?_
      (apply J1)
      · (repeat (first | exact Sub.nil _ | (refine Sub.cons rfl ?_)))
      · (apply le_of_picks; (repeat (first | exact Picks.nil | (apply Picks.cons; (· (repeat (first | exact Pick.here | apply Pick.there)))) | apply Picks.empty)))
  rintro d3 ⟨he3, hd3⟩
  rw [← he3] at hFk
  clear he3
  refine fin_block ?_
  refine fin_code ?_
  refine run_region rfl ?_
  refine op_move rfl rfl ?_
  refine op_add rfl rfl rfl (by simp only [kLo, kHi]; omega) ?_
  refine op_assign rfl rfl ?_
  refine ops_nil ?_
  refine fin_round (s, k + 1, u, d3) (by dsimp only; omega) (by (repeat (first | exact Sub.nil _ | (refine Sub.cons rfl ?_)))) (by (apply le_of_picks; (repeat (first | exact Picks.nil | (apply Picks.cons; (· (repeat (first | exact Pick.here | apply Pick.there)))) | apply Picks.empty)))) ⟨by dsimp only; omega, by dsimp only; omega, by dsimp only; omega, hd3, hFk⟩
end
end Go.Proofs.Eng
