/- A part of the proof: what functions of the program do, step by step. -/
import Derived.Test.YtnomlnfdmoecoaaDoorN8
set_option linter.unusedVariables false
set_option linter.unusedSimpArgs false
namespace Go.Proofs.Eng
open Go.RowKit
section
variable {α : Type} [Inhabited α] {L : Array α → Hp} {rv : Value} {n : Nat} {lt : α → α → Bool}
theorem hintN_dec {h : Sort.Hint} (e : h ≠ .decreasing) : hintN h ≠ 2 := by cases h <;> simp [hintN] at e ⊢
theorem hintN_inc {h : Sort.Hint} (e : h ≠ .increasing) : hintN h ≠ 1 := by cases h <;> simp [hintN] at e ⊢
set_option maxRecDepth 100000 in
set_option maxHeartbeats 64000000 in
theorem pdq_any (D : SD L rv n lt) (hS : Sort.SWO lt) : ∀ (m : Nat) (w : World) (d : Array α) (A B Lm : Int) (a b limit : Nat), d.size = n → A = a → B = b → Lm = limit → a ≤ b → b ≤ n → limit ≤ 1000 → b - a < m → Sort.Below lt a b d → At w ([L d] : List Hp).flatten →
    Calls Tryd.prog 43 #[.iface 91 rv, .int .i64 A, .int .i64 B, .int .i64 Lm] w (Post w ([L d] : List Hp).flatten (fun _ : Unit => .tuple #[]) (fun _ => ([L (Sort.pdq lt d a b limit true true)] : List Hp).flatten) (fun _ => True)) := by
  intro m
  induction m with
  | zero => intro w d A B Lm a b limit _ _ _ _ _ _ _ h; exact absurd h (Nat.not_lt_zero _)
  | succ m ih =>
  intro w d A B Lm a0 b0 limit hd hA hB hLm hab0 hbn0 hlimit hm hBel0 hw
  subst hA hB hLm
  have hfew := D.few
  refine enter [L d] Tryd.func43 rfl rfl hw (Le.refl _) ?_
  intro R hR
  generalize hF : Sort.pdq lt d a0 b0 limit true true = F at hR
  refine run_seq ?_
  refine run_region rfl ?_
  refine op_assign rfl rfl ?_
  refine ops_nil ?_
  refine fin_code ?_
  refine run_seq ?_
  refine run_region rfl ?_
  refine op_assign rfl rfl ?_
  refine ops_nil ?_
  refine fin_code ?_
  refine run_block ?_
  refine run_loop (α := Nat × Nat × Nat × Bool × Bool × Array α) (fun x => [(0, .iface 91 rv), (1, .int .i64 (x.1 : Nat)), (2, .int .i64 (x.2.1 : Nat)), (3, .int .i64 (x.2.2.1 : Nat)), (8, .bool x.2.2.2.1), (9, .bool x.2.2.2.2.1)]) (fun x => [L x.2.2.2.2.2])
    (fun x => x.1 ≤ x.2.1 ∧ x.2.1 ≤ n ∧ x.2.1 - x.1 ≤ m ∧ x.2.2.1 ≤ limit ∧ x.2.2.2.2.2.size = n ∧ Sort.Below lt x.1 x.2.1 x.2.2.2.2.2 ∧ Sort.pdq lt x.2.2.2.2.2 x.1 x.2.1 x.2.2.1 x.2.2.2.1 x.2.2.2.2.1 = F) (fun x => x.2.1 - x.1)
    (a0, b0, limit, true, true, d) ⟨hab0, hbn0, by dsimp only; omega, Nat.le_refl _, hd, hBel0, hF⟩ (by (repeat (first | exact Sub.nil _ | (refine Sub.cons rfl ?_)))) (by (apply le_of_picks; (repeat (first | exact Picks.nil | (apply Picks.cons; (· (repeat (first | exact Pick.here | apply Pick.there)))) | apply Picks.empty)))) ?_
  clear hF hBel0 hm hab0 hbn0 hw hd
  clear a0 b0
  rintro ⟨a, b, lim, wb, wp, dk⟩ ⟨hab, hbn, hbm, hlim, hdk, hBel, hFk⟩
  dsimp only at hab hbn hbm hlim hdk hBel hFk ⊢
  by_cases h12 : b - a ≤ 12
  · rw [Sort.pdq_small h12] at hFk
    subst hFk
    refine run_block ?_
    refine run_seq ?_
    refine run_region rfl ?_
    refine op_move rfl rfl ?_
    refine op_move rfl rfl ?_
    refine op_sub rfl rfl rfl (by simp only [kLo, kHi]; omega) ?_
    refine op_assign rfl rfl ?_
    refine ops_nil ?_
    refine fin_code ?_
    refine run_seq ?_
    refine run_seq ?_
    refine run_region rfl ?_
    refine op_move rfl rfl ?_
    refine op_cmp_t rfl rfl rfl rfl (by first | (simp only [cmpP]; done) | (simp only [cmpP]; omega)) ?_
    refine ops_nil ?_
    refine fin_code ?_
    refine run_cond_t rfl ?_
    refine run_seq ?_
    refine run_region rfl ?_
    refine op_move rfl rfl ?_
    refine op_move rfl rfl ?_
    refine op_move rfl rfl ?_
    ((first | (apply op_call; (· exact rfl)) | apply op_call0); (· exact rfl); rotate_left 1; (· exact fun w hG hw => insSort_any D w dk _ _ a b hdk rfl rfl hab hbn hw); rotate_right 1; (· (repeat (first | exact Picks.nil | (apply Picks.cons; (· (repeat (first | exact Pick.here | apply Pick.there)))) | apply Picks.empty))))
    intro _ _
    refine ops_nil ?_
    refine fin_code ?_
    refine run_ret ?_
    refine fin_ret_code ?_
    refine fin_ret_block ?_
    refine fin_ret_inv ?_
    refine fin_ret_block ?_
    refine fin_ret0 (.inl rfl) rfl ?_
    intro w' g
    exact hR _ _ (post_of g () trivial rfl (by (apply le_of_picks; (repeat (first | exact Picks.nil | (apply Picks.cons; (· (repeat (first | exact Pick.here | apply Pick.there)))) | apply Picks.empty)))))
  by_cases hl0 : lim = 0
  · rw [Sort.pdq_heap h12 hl0] at hFk
    subst hFk hl0
    refine run_block ?_
    refine run_seq ?_
    refine run_region rfl ?_
    refine op_move rfl rfl ?_
    refine op_move rfl rfl ?_
    refine op_sub rfl rfl rfl (by simp only [kLo, kHi]; omega) ?_
    refine op_assign rfl rfl ?_
    refine ops_nil ?_
    refine fin_code ?_
    refine run_seq ?_
    refine run_seq ?_
    refine run_region rfl ?_
    refine op_move rfl rfl ?_
    refine op_cmp_f rfl rfl rfl rfl (by first | (simp only [cmpP]; done) | (simp only [cmpP]; omega)) ?_
    refine ops_nil ?_
    refine fin_code ?_
    refine run_cond_f rfl ?_
    refine run_skip ?_
    refine fin_code ?_
    refine run_seq ?_
    refine run_seq ?_
    refine run_region rfl ?_
    refine op_move rfl rfl ?_
    refine op_cmp_t rfl rfl rfl rfl (by first | (simp only [cmpP]; done) | (simp only [cmpP]; omega)) ?_
    refine ops_nil ?_
    refine fin_code ?_
    refine run_cond_t rfl ?_
    refine run_seq ?_
    refine run_region rfl ?_
    refine op_move rfl rfl ?_
    refine op_move rfl rfl ?_
    refine op_move rfl rfl ?_
    ((first | (apply op_call; (· exact rfl)) | apply op_call0); (· exact rfl); rotate_left 1; (· exact fun w hG hw => heap_any D w dk _ _ a b hdk rfl rfl (by omega) hbn hw); rotate_right 1; (· (repeat (first | exact Picks.nil | (apply Picks.cons; (· (repeat (first | exact Pick.here | apply Pick.there)))) | apply Picks.empty))))
    intro _ _
    refine ops_nil ?_
    refine fin_code ?_
    refine run_ret ?_
    refine fin_ret_code ?_
    refine fin_ret_block ?_
    refine fin_ret_inv ?_
    refine fin_ret_block ?_
    refine fin_ret0 (.inl rfl) rfl ?_
    intro w' g
    exact hR _ _ (post_of g () trivial rfl (by (apply le_of_picks; (repeat (first | exact Picks.nil | (apply Picks.cons; (· (repeat (first | exact Pick.here | apply Pick.there)))) | apply Picks.empty)))))
  obtain ⟨s1, B1, hc1, s2, B2, hpv, s3, B3⟩ := Sort.rd_facts (limit := lim) (wb := wb) (wp := wp) hS (Sort.partialInsertionSort_holds) Sort.reverseRange_holds (show a < b by omega) (show b ≤ dk.size by omega) hBel
  have hd1 : (Sort.rd lt dk a b lim wb wp).d1 = if (!wb) = true then Sort.breakPatterns dk a b else dk := rfl
  have hlm : (Sort.rd lt dk a b lim wb wp).lim = if (!wb) = true then lim - 1 else lim := rfl
  have hc : (Sort.rd lt dk a b lim wb wp).c = Sort.choosePivot lt (Sort.rd lt dk a b lim wb wp).d1 a b := rfl
  have hdec := Sort.rd_dec (lt := lt) (d := dk) (a := a) (b := b) (limit := lim) (wb := wb) (wp := wp)
  have hnot := Sort.rd_not (lt := lt) (d := dk) (a := a) (b := b) (limit := lim) (wb := wb) (wp := wp)
  have hpy := Sort.rd_pi_yes (lt := lt) (d := dk) (a := a) (b := b) (limit := lim) (wb := wb) (wp := wp)
  have hpn := Sort.rd_pi_no (lt := lt) (d := dk) (a := a) (b := b) (limit := lim) (wb := wb) (wp := wp)
  have hdone := Sort.pdq_done (lt := lt) (d := dk) (wb := wb) (wp := wp) h12 hl0
  have heq := Sort.pdq_eq (lt := lt) (d := dk) (wb := wb) (wp := wp) h12 hl0
  have hleft := Sort.pdq_left (lt := lt) (d := dk) (wb := wb) (wp := wp) h12 hl0
  have hright := Sort.pdq_right (lt := lt) (d := dk) (wb := wb) (wp := wp) h12 hl0
  have hll : (Sort.rd lt dk a b lim wb wp).lim ≤ lim := Sort.rd_lim_le
  rw [hFk] at hdone heq hleft hright
  clear hFk
  generalize Sort.rd lt dk a b lim wb wp = r at *
  refine run_block ?_
  refine run_seq ?_
  refine run_region rfl ?_
  refine op_move rfl rfl ?_
  refine op_move rfl rfl ?_
  refine op_sub rfl rfl rfl (by simp only [kLo, kHi]; omega) ?_
  refine op_assign rfl rfl ?_
  refine ops_nil ?_
  refine fin_code ?_
  refine run_seq ?_
  refine run_seq ?_
  refine run_region rfl ?_
  refine op_move rfl rfl ?_
  refine op_cmp_f rfl rfl rfl rfl (by first | (simp only [cmpP]; done) | (simp only [cmpP]; omega)) ?_
  refine ops_nil ?_
  refine fin_code ?_
  refine run_cond_f rfl ?_
  refine run_skip ?_
  refine fin_code ?_
  refine run_seq ?_
  refine run_seq ?_
  refine run_region rfl ?_
  refine op_move rfl rfl ?_
  refine op_cmp_f rfl rfl rfl rfl (by first | (simp only [cmpP]; done) | (simp only [cmpP]; omega)) ?_
  refine ops_nil ?_
  refine fin_code ?_
  refine run_cond_f rfl ?_
  refine run_skip ?_
  refine fin_code ?_
  refine run_seq ?_
  refine run_seq ?_
  refine run_region rfl ?_
  refine op_move rfl rfl ?_
  refine op_not rfl rfl ?_
  refine ops_nil ?_
  refine fin_code ?_
  refine run_join (α := Unit) (fun _ => [(0, .iface 91 rv), (1, .int .i64 a), (2, .int .i64 b), (3, .int .i64 r.lim), (8, .bool wb), (9, .bool wp), (10, .int .i64 ((b : Int) - a))]) (fun _ => [L r.d1]) (fun _ => True) ?_ ?_
  rotate_left 1
  · intro J
    have J1 := J () trivial
    cases wb with
    | false =>
      rw [Bool.not_false, if_pos rfl] at hd1 hlm
      rw [hd1, show ((r.lim : Nat) : Int) = (lim : Int) - 1 by omega] at J1
      refine run_cond_t rfl ?_
      refine run_seq ?_
      refine run_region rfl ?_
      refine op_move rfl rfl ?_
      refine op_move rfl rfl ?_
      refine op_move rfl rfl ?_
      ((first | (apply op_call; (· exact rfl)) | apply op_call0); (· exact rfl); rotate_left 1; (· exact fun w hG hw => break_any D w dk _ _ a b hdk rfl rfl (by omega) hbn hw); rotate_right 1; (· (repeat (first | exact Picks.nil | (apply Picks.cons; (· (repeat (first | exact Pick.here | apply Pick.there)))) | apply Picks.empty))))
      intro _ _
      refine ops_nil ?_
      refine fin_code ?_
      refine run_region rfl ?_
      refine op_move rfl rfl ?_
      refine op_sub rfl rfl rfl (by simp only [kLo, kHi]; omega) ?_
      refine op_assign rfl rfl ?_
      refine ops_nil ?_
      (apply J1)
      · (repeat (first | exact Sub.nil _ | (refine Sub.cons rfl ?_)))
      · (apply le_of_picks; (repeat (first | exact Picks.nil | (apply Picks.cons; (· (repeat (first | exact Pick.here | apply Pick.there)))) | apply Picks.empty)))
    | true =>
      rw [Bool.not_true, if_neg (by decide)] at hd1 hlm
      rw [hd1, hlm] at J1
      refine run_cond_f rfl ?_
      refine run_skip ?_
      (apply J1)
      · (repeat (first | exact Sub.nil _ | (refine Sub.cons rfl ?_)))
      · (apply le_of_picks; (repeat (first | exact Picks.nil | (apply Picks.cons; (· (repeat (first | exact Pick.here | apply Pick.there)))) | apply Picks.empty)))
  rintro ⟨⟩ _
  clear hd1 hlm
  have P1 := fun w hw => pivot_any D w r.d1 _ _ a b (s1.trans hdk) rfl rfl (by omega) hbn hw
  rw [← hc] at P1
  refine fin_code ?_
  refine run_seq ?_
  refine run_region rfl ?_
  refine op_move rfl rfl ?_
  refine op_move rfl rfl ?_
  refine op_move rfl rfl ?_
  ((first | (apply op_call; (· exact rfl)) | apply op_call0); (· exact rfl); rotate_left 1; (· exact fun w hG hw => P1 w hw); rotate_right 1; (· (repeat (first | exact Picks.nil | (apply Picks.cons; (· (repeat (first | exact Pick.here | apply Pick.there)))) | apply Picks.empty))))
  intro _ _
  refine op_move rfl rfl ?_
  refine op_extract rfl rfl rfl ?_
  refine op_extract rfl rfl rfl ?_
  refine op_assign rfl rfl ?_
  refine op_assign rfl rfl ?_
  refine ops_nil ?_
  refine fin_code ?_
  refine run_seq ?_
  refine run_seq ?_
  refine run_region rfl ?_
  refine op_move rfl rfl ?_
  refine ops_join1 (α := Unit) (fun _ => [(0, .iface 91 rv), (1, .int .i64 a), (2, .int .i64 b), (3, .int .i64 r.lim), (8, .bool wb), (9, .bool wp), (10, .int .i64 ((b : Int) - a)), (11, .int .i64 r.pivot), (12, .int .i64 (hintN r.hint : Nat))]) (fun _ => [L r.d2]) (fun _ => True) ?_ ?_
  rotate_left 1
  · intro J
    have J1 := J () trivial
    by_cases hh : r.c.2 = .decreasing
    · obtain ⟨e2, epv, eht⟩ := hdec hh
      have hcode : hintN r.c.2 = 2 := by rw [hh]; rfl
      rw [e2, eht, show ((r.pivot : Nat) : Int) = (b : Int) - 1 - ((r.c.1 : Int) - a) by omega] at J1
      refine op_cmp_t rfl rfl rfl rfl (by first | (simp only [cmpP]; done) | (simp only [cmpP]; omega)) ?_
      refine ops_nil ?_
      refine fin_code ?_
      refine run_cond_t rfl ?_
      refine run_seq ?_
      refine run_region rfl ?_
      refine op_move rfl rfl ?_
      refine op_move rfl rfl ?_
      refine op_move rfl rfl ?_
      ((first | (apply op_call; (· exact rfl)) | apply op_call0); (· exact rfl); rotate_left 1; (· exact fun w hG hw => rev_any D w r.d1 _ _ a b (s1.trans hdk) rfl rfl (by omega) hbn hw); rotate_right 1; (· (repeat (first | exact Picks.nil | (apply Picks.cons; (· (repeat (first | exact Pick.here | apply Pick.there)))) | apply Picks.empty))))
      intro _ _
      refine ops_nil ?_
      refine fin_code ?_
      refine run_seq ?_
      refine run_region rfl ?_
      refine op_move rfl rfl ?_
      refine op_sub rfl rfl rfl (by simp only [kLo, kHi]; omega) ?_
      refine op_move rfl rfl ?_
      refine op_move rfl rfl ?_
      refine op_sub rfl rfl rfl (by simp only [kLo, kHi]; omega) ?_
      refine op_sub rfl rfl rfl (by simp only [kLo, kHi]; omega) ?_
      refine op_assign rfl rfl ?_
      refine ops_nil ?_
      refine fin_code ?_
      refine run_region rfl ?_
      refine op_assign rfl rfl ?_
      refine ops_nil ?_
      (apply J1)
      · (repeat (first | exact Sub.nil _ | (refine Sub.cons rfl ?_)))
      · (apply le_of_picks; (repeat (first | exact Picks.nil | (apply Picks.cons; (· (repeat (first | exact Pick.here | apply Pick.there)))) | apply Picks.empty)))
    · obtain ⟨e2, epv, eht⟩ := hnot hh
      have hcode := hintN_dec hh
      rw [e2, eht, epv] at J1
      refine op_cmp_f rfl rfl rfl rfl (by first | (simp only [cmpP]; done) | (simp only [cmpP]; omega)) ?_
      refine ops_nil ?_
      refine fin_code ?_
      refine run_cond_f rfl ?_
      refine run_skip ?_
      (apply J1)
      · (repeat (first | exact Sub.nil _ | (refine Sub.cons rfl ?_)))
      · (apply le_of_picks; (repeat (first | exact Picks.nil | (apply Picks.cons; (· (repeat (first | exact Pick.here | apply Pick.there)))) | apply Picks.empty)))
  rintro ⟨⟩ _
  clear hdec hnot P1 hc
  refine fin_code ?_
  refine run_seq ?_
  refine run_seq ?_
  refine run_region rfl ?_
  refine op_move rfl rfl ?_
  refine op_move rfl rfl ?_
  refine ops_join1 (α := Unit) (fun _ => [(0, .iface 91 rv), (1, .int .i64 a), (2, .int .i64 b), (3, .int .i64 r.lim), (8, .bool wb), (9, .bool wp), (10, .int .i64 ((b : Int) - a)), (11, .int .i64 r.pivot)]) (fun _ => [L r.pi.1]) (fun _ => r.pi.2 = false) ?_ ?_
  rotate_left 1
  · intro J
    by_cases hh : r.hint = .increasing
    · have hcode : hintN r.hint = 1 := by rw [hh]; rfl
      cases wb with
      | false =>
        have hp := hpn (by simp)
        have J1 := J () (by rw [hp])
        rw [hp] at J1
        refine ops_off1 rfl rfl ?_
        refine op_pick_f rfl rfl rfl ?_
        refine op_move rfl rfl ?_
        refine ops_off1 rfl rfl ?_
        refine ops_off1 rfl rfl ?_
        refine op_pick_f rfl rfl rfl ?_
        refine ops_nil ?_
        refine fin_code ?_
        refine run_cond_f rfl ?_
        refine run_skip ?_
        (apply J1)
        · (repeat (first | exact Sub.nil _ | (refine Sub.cons rfl ?_)))
        · (apply le_of_picks; (repeat (first | exact Picks.nil | (apply Picks.cons; (· (repeat (first | exact Pick.here | apply Pick.there)))) | apply Picks.empty)))
      | true =>
        cases wp with
        | false =>
          have hp := hpn (by simp)
          have J1 := J () (by rw [hp])
          rw [hp] at J1
          refine ops_guard_yes rfl rfl rfl ?_
          refine op_move rfl rfl ?_
          refine op_pick_t rfl rfl rfl ?_
          refine op_move rfl rfl ?_
          refine ops_off1 rfl rfl ?_
          refine ops_off1 rfl rfl ?_
          refine op_pick_f rfl rfl rfl ?_
          refine ops_nil ?_
          refine fin_code ?_
          refine run_cond_f rfl ?_
          refine run_skip ?_
          (apply J1)
          · (repeat (first | exact Sub.nil _ | (refine Sub.cons rfl ?_)))
          · (apply le_of_picks; (repeat (first | exact Picks.nil | (apply Picks.cons; (· (repeat (first | exact Pick.here | apply Pick.there)))) | apply Picks.empty)))
        | true =>
          have hp := hpy (by simp [hh])
          have P2 := fun w hw => pins_any D w r.d2 _ _ a b (s2.trans hdk) rfl rfl (by omega) hbn hw
          rw [← hp] at P2
          refine ops_guard_yes rfl rfl rfl ?_
          refine op_move rfl rfl ?_
          refine op_pick_t rfl rfl rfl ?_
          refine op_move rfl rfl ?_
          refine ops_guard_yes rfl rfl rfl ?_
          refine op_move rfl rfl ?_
          refine ops_guard_yes rfl rfl rfl ?_
          refine op_cmp_t rfl rfl rfl rfl (by first | (simp only [cmpP]; done) | (simp only [cmpP]; omega)) ?_
          refine op_pick_t rfl rfl rfl ?_
          refine ops_nil ?_
          refine fin_code ?_
          refine run_cond_t rfl ?_
          refine run_seq ?_
          refine run_region rfl ?_
          refine op_move rfl rfl ?_
          refine op_move rfl rfl ?_
          refine op_move rfl rfl ?_
          ((first | (apply op_call; (· exact rfl)) | apply op_call0); (· exact rfl); rotate_left 1; (· exact fun w hG hw => P2 w hw); rotate_right 1; (· (repeat (first | exact Picks.nil | (apply Picks.cons; (· (repeat (first | exact Pick.here | apply Pick.there)))) | apply Picks.empty))))
          intro _ _
          cases hp2 : r.pi.2 with
          | true =>
            have hFe := hdone hp2
            subst hFe
            refine ops_nil ?_
            refine fin_code ?_
            refine run_cond_t rfl ?_
            refine run_ret ?_
            refine fin_ret_code ?_
            refine fin_ret_block ?_
            refine fin_ret_inv ?_
            refine fin_ret_block ?_
            refine fin_ret0 (.inl rfl) rfl ?_
            intro w' g
            exact hR _ _ (post_of g () trivial rfl (by (apply le_of_picks; (repeat (first | exact Picks.nil | (apply Picks.cons; (· (repeat (first | exact Pick.here | apply Pick.there)))) | apply Picks.empty)))))
          | false =>
            have J1 := J () hp2
            refine ops_nil ?_
            refine fin_code ?_
            refine run_cond_f rfl ?_
            refine run_skip ?_
            (apply J1)
            · (repeat (first | exact Sub.nil _ | (refine Sub.cons rfl ?_)))
            · (apply le_of_picks; (repeat (first | exact Picks.nil | (apply Picks.cons; (· (repeat (first | exact Pick.here | apply Pick.there)))) | apply Picks.empty)))
    · have hcode := hintN_inc hh
      have hp := hpn (by simp [hh])
      have J1 := J () (by rw [hp])
      rw [hp] at J1
      cases wb with
      | false =>
        refine ops_off1 rfl rfl ?_
        refine op_pick_f rfl rfl rfl ?_
        refine op_move rfl rfl ?_
        refine ops_off1 rfl rfl ?_
        refine ops_off1 rfl rfl ?_
        refine op_pick_f rfl rfl rfl ?_
        refine ops_nil ?_
        refine fin_code ?_
        refine run_cond_f rfl ?_
        refine run_skip ?_
        (apply J1)
        · (repeat (first | exact Sub.nil _ | (refine Sub.cons rfl ?_)))
        · (apply le_of_picks; (repeat (first | exact Picks.nil | (apply Picks.cons; (· (repeat (first | exact Pick.here | apply Pick.there)))) | apply Picks.empty)))
      | true =>
        cases wp with
        | false =>
          refine ops_guard_yes rfl rfl rfl ?_
          refine op_move rfl rfl ?_
          refine op_pick_t rfl rfl rfl ?_
          refine op_move rfl rfl ?_
          refine ops_off1 rfl rfl ?_
          refine ops_off1 rfl rfl ?_
          refine op_pick_f rfl rfl rfl ?_
          refine ops_nil ?_
          refine fin_code ?_
          refine run_cond_f rfl ?_
          refine run_skip ?_
          (apply J1)
          · (repeat (first | exact Sub.nil _ | (refine Sub.cons rfl ?_)))
          · (apply le_of_picks; (repeat (first | exact Picks.nil | (apply Picks.cons; (· (repeat (first | exact Pick.here | apply Pick.there)))) | apply Picks.empty)))
        | true =>
          refine ops_guard_yes rfl rfl rfl ?_
          refine op_move rfl rfl ?_
          refine op_pick_t rfl rfl rfl ?_
          refine op_move rfl rfl ?_
          refine ops_guard_yes rfl rfl rfl ?_
          refine op_move rfl rfl ?_
          refine ops_guard_yes rfl rfl rfl ?_
          refine op_cmp_f rfl rfl rfl rfl (by first | (simp only [cmpP]; done) | (simp only [cmpP]; omega)) ?_
          refine op_pick_t rfl rfl rfl ?_
          refine ops_nil ?_
          refine fin_code ?_
          refine run_cond_f rfl ?_
          refine run_skip ?_
          (apply J1)
          · (repeat (first | exact Sub.nil _ | (refine Sub.cons rfl ?_)))
          · (apply le_of_picks; (repeat (first | exact Picks.nil | (apply Picks.cons; (· (repeat (first | exact Pick.here | apply Pick.there)))) | apply Picks.empty)))
  rintro ⟨⟩ hp2
  clear hpy hpn hdone
  have heq := heq hp2
  have hleft := hleft hp2
  have hright := hright hp2
  have s3n := s3.trans hdk
  have hq : ((b : Int) - a) = ((b - a : Nat) : Int) ∧ (8 : Int) = ((8 : Nat) : Int) := by omega
  refine fin_code ?_
  refine run_seq ?_
  refine run_seq ?_
  refine run_region rfl ?_
  refine op_move rfl rfl ?_
  refine ops_join1 (α := Unit) (fun _ => [(0, .iface 91 rv), (1, .int .i64 a), (2, .int .i64 b), (3, .int .i64 r.lim), (8, .bool wb), (9, .bool wp), (10, .int .i64 ((b : Int) - a)), (11, .int .i64 r.pivot)]) (fun _ => [L r.pi.1]) (fun _ => (decide (a > 0) && !lt r.pi.1[a - 1]! r.pi.1[r.pivot]!) = false) ?_ ?_
  rotate_left 1
  · intro J
    by_cases ha0 : a = 0
    · have J1 := J () (by simp [ha0])
      refine op_cmp_f rfl rfl rfl rfl (by first | (simp only [cmpP]; done) | (simp only [cmpP]; omega)) ?_
      refine op_move rfl rfl ?_
      refine ops_off1 rfl rfl ?_
      refine ops_off1 rfl rfl ?_
      refine ops_off1 rfl rfl ?_
      refine ops_off1 rfl rfl ?_
      refine ops_off1 rfl rfl ?_
      refine ops_off1 rfl rfl ?_
      refine op_pick_f rfl rfl rfl ?_
      refine ops_nil ?_
      refine fin_code ?_
      refine run_cond_f rfl ?_
      refine run_skip ?_
      (apply J1)
      · (repeat (first | exact Sub.nil _ | (refine Sub.cons rfl ?_)))
      · (apply le_of_picks; (repeat (first | exact Picks.nil | (apply Picks.cons; (· (repeat (first | exact Pick.here | apply Pick.there)))) | apply Picks.empty)))
    · refine op_cmp_t rfl rfl rfl rfl (by first | (simp only [cmpP]; done) | (simp only [cmpP]; omega)) ?_
      refine op_move rfl rfl ?_
      refine ops_guard_yes rfl rfl rfl ?_
      refine op_move rfl rfl ?_
      refine ops_guard_yes rfl rfl rfl ?_
      refine op_move rfl rfl ?_
      refine ops_guard_yes rfl rfl rfl ?_
      refine op_sub rfl rfl rfl (by simp only [kLo, kHi]; omega) ?_
      refine ops_guard_yes rfl rfl rfl ?_
      refine op_move rfl rfl ?_
      refine ops_guard_yes rfl rfl rfl ?_
      ((first | (apply op_invE 91 85; (· infer_instance); (· infer_instance); (· exact rfl)) | (apply op_inv0E 91 85; (· infer_instance); (· infer_instance))); (· exact rfl); (· exact rfl); rotate_left 1; (· exact fun w hG hw => D.less w r.pi.1 _ _ (a - 1) r.pivot s3n (by omega) (by omega) (by omega) (by omega) hw); rotate_right 1; (· (repeat (first | exact Picks.nil | (apply Picks.cons; (· (repeat (first | exact Pick.here | apply Pick.there)))) | apply Picks.empty))))
      intro _ _
      cases hlt : lt r.pi.1[a - 1]! r.pi.1[r.pivot]! with
      | true =>
        have J1 := J () (by simp [hlt])
        refine ops_guard_yes rfl rfl rfl ?_
        refine op_not rfl rfl ?_
        refine op_pick_t rfl rfl rfl ?_
        refine ops_nil ?_
        refine fin_code ?_
        refine run_cond_f rfl ?_
        refine run_skip ?_
        (apply J1)
        · (repeat (first | exact Sub.nil _ | (refine Sub.cons rfl ?_)))
        · (apply le_of_picks; (repeat (first | exact Picks.nil | (apply Picks.cons; (· (repeat (first | exact Pick.here | apply Pick.there)))) | apply Picks.empty)))
      | false =>
        have P3 := fun w hw => partEq_any D w r.pi.1 _ _ _ a b r.pivot s3n rfl rfl rfl (by omega) hbn (by omega) hw
        obtain ⟨mid, d4, hx⟩ : ∃ mid d4, Sort.partitionEqual lt r.pi.1 a b r.pivot = (mid, d4) := ⟨(Sort.partitionEqual lt r.pi.1 a b r.pivot).1, (Sort.partitionEqual lt r.pi.1 a b r.pivot).2, rfl⟩
        obtain ⟨r1, r2, r3, r4, _⟩ := Sort.round_eq hS (Sort.partitionEqual_holds _) (by omega) hpv.1 hpv.2 (show b ≤ r.pi.1.size by omega) B3 hlt hx
        have he := heq (by simp [hlt]; omega) (by rw [hx]; exact ⟨r1, r2⟩)
        rw [hx] at he P3
        dsimp only at he P3
        refine ops_guard_yes rfl rfl rfl ?_
        refine op_not rfl rfl ?_
        refine op_pick_t rfl rfl rfl ?_
        refine ops_nil ?_
        refine fin_code ?_
        refine run_cond_t rfl ?_
        refine run_seq ?_
        refine run_region rfl ?_
        refine op_move rfl rfl ?_
        refine op_move rfl rfl ?_
        refine op_move rfl rfl ?_
        refine op_move rfl rfl ?_
        ((first | (apply op_call; (· exact rfl)) | apply op_call0); (· exact rfl); rotate_left 1; (· exact fun w hG hw => P3 w hw); rotate_right 1; (· (repeat (first | exact Picks.nil | (apply Picks.cons; (· (repeat (first | exact Pick.here | apply Pick.there)))) | apply Picks.empty))))
        intro _ _
        refine op_assign rfl rfl ?_
        refine ops_nil ?_
        refine fin_code ?_
        refine run_seq ?_
        refine run_region rfl ?_
        refine op_move rfl rfl ?_
        refine op_assign rfl rfl ?_
        refine ops_nil ?_
        refine fin_code ?_
        refine run_exit ?_
        refine fin_exit_code ?_
        refine fin_exit_here ?_
        refine fin_round (mid, b, r.lim, wb, wp, d4) (by dsimp only; omega) (by (repeat (first | exact Sub.nil _ | (refine Sub.cons rfl ?_)))) (by (apply le_of_picks; (repeat (first | exact Picks.nil | (apply Picks.cons; (· (repeat (first | exact Pick.here | apply Pick.there)))) | apply Picks.empty)))) ⟨r2, hbn, by dsimp only; omega, by dsimp only; omega, by dsimp only; rw [r3, s3n], r4, he.symm⟩
  rintro ⟨⟩ hc2
  have hleft := hleft hc2
  have hright := hright hc2
  clear heq
  have P4 := fun w hw => part_any D w r.pi.1 _ _ _ a b r.pivot s3n rfl rfl rfl (by omega) hbn (by omega) hw
  obtain ⟨mid, ap, d4, hx⟩ : ∃ mid ap d4, Sort.partition lt r.pi.1 a b r.pivot = (mid, ap, d4) := ⟨(Sort.partition lt r.pi.1 a b r.pivot).1, (Sort.partition lt r.pi.1 a b r.pivot).2.1, (Sort.partition lt r.pi.1 a b r.pivot).2.2, rfl⟩
  obtain ⟨r1, r2, r3, r4, r5, r6, r7⟩ := Sort.round_part hS (Sort.partition_holds _) hpv.1 hpv.2 (show b ≤ r.pi.1.size by omega) B3 hx
  rw [hx] at hleft hright P4
  have hleft := hleft ⟨r1, r2⟩
  have hright := hright ⟨r1, r2⟩
  dsimp only at hleft hright P4
  have hd4 : d4.size = n := by rw [r3, s3n]
  refine fin_code ?_
  refine run_seq ?_
  refine run_region rfl ?_
  refine op_move rfl rfl ?_
  refine op_move rfl rfl ?_
  refine op_move rfl rfl ?_
  refine op_move rfl rfl ?_
  ((first | (apply op_call; (· exact rfl)) | apply op_call0); (· exact rfl); rotate_left 1; (· exact fun w hG hw => P4 w hw); rotate_right 1; (· (repeat (first | exact Picks.nil | (apply Picks.cons; (· (repeat (first | exact Pick.here | apply Pick.there)))) | apply Picks.empty))))
  intro _ _
  by_cases h4 : mid - a < b - mid
  · have hleft := hleft h4
    obtain ⟨pL, sL⟩ := Sort.pdq_sorts lt hS d4 a mid r.lim true true (by omega) (by omega) r4
    have hds : (Sort.pdq lt d4 a mid r.lim true true).size = n := by rw [pL.1, hd4]
    have hBr := (r6 _ pL sL).1
    have P5 := fun w hw => ih w d4 _ _ _ a mid r.lim hd4 rfl rfl rfl (by omega) (by omega) (by omega) (by omega) r4 hw
    generalize Sort.pdq lt d4 a mid r.lim true true = d5 at *
    by_cases hwb : mid - a ≥ (b - a) / 8
    · rw [decide_eq_true hwb] at hleft
      refine op_move rfl rfl ?_
      refine op_extract rfl rfl rfl ?_
      refine op_extract rfl rfl rfl ?_
      refine op_assign rfl rfl ?_
      refine op_assign rfl rfl ?_
      refine ops_nil ?_
      refine fin_code ?_
      refine run_seq ?_
      refine run_region rfl ?_
      refine op_move rfl rfl ?_
      refine op_assign rfl rfl ?_
      refine ops_nil ?_
      refine fin_code ?_
      refine run_seq ?_
      refine run_region rfl ?_
      refine op_move rfl rfl ?_
      refine op_move rfl rfl ?_
      refine op_sub rfl rfl rfl (by simp only [kLo, kHi]; omega) ?_
      refine op_move rfl rfl ?_
      refine op_move rfl rfl ?_
      refine op_sub rfl rfl rfl (by simp only [kLo, kHi]; omega) ?_
      refine op_assign rfl rfl ?_
      refine op_assign rfl rfl ?_
      refine ops_nil ?_
      refine fin_code ?_
      refine run_seq ?_
      refine run_region rfl ?_
      refine op_move rfl rfl ?_
      (refine op_quoE rfl rfl (by assumption) (by omega) (by simp only [kHi]; omega) rfl ?_)
      refine op_assign rfl rfl ?_
      refine ops_nil ?_
      refine fin_code ?_
      refine run_seq ?_
      refine run_region rfl ?_
      refine op_move rfl rfl ?_
      refine op_move rfl rfl ?_
      refine op_cmp_t rfl rfl rfl rfl (by first | (simp only [cmpP]; done) | (simp only [cmpP]; omega)) ?_
      refine ops_nil ?_
      refine fin_code ?_
      refine run_cond_t rfl ?_
      refine run_seq ?_
      refine run_region rfl ?_
      refine op_move rfl rfl ?_
      refine op_move rfl rfl ?_
      refine op_cmp_t rfl rfl rfl rfl (by first | (simp only [cmpP]; done) | (simp only [cmpP]; omega)) ?_
      refine op_assign rfl rfl ?_
      refine ops_nil ?_
      refine fin_code ?_
      refine run_seq ?_
      refine run_region rfl ?_
      refine op_move rfl rfl ?_
      refine op_move rfl rfl ?_
      refine op_move rfl rfl ?_
      refine op_move rfl rfl ?_
      ((first | (apply op_call; (· exact rfl)) | apply op_call0); (· exact rfl); rotate_left 1; (· exact fun w hG hw => P5 w hw); rotate_right 1; (· (repeat (first | exact Picks.nil | (apply Picks.cons; (· (repeat (first | exact Pick.here | apply Pick.there)))) | apply Picks.empty))))
      intro _ _
      refine ops_nil ?_
      refine fin_code ?_
      refine run_region rfl ?_
      refine op_move rfl rfl ?_
      refine op_add rfl rfl rfl (by simp only [kLo, kHi]; omega) ?_
      refine op_assign rfl rfl ?_
      refine ops_nil ?_
      refine fin_block ?_
      refine fin_round (mid + 1, b, r.lim, true, ap, d5) (by dsimp only; omega) (by (repeat (first | exact Sub.nil _ | (refine Sub.cons rfl ?_)))) (by (apply le_of_picks; (repeat (first | exact Picks.nil | (apply Picks.cons; (· (repeat (first | exact Pick.here | apply Pick.there)))) | apply Picks.empty)))) ⟨by dsimp only; omega, hbn, by dsimp only; omega, by dsimp only; omega, hds, hBr, hleft.symm⟩
    · rw [decide_eq_false hwb] at hleft
      refine op_move rfl rfl ?_
      refine op_extract rfl rfl rfl ?_
      refine op_extract rfl rfl rfl ?_
      refine op_assign rfl rfl ?_
      refine op_assign rfl rfl ?_
      refine ops_nil ?_
      refine fin_code ?_
      refine run_seq ?_
      refine run_region rfl ?_
      refine op_move rfl rfl ?_
      refine op_assign rfl rfl ?_
      refine ops_nil ?_
      refine fin_code ?_
      refine run_seq ?_
      refine run_region rfl ?_
      refine op_move rfl rfl ?_
      refine op_move rfl rfl ?_
      refine op_sub rfl rfl rfl (by simp only [kLo, kHi]; omega) ?_
      refine op_move rfl rfl ?_
      refine op_move rfl rfl ?_
      refine op_sub rfl rfl rfl (by simp only [kLo, kHi]; omega) ?_
      refine op_assign rfl rfl ?_
      refine op_assign rfl rfl ?_
      refine ops_nil ?_
      refine fin_code ?_
      refine run_seq ?_
      refine run_region rfl ?_
      refine op_move rfl rfl ?_
      (refine op_quoE rfl rfl (by assumption) (by omega) (by simp only [kHi]; omega) rfl ?_)
      refine op_assign rfl rfl ?_
      refine ops_nil ?_
      refine fin_code ?_
      refine run_seq ?_
      refine run_region rfl ?_
      refine op_move rfl rfl ?_
      refine op_move rfl rfl ?_
      refine op_cmp_t rfl rfl rfl rfl (by first | (simp only [cmpP]; done) | (simp only [cmpP]; omega)) ?_
      refine ops_nil ?_
      refine fin_code ?_
      refine run_cond_t rfl ?_
      refine run_seq ?_
      refine run_region rfl ?_
      refine op_move rfl rfl ?_
      refine op_move rfl rfl ?_
      refine op_cmp_f rfl rfl rfl rfl (by first | (simp only [cmpP]; done) | (simp only [cmpP]; omega)) ?_
      refine op_assign rfl rfl ?_
      refine ops_nil ?_
      refine fin_code ?_
      refine run_seq ?_
      refine run_region rfl ?_
      refine op_move rfl rfl ?_
      refine op_move rfl rfl ?_
      refine op_move rfl rfl ?_
      refine op_move rfl rfl ?_
      ((first | (apply op_call; (· exact rfl)) | apply op_call0); (· exact rfl); rotate_left 1; (· exact fun w hG hw => P5 w hw); rotate_right 1; (· (repeat (first | exact Picks.nil | (apply Picks.cons; (· (repeat (first | exact Pick.here | apply Pick.there)))) | apply Picks.empty))))
      intro _ _
      refine ops_nil ?_
      refine fin_code ?_
      refine run_region rfl ?_
      refine op_move rfl rfl ?_
      refine op_add rfl rfl rfl (by simp only [kLo, kHi]; omega) ?_
      refine op_assign rfl rfl ?_
      refine ops_nil ?_
      refine fin_block ?_
      refine fin_round (mid + 1, b, r.lim, false, ap, d5) (by dsimp only; omega) (by (repeat (first | exact Sub.nil _ | (refine Sub.cons rfl ?_)))) (by (apply le_of_picks; (repeat (first | exact Picks.nil | (apply Picks.cons; (· (repeat (first | exact Pick.here | apply Pick.there)))) | apply Picks.empty)))) ⟨by dsimp only; omega, hbn, by dsimp only; omega, by dsimp only; omega, hds, hBr, hleft.symm⟩
  · have hright := hright h4
    obtain ⟨pL, sL⟩ := Sort.pdq_sorts lt hS d4 (mid + 1) b r.lim true true (by omega) (by omega) r5
    have hds : (Sort.pdq lt d4 (mid + 1) b r.lim true true).size = n := by rw [pL.1, hd4]
    have hBr := (r7 _ pL sL).1
    have P5 := fun (A : Int) hA w hw => ih w d4 A _ _ (mid + 1) b r.lim hd4 hA rfl rfl (by omega) (by omega) (by omega) (by omega) r5 hw
    generalize Sort.pdq lt d4 (mid + 1) b r.lim true true = d5 at *
    by_cases hwb : b - mid ≥ (b - a) / 8
    · rw [decide_eq_true hwb] at hright
      refine op_move rfl rfl ?_
      refine op_extract rfl rfl rfl ?_
      refine op_extract rfl rfl rfl ?_
      refine op_assign rfl rfl ?_
      refine op_assign rfl rfl ?_
      refine ops_nil ?_
      refine fin_code ?_
      refine run_seq ?_
      refine run_region rfl ?_
      refine op_move rfl rfl ?_
      refine op_assign rfl rfl ?_
      refine ops_nil ?_
      refine fin_code ?_
      refine run_seq ?_
      refine run_region rfl ?_
      refine op_move rfl rfl ?_
      refine op_move rfl rfl ?_
      refine op_sub rfl rfl rfl (by simp only [kLo, kHi]; omega) ?_
      refine op_move rfl rfl ?_
      refine op_move rfl rfl ?_
      refine op_sub rfl rfl rfl (by simp only [kLo, kHi]; omega) ?_
      refine op_assign rfl rfl ?_
      refine op_assign rfl rfl ?_
      refine ops_nil ?_
      refine fin_code ?_
      refine run_seq ?_
      refine run_region rfl ?_
      refine op_move rfl rfl ?_
      (refine op_quoE rfl rfl (by assumption) (by omega) (by simp only [kHi]; omega) rfl ?_)
      refine op_assign rfl rfl ?_
      refine ops_nil ?_
      refine fin_code ?_
      refine run_seq ?_
      refine run_region rfl ?_
      refine op_move rfl rfl ?_
      refine op_move rfl rfl ?_
      refine op_cmp_f rfl rfl rfl rfl (by first | (simp only [cmpP]; done) | (simp only [cmpP]; omega)) ?_
      refine ops_nil ?_
      refine fin_code ?_
      refine run_cond_f rfl ?_
      refine run_seq ?_
      refine run_region rfl ?_
      refine op_move rfl rfl ?_
      refine op_move rfl rfl ?_
      refine op_cmp_t rfl rfl rfl rfl (by first | (simp only [cmpP]; done) | (simp only [cmpP]; omega)) ?_
      refine op_assign rfl rfl ?_
      refine ops_nil ?_
      refine fin_code ?_
      refine run_seq ?_
      refine run_region rfl ?_
      refine op_move rfl rfl ?_
      refine op_move rfl rfl ?_
      refine op_add rfl rfl rfl (by simp only [kLo, kHi]; omega) ?_
      refine op_move rfl rfl ?_
      refine op_move rfl rfl ?_
      ((first | (apply op_call; (· exact rfl)) | apply op_call0); (· exact rfl); rotate_left 1; (· exact fun w hG hw => P5 _ (by omega) w hw); rotate_right 1; (· (repeat (first | exact Picks.nil | (apply Picks.cons; (· (repeat (first | exact Pick.here | apply Pick.there)))) | apply Picks.empty))))
      intro _ _
      refine ops_nil ?_
      refine fin_code ?_
      refine run_region rfl ?_
      refine op_move rfl rfl ?_
      refine op_assign rfl rfl ?_
      refine ops_nil ?_
      refine fin_block ?_
      refine fin_round (a, mid, r.lim, true, ap, d5) (by dsimp only; omega) (by (repeat (first | exact Sub.nil _ | (refine Sub.cons rfl ?_)))) (by (apply le_of_picks; (repeat (first | exact Picks.nil | (apply Picks.cons; (· (repeat (first | exact Pick.here | apply Pick.there)))) | apply Picks.empty)))) ⟨by dsimp only; omega, by dsimp only; omega, by dsimp only; omega, by dsimp only; omega, hds, hBr, hright.symm⟩
    · rw [decide_eq_false hwb] at hright
      refine op_move rfl rfl ?_
      refine op_extract rfl rfl rfl ?_
      refine op_extract rfl rfl rfl ?_
      refine op_assign rfl rfl ?_
      refine op_assign rfl rfl ?_
      refine ops_nil ?_
      refine fin_code ?_
      refine run_seq ?_
      refine run_region rfl ?_
      refine op_move rfl rfl ?_
      refine op_assign rfl rfl ?_
      refine ops_nil ?_
      refine fin_code ?_
      refine run_seq ?_
      refine run_region rfl ?_
      refine op_move rfl rfl ?_
      refine op_move rfl rfl ?_
      refine op_sub rfl rfl rfl (by simp only [kLo, kHi]; omega) ?_
      refine op_move rfl rfl ?_
      refine op_move rfl rfl ?_
      refine op_sub rfl rfl rfl (by simp only [kLo, kHi]; omega) ?_
      refine op_assign rfl rfl ?_
      refine op_assign rfl rfl ?_
      refine ops_nil ?_
      refine fin_code ?_
      refine run_seq ?_
      refine run_region rfl ?_
      refine op_move rfl rfl ?_
      (refine op_quoE rfl rfl (by assumption) (by omega) (by simp only [kHi]; omega) rfl ?_)
      refine op_assign rfl rfl ?_
      refine ops_nil ?_
      refine fin_code ?_
      refine run_seq ?_
      refine run_region rfl ?_
      refine op_move rfl rfl ?_
      refine op_move rfl rfl ?_
      refine op_cmp_f rfl rfl rfl rfl (by first | (simp only [cmpP]; done) | (simp only [cmpP]; omega)) ?_
      refine ops_nil ?_
      refine fin_code ?_
      refine run_cond_f rfl ?_
      refine run_seq ?_
      refine run_region rfl ?_
      refine op_move rfl rfl ?_
      refine op_move rfl rfl ?_
      refine op_cmp_f rfl rfl rfl rfl (by first | (simp only [cmpP]; done) | (simp only [cmpP]; omega)) ?_
      refine op_assign rfl rfl ?_
      refine ops_nil ?_
      refine fin_code ?_
      refine run_seq ?_
      refine run_region rfl ?_
      refine op_move rfl rfl ?_
      refine op_move rfl rfl ?_
      refine op_add rfl rfl rfl (by simp only [kLo, kHi]; omega) ?_
      refine op_move rfl rfl ?_
      refine op_move rfl rfl ?_
      ((first | (apply op_call; (· exact rfl)) | apply op_call0); (· exact rfl); rotate_left 1; (· exact fun w hG hw => P5 _ (by omega) w hw); rotate_right 1; (· (repeat (first | exact Picks.nil | (apply Picks.cons; (· (repeat (first | exact Pick.here | apply Pick.there)))) | apply Picks.empty))))
      intro _ _
      refine ops_nil ?_
      refine fin_code ?_
      refine run_region rfl ?_
      refine op_move rfl rfl ?_
      refine op_assign rfl rfl ?_
      refine ops_nil ?_
      refine fin_block ?_
      refine fin_round (a, mid, r.lim, false, ap, d5) (by dsimp only; omega) (by (repeat (first | exact Sub.nil _ | (refine Sub.cons rfl ?_)))) (by (apply le_of_picks; (repeat (first | exact Picks.nil | (apply Picks.cons; (· (repeat (first | exact Pick.here | apply Pick.there)))) | apply Picks.empty)))) ⟨by dsimp only; omega, by dsimp only; omega, by dsimp only; omega, by dsimp only; omega, hds, hBr, hright.symm⟩
set_option maxRecDepth 100000 in
set_option maxHeartbeats 8000000 in
/-- sort.Sort: a permutation, sorted. -/
theorem sort_any (D : SD L rv n lt) (hS : Sort.SWO lt) (hlen : ∀ w, Calls Tryd.prog 84 #[rv] w (Post w ([] : List Hp).flatten (fun _ : Unit => .int .i64 n) (fun _ => ([] : List Hp).flatten) (fun _ => True))) (w : World) (d : Array α) (hd : d.size = n) (hw : At w ([L d] : List Hp).flatten) :
    Calls Tryd.prog 35 #[.iface 91 rv] w (Post w ([L d] : List Hp).flatten (fun _ : Array α => .tuple #[]) (fun d' => ([L d'] : List Hp).flatten) (fun d' => Sort.PermIn 0 n d d' ∧ Sort.SortedIn lt 0 n d')) := by
  have hfew := D.few
  refine enter [L d] Tryd.func35 rfl rfl hw (Le.refl _) ?_
  intro R hR
  by_cases h1 : n ≤ 1
  · refine run_seq ?_
    refine run_region rfl ?_
    refine op_move rfl rfl ?_
    ((first | (apply op_invE 91 84; (· infer_instance); (· infer_instance); (· exact rfl)) | (apply op_inv0E 91 84; (· infer_instance); (· infer_instance))); (· exact rfl); (· exact rfl); rotate_left 1; (· exact fun w hG hw => hlen w); rotate_right 1; (· (repeat (first | exact Picks.nil | (apply Picks.cons; (· (repeat (first | exact Pick.here | apply Pick.there)))) | apply Picks.empty))))
    intro _ _
    refine op_assign rfl rfl ?_
    refine ops_nil ?_
    refine fin_code ?_
    refine run_seq ?_
    refine run_seq ?_
    refine run_region rfl ?_
    refine op_move rfl rfl ?_
    refine op_cmp_t rfl rfl rfl rfl (by first | (simp only [cmpP]; done) | (simp only [cmpP]; omega)) ?_
    refine ops_nil ?_
    refine fin_code ?_
    refine run_cond_t rfl ?_
    refine run_ret ?_
    refine fin_ret_code ?_
    refine fin_ret0 (.inl rfl) rfl ?_
    intro w' g
    exact hR _ _ (post_of g d ⟨Sort.permIn_refl d 0 n, fun i j h1 h2 h3 => by omega⟩ rfl (by (apply le_of_picks; (repeat (first | exact Picks.nil | (apply Picks.cons; (· (repeat (first | exact Pick.here | apply Pick.there)))) | apply Picks.empty)))))
  · have hs := Sort.pdq_sorts lt hS d 0 n (Sort.bitsLen n) true true (Nat.zero_le _) (by omega) (.inl rfl)
    have hb := bitsLen_17 (m := n) (by omega)
    have P1 := fun w hw => pdq_any D hS (n + 1) w d _ _ _ 0 n (Sort.bitsLen n) hd rfl rfl rfl (Nat.zero_le _) (Nat.le_refl _) (by omega) (by omega) (.inl rfl) hw
    generalize Sort.pdq lt d 0 n (Sort.bitsLen n) true true = d' at *
    refine run_seq ?_
    refine run_region rfl ?_
    refine op_move rfl rfl ?_
    ((first | (apply op_invE 91 84; (· infer_instance); (· infer_instance); (· exact rfl)) | (apply op_inv0E 91 84; (· infer_instance); (· infer_instance))); (· exact rfl); (· exact rfl); rotate_left 1; (· exact fun w hG hw => hlen w); rotate_right 1; (· (repeat (first | exact Picks.nil | (apply Picks.cons; (· (repeat (first | exact Pick.here | apply Pick.there)))) | apply Picks.empty))))
    intro _ _
    refine op_assign rfl rfl ?_
    refine ops_nil ?_
    refine fin_code ?_
    refine run_seq ?_
    refine run_seq ?_
    refine run_region rfl ?_
    refine op_move rfl rfl ?_
    refine op_cmp_f rfl rfl rfl rfl (by first | (simp only [cmpP]; done) | (simp only [cmpP]; omega)) ?_
    refine ops_nil ?_
    refine fin_code ?_
    refine run_cond_f rfl ?_
    refine run_skip ?_
    refine fin_code ?_
    refine run_seq ?_
    refine run_region rfl ?_
    refine op_move rfl rfl ?_
    refine op_conv rfl rfl (by simp only [kLo, kHi]; omega) ?_
    ((first | (apply op_call; (· exact rfl)) | apply op_call0); (· exact rfl); rotate_left 1; (· exact fun w hG hw => blen_any w n (by omega)); rotate_right 1; (· (repeat (first | exact Picks.nil | (apply Picks.cons; (· (repeat (first | exact Pick.here | apply Pick.there)))) | apply Picks.empty))))
    intro _ _
    refine op_assign rfl rfl ?_
    refine ops_nil ?_
    refine fin_code ?_
    refine run_region rfl ?_
    refine op_move rfl rfl ?_
    refine op_move rfl rfl ?_
    refine op_move rfl rfl ?_
    ((first | (apply op_call; (· exact rfl)) | apply op_call0); (· exact rfl); rotate_left 1; (· exact fun w hG hw => P1 w hw); rotate_right 1; (· (repeat (first | exact Picks.nil | (apply Picks.cons; (· (repeat (first | exact Pick.here | apply Pick.there)))) | apply Picks.empty))))
    intro _ _
    refine ops_nil ?_
    refine fin_ret0 (.inr rfl) rfl ?_
    intro w' g
    exact hR _ _ (post_of g d' hs rfl (by (apply le_of_picks; (repeat (first | exact Picks.nil | (apply Picks.cons; (· (repeat (first | exact Pick.here | apply Pick.there)))) | apply Picks.empty)))))
end
end Go.Proofs.Eng
