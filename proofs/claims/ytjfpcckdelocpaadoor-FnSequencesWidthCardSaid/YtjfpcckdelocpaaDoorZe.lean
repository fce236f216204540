/- A part of the proof: what functions of the program do, step by step. -/
import Derived.Test.YtjfpcckdelocpaaDoorZd
set_option linter.unusedVariables false
set_option linter.unusedSimpArgs false
namespace Go.Proofs.Eng
open Go.RowKit
/-- Sequences that are only read. -/
structure RdS (w : World) (A : Option Addr) (qs : List (List (Nat × Nat))) (vs : List Value) : Prop where
  row : Rd w w.heap.size A vs
  len : vs.length = qs.length
  each : ∀ i (h : i < qs.length), ∃ Ai ci, vs[i]? = some (.slice Ai qs[i].length ci) ∧ Rd w w.heap.size Ai (encQ qs[i])
theorem RdS.now {w0 w : World} {L : Hp} {A : Option Addr} {qs : List (List (Nat × Nat))} {vs : List Value} (h : RdS w0 A qs vs) (g : Goes w0 [] w L) : RdS w A qs vs :=
  ⟨h.row.now g, h.len, fun i hi => by
    obtain ⟨Ai, ci, h1, h2⟩ := h.each i hi
    exact ⟨Ai, ci, h1, h2.now g⟩⟩
def covN (qs : List (List (Nat × Nat))) (b : List Nat) : Nat := qs.countP (fun q => covB q b)
theorem covN_succ {qs : List (List (Nat × Nat))} {b : List Nat} {i : Nat} (h : i < qs.length) : covN (qs.take (i + 1)) b = covN (qs.take i) b + (if covB qs[i] b then 1 else 0) := by
  rw [covN, List.take_succ_eq_append_getElem h, List.countP_append]; simp [covN, List.countP_cons]
theorem covN_pos {qs : List (List (Nat × Nat))} {b : List Nat} : 0 < covN qs b ↔ ∃ q ∈ qs, covB q b = true := by simp [covN, List.countP_pos_iff]
set_option maxRecDepth 100000 in
set_option maxHeartbeats 4000000 in
theorem covered_any (w0 : World) (A B : Option Addr) (qs : List (List (Nat × Nat))) (vs : List Value) (b : List Nat) (c1 c2 : Nat) (hl : qs.length ≤ 100000000) (h4 : ∀ q ∈ qs, q.length ≤ 1000) (hrq : RdS w0 A qs vs) (hrb : Rd w0 w0.heap.size B (u8s b)) :
    Calls Tryd.prog 10 #[.slice A qs.length c1, .slice B b.length c2] w0 (Post w0 ([] : List Hp).flatten (fun _ : Unit => .int .i64 (covN qs b : Nat)) (fun _ => ([] : List Hp).flatten) (fun _ => True)) := by
  refine enter [] Tryd.func10 rfl rfl (At.nil w0) (Le.refl _) ?_
  intro R hR
  refine run_seq ?_
  refine run_region rfl ?_
  refine op_assign rfl rfl ?_
  refine ops_nil ?_
  refine fin_code ?_
  refine run_seq ?_
  refine run_region rfl ?_
  refine op_assign rfl rfl ?_
  refine ops_nil ?_
  refine fin_code ?_
  refine run_seq ?_
  refine run_seq ?_
  refine run_region rfl ?_
  refine op_assign rfl rfl ?_
  refine ops_nil ?_
  refine fin_code ?_
  refine run_block ?_
  refine run_loop (α := Nat) (fun i => [(0, .slice A qs.length c1), (1, .slice B b.length c2), (5, .int .i64 (covN (qs.take i) b : Nat)), (6, .int .i64 (i : Nat))]) (fun _ => []) (fun i => i ≤ qs.length) (fun i => qs.length - i) 0 (Nat.zero_le _) (by (repeat (first | exact Sub.nil _ | (refine Sub.cons rfl ?_)))) (by (apply le_of_picks; (repeat (first | exact Picks.nil | (apply Picks.cons; (· (repeat (first | exact Pick.here | apply Pick.there)))) | apply Picks.empty)))) ?_
  rintro i hi
  have hle : covN (qs.take i) b ≤ i := Nat.le_trans List.countP_le_length (by simp; omega)
  by_cases h : i < qs.length
  · have hlv := hrq.len
    obtain ⟨g, o, rfl, hg, hcell⟩ := hrq.row.some (by omega)
    obtain ⟨Ai, ci, hget, hri⟩ := hrq.each i h
    have h4i := h4 _ (List.getElem_mem h)
    have hs := covN_succ (b := b) h
    refine run_seq ?_
    refine run_seq ?_
    refine run_region rfl ?_
    refine op_move rfl rfl ?_
    refine op_move rfl rfl ?_
    refine op_len rfl rfl ?_
    refine op_cmp_t rfl rfl rfl rfl (by first | (simp only [cmpP]; done) | (simp only [cmpP]; omega)) ?_
    refine ops_nil ?_
    refine fin_code ?_
    refine run_cond_t rfl ?_
    refine run_skip ?_
    refine fin_code ?_
    refine run_seq ?_
    refine run_block ?_
    refine run_seq ?_
    refine run_region rfl ?_
    refine op_move rfl rfl ?_
    refine op_move rfl rfl ?_
    refine op_index rfl rfl rfl (by omega) (by first | (rw [Int.toNat_natCast, Nat.mul_one, Nat.zero_add]) | (rw [Int.toNat_natCast, Nat.mul_one]) | (rw [Int.toNat_natCast, Nat.zero_add]) | (rw [Int.toNat_natCast]) | exact rfl) ?_
    (apply op_load; (· exact rfl); (· exact rfl); (· exact Rd.cellE hcell hg (by simp [ids]) (by first | rfl | omega) hget))
    refine op_move rfl rfl ?_
    ((first | (apply op_call; (· exact rfl)) | apply op_call0); (· exact rfl)); (case' hc => (refine fun w hG hw => covers_any w Ai B qs[i] b ci c2 (covB qs[i] b) rfl (by simp only [maxLen]; omega) ?_ ?_)); (case hp => (repeat (first | exact Picks.nil | (apply Picks.cons; (· (repeat (first | exact Pick.here | apply Pick.there)))) | apply Picks.empty)))
    · exact hri.now hG
    · exact hrb.now hG
    intro _ _
    cases hcv : covB qs[i] b with
    | true =>
      rw [hcv] at hs
      refine ops_nil ?_
      refine fin_code ?_
      refine run_cond_t rfl ?_
      refine run_region rfl ?_
      refine op_move rfl rfl ?_
      refine op_add rfl rfl rfl (by simp only [kLo, kHi]; omega) ?_
      refine op_assign rfl rfl ?_
      refine ops_nil ?_
      refine fin_block ?_
      refine fin_code ?_
      refine run_region rfl ?_
      refine op_move rfl rfl ?_
      refine op_add rfl rfl rfl (by simp only [kLo, kHi]; omega) ?_
      refine op_assign rfl rfl ?_
      refine ops_nil ?_
      refine fin_round (i + 1) (by omega) ?_ (by (apply le_of_picks; (repeat (first | exact Picks.nil | (apply Picks.cons; (· (repeat (first | exact Pick.here | apply Pick.there)))) | apply Picks.empty)))) h
      rw [hs]
      (repeat (first | exact Sub.nil _ | (refine Sub.cons rfl ?_)))
    | false =>
      rw [hcv] at hs
      refine ops_nil ?_
      refine fin_code ?_
      refine run_cond_f rfl ?_
      refine run_skip ?_
      refine fin_block ?_
      refine fin_code ?_
      refine run_region rfl ?_
      refine op_move rfl rfl ?_
      refine op_add rfl rfl rfl (by simp only [kLo, kHi]; omega) ?_
      refine op_assign rfl rfl ?_
      refine ops_nil ?_
      refine fin_round (i + 1) (by omega) ?_ (by (apply le_of_picks; (repeat (first | exact Picks.nil | (apply Picks.cons; (· (repeat (first | exact Pick.here | apply Pick.there)))) | apply Picks.empty)))) h
      rw [hs]
      (repeat (first | exact Sub.nil _ | (refine Sub.cons rfl ?_)))
  · obtain rfl : i = qs.length := by omega
    rw [List.take_length] at hle ⊢
    refine run_seq ?_
    refine run_seq ?_
    refine run_region rfl ?_
    refine op_move rfl rfl ?_
    refine op_move rfl rfl ?_
    refine op_len rfl rfl ?_
    refine op_cmp_f rfl rfl rfl rfl (by first | (simp only [cmpP]; done) | (simp only [cmpP]; omega)) ?_
    refine ops_nil ?_
    refine fin_code ?_
    refine run_cond_f rfl ?_
    refine run_exit ?_
    refine fin_exit_code ?_
    refine fin_exit_inv ?_
    refine fin_exit_here ?_
    refine fin_code ?_
    refine run_seq ?_
    refine run_region rfl ?_
    refine op_move rfl rfl ?_
    refine op_assign rfl rfl ?_
    refine ops_nil ?_
    refine fin_code ?_
    refine run_ret ?_
    refine fin_ret1 rfl rfl ?_
    intro w' g
    exact hR _ _ (post_of g () trivial rfl (by (apply le_of_picks; (repeat (first | exact Picks.nil | (apply Picks.cons; (· (repeat (first | exact Pick.here | apply Pick.there)))) | apply Picks.empty)))))
set_option maxRecDepth 100000 in
set_option maxHeartbeats 4000000 in
theorem between_any (w0 : World) (lo hi : Nat) (hle : lo ≤ hi) (hm : hi ≤ 1114111) :
    Calls Tryd.prog 11 #[.int .i64 lo, .int .i64 hi] w0 (Post w0 ([] : List Hp).flatten (fun n : Int => .int .i64 n) (fun _ => ([] : List Hp).flatten) (fun n => 0 < n ↔ ∃ r, isL r ∧ lo ≤ r ∧ r ≤ hi)) := by
  refine enter [] Tryd.func11 rfl rfl (At.nil w0) (Le.refl _) ?_
  intro R hR
  by_cases h1 : max (lo : Int) 55296 ≤ min (hi : Int) 57343
  · refine run_seq ?_
    refine run_region rfl ?_
    refine op_assign rfl rfl ?_
    refine ops_nil ?_
    refine fin_code ?_
    refine run_seq ?_
    refine run_seq ?_
    refine run_region rfl ?_
    refine op_move rfl rfl ?_
    refine op_move rfl rfl ?_
    refine op_cmp_f rfl rfl rfl rfl (by first | (simp only [cmpP]; done) | (simp only [cmpP]; omega)) ?_
    refine ops_nil ?_
    refine fin_code ?_
    refine run_cond_f rfl ?_
    refine run_skip ?_
    refine fin_code ?_
    refine run_seq ?_
    refine run_region rfl ?_
    refine op_move rfl rfl ?_
    refine op_move rfl rfl ?_
    refine op_sub rfl rfl rfl (by simp only [kLo, kHi]; omega) ?_
    refine op_add rfl rfl rfl (by simp only [kLo, kHi]; omega) ?_
    refine op_assign rfl rfl ?_
    refine ops_nil ?_
    refine fin_code ?_
    refine run_seq ?_
    refine run_region rfl ?_
    refine op_move rfl rfl ?_
    refine op_max rfl rfl rfl ?_
    refine op_move rfl rfl ?_
    refine op_min rfl rfl rfl ?_
    refine op_assign rfl rfl ?_
    refine op_assign rfl rfl ?_
    refine ops_nil ?_
    refine fin_code ?_
    refine run_seq ?_
    refine run_seq ?_
    refine run_region rfl ?_
    refine op_move rfl rfl ?_
    refine op_move rfl rfl ?_
    refine op_cmp_t rfl rfl rfl rfl (by first | (simp only [cmpP]; done) | (simp only [cmpP]; omega)) ?_
    refine ops_nil ?_
    refine fin_code ?_
    refine run_cond_t rfl ?_
    refine run_region rfl ?_
    refine op_move rfl rfl ?_
    refine op_move rfl rfl ?_
    refine op_move rfl rfl ?_
    refine op_sub rfl rfl rfl (by simp only [kLo, kHi]; omega) ?_
    refine op_add rfl rfl rfl (by simp only [kLo, kHi]; omega) ?_
    refine op_sub rfl rfl rfl (by simp only [kLo, kHi]; omega) ?_
    refine op_assign rfl rfl ?_
    refine ops_nil ?_
    refine fin_code ?_
    refine run_seq ?_
    refine run_region rfl ?_
    refine op_move rfl rfl ?_
    refine op_assign rfl rfl ?_
    refine ops_nil ?_
    refine fin_code ?_
    refine run_ret ?_
    refine fin_ret1 rfl rfl ?_
    intro w' g
    refine hR _ _ (post_of g _ ?_ rfl (by (apply le_of_picks; (repeat (first | exact Picks.nil | (apply Picks.cons; (· (repeat (first | exact Pick.here | apply Pick.there)))) | apply Picks.empty)))))
    constructor
    · intro h
      by_cases h2 : lo < 55296
      · exact ⟨lo, ⟨by omega, .inl h2⟩, Nat.le_refl _, hle⟩
      · exact ⟨hi, ⟨hm, .inr (by omega)⟩, hle, Nat.le_refl _⟩
    · rintro ⟨r, ⟨h2, h3⟩, h4, h5⟩
      omega
  · refine run_seq ?_
    refine run_region rfl ?_
    refine op_assign rfl rfl ?_
    refine ops_nil ?_
    refine fin_code ?_
    refine run_seq ?_
    refine run_seq ?_
    refine run_region rfl ?_
    refine op_move rfl rfl ?_
    refine op_move rfl rfl ?_
    refine op_cmp_f rfl rfl rfl rfl (by first | (simp only [cmpP]; done) | (simp only [cmpP]; omega)) ?_
    refine ops_nil ?_
    refine fin_code ?_
    refine run_cond_f rfl ?_
    refine run_skip ?_
    refine fin_code ?_
    refine run_seq ?_
    refine run_region rfl ?_
    refine op_move rfl rfl ?_
    refine op_move rfl rfl ?_
    refine op_sub rfl rfl rfl (by simp only [kLo, kHi]; omega) ?_
    refine op_add rfl rfl rfl (by simp only [kLo, kHi]; omega) ?_
    refine op_assign rfl rfl ?_
    refine ops_nil ?_
    refine fin_code ?_
    refine run_seq ?_
    refine run_region rfl ?_
    refine op_move rfl rfl ?_
    refine op_max rfl rfl rfl ?_
    refine op_move rfl rfl ?_
    refine op_min rfl rfl rfl ?_
    refine op_assign rfl rfl ?_
    refine op_assign rfl rfl ?_
    refine ops_nil ?_
    refine fin_code ?_
    refine run_seq ?_
    refine run_seq ?_
    refine run_region rfl ?_
    refine op_move rfl rfl ?_
    refine op_move rfl rfl ?_
    refine op_cmp_f rfl rfl rfl rfl (by first | (simp only [cmpP]; done) | (simp only [cmpP]; omega)) ?_
    refine ops_nil ?_
    refine fin_code ?_
    refine run_cond_f rfl ?_
    refine run_skip ?_
    refine fin_code ?_
    refine run_seq ?_
    refine run_region rfl ?_
    refine op_move rfl rfl ?_
    refine op_assign rfl rfl ?_
    refine ops_nil ?_
    refine fin_code ?_
    refine run_ret ?_
    refine fin_ret1 rfl rfl ?_
    intro w' g
    refine hR _ _ (post_of g _ ?_ rfl (by (apply le_of_picks; (repeat (first | exact Picks.nil | (apply Picks.cons; (· (repeat (first | exact Pick.here | apply Pick.there)))) | apply Picks.empty)))))
    constructor
    · intro h
      exact ⟨lo, ⟨by omega, by omega⟩, Nat.le_refl _, hle⟩
    · intro _
      omega
set_option maxRecDepth 100000 in
theorem ranged_any (w : World) (a c : Int) (b : Bool) (hb : b = true ↔ (0 ≤ a ∧ a ≤ c ∧ c ≤ 1114111)) :
    Calls Tryd.prog 7 #[.int .i32 a, .int .i32 c] w (Post w ([] : List Hp).flatten (fun _ : Unit => .bool b) (fun _ => ([] : List Hp).flatten) (fun _ => True)) := by
  refine enter [] Tryd.func7 rfl rfl (At.nil w) (Le.refl _) ?_
  intro R hR
  by_cases h1 : 0 ≤ a
  · by_cases h2 : a ≤ c
    · by_cases h3 : c ≤ 1114111
      · obtain rfl := hb.2 ⟨h1, h2, h3⟩
        refine run_seq ?_
        refine run_region rfl ?_
        refine op_assign rfl rfl ?_
        refine ops_nil ?_
        refine fin_code ?_
        refine run_seq ?_
        refine run_region rfl ?_
        refine op_move rfl rfl ?_
        refine op_cmp_t rfl rfl rfl rfl (by first | (simp only [cmpP]; done) | (simp only [cmpP]; omega)) ?_
        refine op_move rfl rfl ?_
        refine ops_guard_yes rfl rfl rfl ?_
        refine op_move rfl rfl ?_
        refine ops_guard_yes rfl rfl rfl ?_
        refine op_move rfl rfl ?_
        refine ops_guard_yes rfl rfl rfl ?_
        refine op_cmp_t rfl rfl rfl rfl (by first | (simp only [cmpP]; done) | (simp only [cmpP]; omega)) ?_
        refine op_pick_t rfl rfl rfl ?_
        refine op_move rfl rfl ?_
        refine ops_guard_yes rfl rfl rfl ?_
        refine op_move rfl rfl ?_
        refine ops_guard_yes rfl rfl rfl ?_
        refine op_cmp_t rfl rfl rfl rfl (by first | (simp only [cmpP]; done) | (simp only [cmpP]; omega)) ?_
        refine op_pick_t rfl rfl rfl ?_
        refine op_assign rfl rfl ?_
        refine ops_nil ?_
        refine fin_code ?_
        refine run_ret ?_
        refine fin_ret1 rfl rfl ?_
        intro w' g
        exact hR _ _ (post_of g () trivial rfl (by (apply le_of_picks; (repeat (first | exact Picks.nil | (apply Picks.cons; (· (repeat (first | exact Pick.here | apply Pick.there)))) | apply Picks.empty)))))
      · obtain rfl : b = false := by cases b with | false => rfl | true => exact absurd (hb.1 rfl).2.2 h3
        refine run_seq ?_
        refine run_region rfl ?_
        refine op_assign rfl rfl ?_
        refine ops_nil ?_
        refine fin_code ?_
        refine run_seq ?_
        refine run_region rfl ?_
        refine op_move rfl rfl ?_
        refine op_cmp_t rfl rfl rfl rfl (by first | (simp only [cmpP]; done) | (simp only [cmpP]; omega)) ?_
        refine op_move rfl rfl ?_
        refine ops_guard_yes rfl rfl rfl ?_
        refine op_move rfl rfl ?_
        refine ops_guard_yes rfl rfl rfl ?_
        refine op_move rfl rfl ?_
        refine ops_guard_yes rfl rfl rfl ?_
        refine op_cmp_t rfl rfl rfl rfl (by first | (simp only [cmpP]; done) | (simp only [cmpP]; omega)) ?_
        refine op_pick_t rfl rfl rfl ?_
        refine op_move rfl rfl ?_
        refine ops_guard_yes rfl rfl rfl ?_
        refine op_move rfl rfl ?_
        refine ops_guard_yes rfl rfl rfl ?_
        refine op_cmp_f rfl rfl rfl rfl (by first | (simp only [cmpP]; done) | (simp only [cmpP]; omega)) ?_
        refine op_pick_t rfl rfl rfl ?_
        refine op_assign rfl rfl ?_
        refine ops_nil ?_
        refine fin_code ?_
        refine run_ret ?_
        refine fin_ret1 rfl rfl ?_
        intro w' g
        exact hR _ _ (post_of g () trivial rfl (by (apply le_of_picks; (repeat (first | exact Picks.nil | (apply Picks.cons; (· (repeat (first | exact Pick.here | apply Pick.there)))) | apply Picks.empty)))))
    · obtain rfl : b = false := by cases b with | false => rfl | true => exact absurd (hb.1 rfl).2.1 h2
      refine run_seq ?_
      refine run_region rfl ?_
      refine op_assign rfl rfl ?_
      refine ops_nil ?_
      refine fin_code ?_
      refine run_seq ?_
      refine run_region rfl ?_
      refine op_move rfl rfl ?_
      refine op_cmp_t rfl rfl rfl rfl (by first | (simp only [cmpP]; done) | (simp only [cmpP]; omega)) ?_
      refine op_move rfl rfl ?_
      refine ops_guard_yes rfl rfl rfl ?_
      refine op_move rfl rfl ?_
      refine ops_guard_yes rfl rfl rfl ?_
      refine op_move rfl rfl ?_
      refine ops_guard_yes rfl rfl rfl ?_
      refine op_cmp_f rfl rfl rfl rfl (by first | (simp only [cmpP]; done) | (simp only [cmpP]; omega)) ?_
      refine op_pick_t rfl rfl rfl ?_
      refine op_move rfl rfl ?_
      refine ops_off1 rfl rfl ?_
      refine ops_off1 rfl rfl ?_
      refine op_pick_f rfl rfl rfl ?_
      refine op_assign rfl rfl ?_
      refine ops_nil ?_
      refine fin_code ?_
      refine run_ret ?_
      refine fin_ret1 rfl rfl ?_
      intro w' g
      exact hR _ _ (post_of g () trivial rfl (by (apply le_of_picks; (repeat (first | exact Picks.nil | (apply Picks.cons; (· (repeat (first | exact Pick.here | apply Pick.there)))) | apply Picks.empty)))))
  · obtain rfl : b = false := by cases b with | false => rfl | true => exact absurd (hb.1 rfl).1 h1
    refine run_seq ?_
    refine run_region rfl ?_
    refine op_assign rfl rfl ?_
    refine ops_nil ?_
    refine fin_code ?_
    refine run_seq ?_
    refine run_region rfl ?_
    refine op_move rfl rfl ?_
    refine op_cmp_f rfl rfl rfl rfl (by first | (simp only [cmpP]; done) | (simp only [cmpP]; omega)) ?_
    refine op_move rfl rfl ?_
    refine ops_off1 rfl rfl ?_
    refine ops_off1 rfl rfl ?_
    refine ops_off1 rfl rfl ?_
    refine op_pick_f rfl rfl rfl ?_
    refine op_move rfl rfl ?_
    refine ops_off1 rfl rfl ?_
    refine ops_off1 rfl rfl ?_
    refine op_pick_f rfl rfl rfl ?_
    refine op_assign rfl rfl ?_
    refine ops_nil ?_
    refine fin_code ?_
    refine run_ret ?_
    refine fin_ret1 rfl rfl ?_
    intro w' g
    exact hR _ _ (post_of g () trivial rfl (by (apply le_of_picks; (repeat (first | exact Picks.nil | (apply Picks.cons; (· (repeat (first | exact Pick.here | apply Pick.there)))) | apply Picks.empty)))))
set_option maxRecDepth 100000 in
theorem rmatch_any (w : World) (a c x : Nat) (b : Bool) (hb : decide (a ≤ x ∧ x ≤ c) = b) :
    Calls Tryd.prog 37 #[.agg #[.int .u8 a, .int .u8 c], .int .u8 x] w (Post w ([] : List Hp).flatten (fun _ : Unit => .bool b) (fun _ => ([] : List Hp).flatten) (fun _ => True)) := by
  refine enter [] Tryd.func37 rfl rfl (At.nil w) (Le.refl _) ?_
  intro R hR
  by_cases h1 : a ≤ x
  all_goals
    by_cases h2 : x ≤ c
    all_goals
      first | (refine run_seq ?_; refine run_region rfl ?_; (refine op_box rfl rfl ?_; intro _ _); refine op_assign rfl rfl ?_; refine ops_nil ?_; refine fin_code ?_; refine run_seq ?_; refine run_seq ?_; refine run_region rfl ?_; refine op_fieldAddr rfl rfl ?_; (apply op_load; (· exact rfl); (· exact rfl); (· apply cell_of_has; (· (repeat (first | exact Has.here | apply Has.there))); (· first | exact rfl | exact nats_get _ _ _ (by omega)))); refine op_move rfl rfl ?_; refine op_cmp_t rfl rfl rfl rfl (by first | (simp only [cmpP]; done) | (simp only [cmpP]; omega)) ?_; refine op_move rfl rfl ?_; refine ops_guard_yes rfl rfl rfl ?_; refine op_move rfl rfl ?_; refine ops_guard_yes rfl rfl rfl ?_; refine op_fieldAddr rfl rfl ?_; refine ops_guard_yes rfl rfl rfl ?_; (apply op_load; (· exact rfl); (· exact rfl); (· apply cell_of_has; (· (repeat (first | exact Has.here | apply Has.there))); (· first | exact rfl | exact nats_get _ _ _ (by omega)))); refine ops_guard_yes rfl rfl rfl ?_; refine op_cmp_f rfl rfl rfl rfl (by first | (simp only [cmpP]; done) | (simp only [cmpP]; omega)) ?_; refine op_pick_t rfl rfl rfl ?_; refine ops_nil ?_; refine fin_code ?_; refine run_cond_f rfl ?_; refine run_skip ?_; refine fin_code ?_; refine run_seq ?_; refine run_region rfl ?_; refine op_assign rfl rfl ?_; refine ops_nil ?_; refine fin_code ?_; refine run_ret ?_) | (refine run_seq ?_; refine run_region rfl ?_; (refine op_box rfl rfl ?_; intro _ _); refine op_assign rfl rfl ?_; refine ops_nil ?_; refine fin_code ?_; refine run_seq ?_; refine run_seq ?_; refine run_region rfl ?_; refine op_fieldAddr rfl rfl ?_; (apply op_load; (· exact rfl); (· exact rfl); (· apply cell_of_has; (· (repeat (first | exact Has.here | apply Has.there))); (· first | exact rfl | exact nats_get _ _ _ (by omega)))); refine op_move rfl rfl ?_; refine op_cmp_t rfl rfl rfl rfl (by first | (simp only [cmpP]; done) | (simp only [cmpP]; omega)) ?_; refine op_move rfl rfl ?_; refine ops_guard_yes rfl rfl rfl ?_; refine op_move rfl rfl ?_; refine ops_guard_yes rfl rfl rfl ?_; refine op_fieldAddr rfl rfl ?_; refine ops_guard_yes rfl rfl rfl ?_; (apply op_load; (· exact rfl); (· exact rfl); (· apply cell_of_has; (· (repeat (first | exact Has.here | apply Has.there))); (· first | exact rfl | exact nats_get _ _ _ (by omega)))); refine ops_guard_yes rfl rfl rfl ?_; refine op_cmp_t rfl rfl rfl rfl (by first | (simp only [cmpP]; done) | (simp only [cmpP]; omega)) ?_; refine op_pick_t rfl rfl rfl ?_; refine ops_nil ?_; refine fin_code ?_; refine run_cond_t rfl ?_; refine run_seq ?_; refine run_region rfl ?_; refine op_assign rfl rfl ?_; refine ops_nil ?_; refine fin_code ?_; refine run_ret ?_; refine fin_ret_code ?_) | (refine run_seq ?_; refine run_region rfl ?_; (refine op_box rfl rfl ?_; intro _ _); refine op_assign rfl rfl ?_; refine ops_nil ?_; refine fin_code ?_; refine run_seq ?_; refine run_seq ?_; refine run_region rfl ?_; refine op_fieldAddr rfl rfl ?_; (apply op_load; (· exact rfl); (· exact rfl); (· apply cell_of_has; (· (repeat (first | exact Has.here | apply Has.there))); (· first | exact rfl | exact nats_get _ _ _ (by omega)))); refine op_move rfl rfl ?_; refine op_cmp_f rfl rfl rfl rfl (by first | (simp only [cmpP]; done) | (simp only [cmpP]; omega)) ?_; refine op_move rfl rfl ?_; refine ops_off1 rfl rfl ?_; refine ops_off1 rfl rfl ?_; refine ops_off1 rfl rfl ?_; refine ops_off1 rfl rfl ?_; refine op_pick_f rfl rfl rfl ?_; refine ops_nil ?_; refine fin_code ?_; refine run_cond_f rfl ?_; refine run_skip ?_; refine fin_code ?_; refine run_seq ?_; refine run_region rfl ?_; refine op_assign rfl rfl ?_; refine ops_nil ?_; refine fin_code ?_; refine run_ret ?_)
      refine fin_ret1 rfl rfl ?_
      intro w' g
      exact hR _ _ (post_of g () trivial (by rw [← hb]; simp [h1, h2]) (by (apply le_of_picks; (repeat (first | exact Picks.nil | (apply Picks.cons; (· (repeat (first | exact Pick.here | apply Pick.there)))) | apply Picks.empty)))))
set_option maxRecDepth 100000 in
set_option maxHeartbeats 4000000 in
theorem matches_any (w0 : World) (A B : Option Addr) (q : List (Nat × Nat)) (b : List Nat) (c1 c2 : Nat) (v : Bool) (hv : covB q b = v) (hl : q.length ≤ maxLen) (hlb : b.length = q.length) (hrq : Rd w0 w0.heap.size A (encQ q)) (hrb : Rd w0 w0.heap.size B (u8s b)) :
    Calls Tryd.prog 27 #[.slice A q.length c1, .slice B b.length c2] w0 (Post w0 ([] : List Hp).flatten (fun _ : Unit => .bool v) (fun _ => ([] : List Hp).flatten) (fun _ => True)) := by
  refine enter [] Tryd.func27 rfl rfl (At.nil w0) (Le.refl _) ?_
  intro R hR
  simp only [maxLen] at hl
  rw [hlb]
  refine run_seq ?_
  refine run_region rfl ?_
  refine op_assign rfl rfl ?_
  refine ops_nil ?_
  refine fin_code ?_
  refine run_seq ?_
  refine run_seq ?_
  refine run_region rfl ?_
  refine op_move rfl rfl ?_
  refine op_len rfl rfl ?_
  refine op_move rfl rfl ?_
  refine op_len rfl rfl ?_
  refine op_cmp_f rfl rfl rfl rfl (by first | (simp only [cmpP]; done) | (simp only [cmpP]; omega)) ?_
  refine ops_nil ?_
  refine fin_code ?_
  refine run_cond_f rfl ?_
  refine run_skip ?_
  refine fin_code ?_
  refine run_seq ?_
  refine run_seq ?_
  refine run_region rfl ?_
  refine op_assign rfl rfl ?_
  refine ops_nil ?_
  refine fin_code ?_
  refine run_block ?_
  refine run_loop (α := Nat) (fun i => [(0, .slice A q.length c1), (1, .slice B q.length c2), (5, .int .i64 (i : Nat))]) (fun _ => []) (fun i => i ≤ q.length ∧ covB (q.drop i) (b.drop i) = v) (fun i => q.length - i) 0 ⟨Nat.zero_le _, hv⟩ (by (repeat (first | exact Sub.nil _ | (refine Sub.cons rfl ?_)))) (by (apply le_of_picks; (repeat (first | exact Picks.nil | (apply Picks.cons; (· (repeat (first | exact Pick.here | apply Pick.there)))) | apply Picks.empty)))) ?_
  rintro i ⟨hi, hcv⟩
  by_cases h : i < q.length
  · have h' : i < b.length := by omega
    obtain ⟨gq, oq, rfl, hgq, hcq⟩ := hrq.some (by rw [encQ_len]; omega)
    obtain ⟨gb, ob, rfl, hgb, hcb⟩ := hrb.some (by rw [u8s_len]; omega)
    have hqj : ∀ (j : Nat) u, (q2 q[i])[j]? = some u → (encQ q)[i * 2 + j]? = some u := fun j u hu => flat_get q2 2 (fun _ => rfl) q i h j u hu
    have hb0 := u8s_at h'
    rw [covB_step h h'] at hcv
    refine run_seq ?_
    refine run_seq ?_
    refine run_region rfl ?_
    refine op_move rfl rfl ?_
    refine op_move rfl rfl ?_
    refine op_len rfl rfl ?_
    refine op_cmp_t rfl rfl rfl rfl (by first | (simp only [cmpP]; done) | (simp only [cmpP]; omega)) ?_
    refine ops_nil ?_
    refine fin_code ?_
    refine run_cond_t rfl ?_
    refine run_skip ?_
    refine fin_code ?_
    refine run_seq ?_
    refine run_block ?_
    refine run_seq ?_
    refine run_drawS [] (by kernel_rfl) ?_
    refine dr_stab 0 rfl rfl (Val.s (val_move rfl)) (by decide +kernel) rfl rfl ?_
    refine dr_stab 1 rfl rfl (Val.s (val_move rfl)) (by decide +kernel) rfl rfl ?_
    refine dr_stab 2 rfl rfl (Val.s (val_index rfl rfl (by omega) (by first | (rw [Int.toNat_natCast, Nat.mul_one, Nat.zero_add]) | (rw [Int.toNat_natCast, Nat.mul_one]) | (rw [Int.toNat_natCast, Nat.zero_add]) | (rw [Int.toNat_natCast]) | exact rfl))) (by decide +kernel) rfl rfl ?_
    (apply dr_stab 3; (· exact rfl); (· exact rfl); (· apply ValAt.s; (first | (apply val_load; (· exact rfl); (· apply cell_of_has; (· (repeat (first | exact Has.here | apply Has.there))); (· first | exact rfl | exact nats_get _ _ _ (by omega)))) | (apply val_load; (· exact rfl); (· first | exact Rd.cellE hcb hgb (by simp [ids]) (by first | rfl | omega) hb0)) | exact val_loadA rfl (show (q2 q[i]).length = 2 from rfl) (fun j v hv => Rd.cellE hcq hgq (by simp [ids]) (by first | rfl | omega) (hqj j v hv)))); (· decide +kernel); (· exact rfl); (· exact rfl))
    refine dr_stab 4 rfl rfl (Val.s (val_move rfl)) (by decide +kernel) rfl rfl ?_
    refine dr_stab 5 rfl rfl (Val.s (val_move rfl)) (by decide +kernel) rfl rfl ?_
    refine dr_stab 6 rfl rfl (Val.s (val_index rfl rfl (by omega) (by first | (rw [Int.toNat_natCast, Nat.mul_one, Nat.zero_add]) | (rw [Int.toNat_natCast, Nat.mul_one]) | (rw [Int.toNat_natCast, Nat.zero_add]) | (rw [Int.toNat_natCast]) | exact rfl))) (by decide +kernel) rfl rfl ?_
    (apply dr_stab 7; (· exact rfl); (· exact rfl); (· apply ValAt.s; (first | (apply val_load; (· exact rfl); (· apply cell_of_has; (· (repeat (first | exact Has.here | apply Has.there))); (· first | exact rfl | exact nats_get _ _ _ (by omega)))) | (apply val_load; (· exact rfl); (· first | exact Rd.cellE hcb hgb (by simp [ids]) (by first | rfl | omega) hb0)) | exact val_loadA rfl (show (q2 q[i]).length = 2 from rfl) (fun j v hv => Rd.cellE hcq hgq (by simp [ids]) (by first | rfl | omega) (hqj j v hv)))); (· decide +kernel); (· exact rfl); (· exact rfl))
    (refine dr_one 8 rfl (by decide +kernel) (by (apply le_of_picks; (repeat (first | exact Picks.nil | (apply Picks.cons; (· (repeat (first | exact Pick.here | apply Pick.there)))) | apply Picks.empty)))) ?_)
    ((first | (apply op_call; (· exact rfl)) | apply op_call0); (· exact rfl); rotate_left 1; (· exact fun w hG hw => rmatch_any w q[i].1 q[i].2 b[i] _ rfl); rotate_right 1; (· (repeat (first | exact Picks.nil | (apply Picks.cons; (· (repeat (first | exact Pick.here | apply Pick.there)))) | apply Picks.empty))))
    intro _ _
    refine ops_nil ?_
    refine fin_draw ?_
    cases hm : decide (q[i].1 ≤ b[i] ∧ b[i] ≤ q[i].2) with
    | true =>
      refine dr_stab 9 rfl rfl (Val.s (val_not rfl)) (by decide +kernel) rfl rfl ?_
      (refine dr_done (by decide +kernel) (by (apply le_of_picks; (repeat (first | exact Picks.nil | (apply Picks.cons; (· (repeat (first | exact Pick.here | apply Pick.there)))) | apply Picks.empty)))) ?_)
      refine fin_code ?_
      refine run_cond_f rfl ?_
      refine run_skip ?_
      refine fin_block ?_
      refine fin_code ?_
      refine run_region rfl ?_
      refine op_move rfl rfl ?_
      refine op_add rfl rfl rfl (by simp only [kLo, kHi]; omega) ?_
      refine op_assign rfl rfl ?_
      refine ops_nil ?_
      refine fin_round (i + 1) (by omega) (by (repeat (first | exact Sub.nil _ | (refine Sub.cons rfl ?_)))) (by (apply le_of_picks; (repeat (first | exact Picks.nil | (apply Picks.cons; (· (repeat (first | exact Pick.here | apply Pick.there)))) | apply Picks.empty)))) ⟨by omega, ?_⟩
      simp only [decide_eq_true_eq] at hm
      simpa [hm.1, hm.2] using hcv
    | false =>
      have : v = false := by
        rw [← hcv]
        simp only [decide_eq_false_iff_not] at hm
        by_cases k1 : q[i].1 ≤ b[i]
        · simp [show ¬ b[i] ≤ q[i].2 from fun k2 => hm ⟨k1, k2⟩]
        · simp [k1]
      subst this
      refine dr_stab 9 rfl rfl (Val.s (val_not rfl)) (by decide +kernel) rfl rfl ?_
      (refine dr_done (by decide +kernel) (by (apply le_of_picks; (repeat (first | exact Picks.nil | (apply Picks.cons; (· (repeat (first | exact Pick.here | apply Pick.there)))) | apply Picks.empty)))) ?_)
      refine fin_code ?_
      refine run_cond_t rfl ?_
      refine run_seq ?_
      refine run_region rfl ?_
      refine op_assign rfl rfl ?_
      refine ops_nil ?_
      refine fin_code ?_
      refine run_ret ?_
      refine fin_ret_block ?_
      refine fin_ret_code ?_
      refine fin_ret_inv ?_
      refine fin_ret_block ?_
      refine fin_ret_code ?_
      refine fin_ret1 rfl rfl ?_
      intro w' g
      exact hR _ _ (post_of g () trivial rfl (by (apply le_of_picks; (repeat (first | exact Picks.nil | (apply Picks.cons; (· (repeat (first | exact Pick.here | apply Pick.there)))) | apply Picks.empty)))))
  · obtain rfl : i = q.length := by omega
    have : v = true := by
      rw [← hcv, List.drop_of_length_le (Nat.le_refl _), List.drop_of_length_le (by omega)]; rfl
    subst this
    refine run_seq ?_
    refine run_seq ?_
    refine run_region rfl ?_
    refine op_move rfl rfl ?_
    refine op_move rfl rfl ?_
    refine op_len rfl rfl ?_
    refine op_cmp_f rfl rfl rfl rfl (by first | (simp only [cmpP]; done) | (simp only [cmpP]; omega)) ?_
    refine ops_nil ?_
    refine fin_code ?_
    refine run_cond_f rfl ?_
    refine run_exit ?_
    refine fin_exit_code ?_
    refine fin_exit_inv ?_
    refine fin_exit_here ?_
    refine fin_code ?_
    refine run_seq ?_
    refine run_region rfl ?_
    refine op_assign rfl rfl ?_
    refine ops_nil ?_
    refine fin_code ?_
    refine run_ret ?_
    refine fin_ret1 rfl rfl ?_
    intro w' g
    exact hR _ _ (post_of g () trivial rfl (by (apply le_of_picks; (repeat (first | exact Picks.nil | (apply Picks.cons; (· (repeat (first | exact Pick.here | apply Pick.there)))) | apply Picks.empty)))))
set_option maxRecDepth 100000 in
set_option maxHeartbeats 4000000 in
theorem seqMatches_any (w0 : World) (A B : Option Addr) (q : List (Nat × Nat)) (b : List Nat) (c1 c2 : Nat) (hl : q.length ≤ 1000) (hlb : b.length = q.length) (hrq : Rd w0 w0.heap.size A (encQ q)) (hrb : Rd w0 w0.heap.size B (u8s b)) :
    Calls Tryd.prog 12 #[.slice A q.length c1, .slice B b.length c2] w0 (Post w0 ([] : List Hp).flatten (fun _ : Unit => .bool (covB q b)) (fun _ => ([] : List Hp).flatten) (fun _ => True)) := by
  refine enter [] Tryd.func12 rfl rfl (At.nil w0) (Le.refl _) ?_
  intro R hR
  refine run_seq ?_
  refine run_region rfl ?_
  refine op_assign rfl rfl ?_
  refine ops_nil ?_
  refine fin_code ?_
  refine run_seq ?_
  refine run_region rfl ?_
  refine op_assign rfl rfl ?_
  refine ops_nil ?_
  refine fin_code ?_
  refine run_seq ?_
  refine run_seq ?_
  refine run_region rfl ?_
  refine op_move rfl rfl ?_
  refine op_len rfl rfl ?_
  refine op_move rfl rfl ?_
  refine ops_nil ?_
  refine fin_code ?_
  refine run_block ?_
  refine run_loop (α := Nat × Value × Hp) (fun x => [(1, .slice B b.length c2), (5, x.2.1), (8, .slice A q.length c1), (9, .int .i64 q.length), (10, .int .i64 (x.1 : Nat))]) (fun x => [x.2.2]) (fun x => x.1 ≤ q.length ∧ Own 71 2 x.2.1 x.1 (encQ (q.take x.1)) x.2.2) (fun x => q.length - x.1)
    (0, .slice none 0 0, []) ⟨Nat.zero_le _, Own.nil _ _⟩ (by (repeat (first | exact Sub.nil _ | (refine Sub.cons rfl ?_)))) (by (apply le_of_picks; (repeat (first | exact Picks.nil | (apply Picks.cons; (· (repeat (first | exact Pick.here | apply Pick.there)))) | apply Picks.empty)))) ?_
  rintro ⟨i, v, l⟩ ⟨hi, ho⟩
  dsimp only at hi ho ⊢
  by_cases h : i < q.length
  · obtain ⟨gq, oq, rfl, hgq, hcq⟩ := hrq.some (by rw [encQ_len]; omega)
    have hqj : ∀ (j : Nat) u, (q2 q[i])[j]? = some u → (encQ q)[i * 2 + j]? = some u := fun j u hu => flat_get q2 2 (fun _ => rfl) q i h j u hu
    refine run_seq ?_
    refine run_region rfl ?_
    refine op_cmp_t rfl rfl rfl rfl (by first | (simp only [cmpP]; done) | (simp only [cmpP]; omega)) ?_
    refine ops_nil ?_
    refine fin_code ?_
    refine run_seq ?_
    refine run_cond_t rfl ?_
    refine run_skip ?_
    refine fin_code ?_
    refine run_seq ?_
    refine run_block ?_
    refine run_seq ?_
    refine run_region rfl ?_
    refine op_index rfl rfl rfl (by omega) (by first | (rw [Int.toNat_natCast, Nat.mul_one, Nat.zero_add]) | (rw [Int.toNat_natCast, Nat.mul_one]) | (rw [Int.toNat_natCast, Nat.zero_add]) | (rw [Int.toNat_natCast]) | exact rfl) ?_
    (apply op_loadA; (· exact rfl); (· exact rfl); (· exact (show (q2 q[i]).length = 2 from rfl)); (· exact fun j v hv => Rd.cellE hcq hgq (by simp [ids]) (by first | rfl | omega) (hqj j v hv)))
    (refine op_alloc rfl ?_; intro _ _)
    (apply op_storeAll; (· exact rfl); (· exact rfl); (· exact rfl); (· exact onesC rfl); (· (repeat (first | exact Swap.here | apply Swap.there))); (· exact rfl))
    refine ops_nil ?_
    refine fin_code ?_
    refine run_region rfl ?_
    refine op_move rfl rfl ?_
    (refine op_indexP rfl rfl rfl (by omega) ?_)
    (apply op_load; (· exact rfl); (· exact rfl); (· apply cell_of_has; (· (repeat (first | exact Has.here | apply Has.there))); (· first | exact rfl | exact nats_get _ _ _ (by omega))))
    (refine op_indexP rfl rfl rfl (by omega) ?_)
    (apply op_load; (· exact rfl); (· exact rfl); (· apply cell_of_has; (· (repeat (first | exact Has.here | apply Has.there))); (· first | exact rfl | exact nats_get _ _ _ (by omega))))
    refine op_build rfl rfl rfl (by first | (intro v hv; simp at hv; done) | (intro v hv; simp at hv; rcases hv with rfl | rfl | rfl | rfl | rfl | rfl | rfl <;> rfl) | (intro v hv; simp at hv; rcases hv with rfl | rfl | rfl | rfl | rfl | rfl <;> rfl) | (intro v hv; simp at hv; rcases hv with rfl | rfl | rfl | rfl | rfl <;> rfl) | (intro v hv; simp at hv; rcases hv with rfl | rfl | rfl | rfl <;> rfl) | (intro v hv; simp at hv; rcases hv with rfl | rfl | rfl <;> rfl) | (intro v hv; simp at hv; rcases hv with rfl | rfl <;> rfl) | (intro v hv; simp at hv; rcases hv with rfl; rfl)) rfl ?_
    (refine op_slice1 rfl rfl (by first | rfl | simp [Value.cells]) (by decide) ?_; intro _ _)
    (apply op_append1; (· exact rfl); (· exact rfl); (· exact rfl); (· exact ho); (· (repeat (first | exact Pick.here | apply Pick.there))); (· (repeat (first | exact Has.here | apply Has.there))); (· exact rfl); (· first | exact onesC rfl | (intro u hu; simp [Value.cells] at hu; rcases hu with rfl | rfl | rfl | rfl | rfl | rfl <;> rfl) | (intro u hu; simp [Value.cells] at hu; rcases hu with rfl | rfl | rfl <;> rfl) | (intro u hu; simp [Value.cells] at hu; rcases hu with rfl | rfl <;> rfl) | (intro u hu; simp [Value.cells] at hu; subst hu; rfl)); (· omega); (· omega); (· exact rfl))
    intro v' l' ho'
    refine op_assign rfl rfl ?_
    refine ops_nil ?_
    refine fin_block ?_
    refine fin_code ?_
    refine run_region rfl ?_
    refine op_add rfl rfl rfl (by simp only [kLo, kHi]; omega) ?_
    refine op_move rfl rfl ?_
    refine ops_nil ?_
    refine fin_round (i + 1, v', l') ?_ (by (repeat (first | exact Sub.nil _ | (refine Sub.cons rfl ?_)))) (by (apply le_of_picks; (repeat (first | exact Picks.nil | (apply Picks.cons; (· (repeat (first | exact Pick.here | apply Pick.there)))) | apply Picks.empty)))) ⟨h, ?_⟩
    · dsimp only; omega
    · dsimp only
      rw [List.take_succ_eq_append_getElem h, encQ_snoc]
      exact ho'
  · obtain rfl : i = q.length := by omega
    rw [List.take_length] at ho
    obtain ⟨A', c', rfl⟩ := ho.isSlice
    refine run_seq ?_
    refine run_region rfl ?_
    refine op_cmp_f rfl rfl rfl rfl (by first | (simp only [cmpP]; done) | (simp only [cmpP]; omega)) ?_
    refine ops_nil ?_
    refine fin_code ?_
    refine run_seq ?_
    refine run_cond_f rfl ?_
    refine run_exit ?_
    refine fin_exit_code ?_
    refine fin_exit_inv ?_
    refine fin_exit_here ?_
    refine fin_code ?_
    refine run_seq ?_
    refine run_region rfl ?_
    refine op_move rfl rfl ?_
    refine op_move rfl rfl ?_
    ((first | (apply op_call; (· exact rfl)) | apply op_call0); (· exact rfl)); (case' hc => (refine fun w hG hw => matches_any w A' B q b c' c2 (covB q b) rfl (by simp only [maxLen]; omega) hlb ?_ ?_)); (case hp => (repeat (first | exact Picks.nil | (apply Picks.cons; (· (repeat (first | exact Pick.here | apply Pick.there)))) | apply Picks.empty)))
    · exact ho.rd (At.item hG.now (by (repeat (first | exact Pick.here | apply Pick.there))))
    · exact hrb.now hG
    intro _ _
    refine op_assign rfl rfl ?_
    refine ops_nil ?_
    refine fin_code ?_
    refine run_ret ?_
    refine fin_ret1 rfl rfl ?_
    intro w' g'
    exact hR _ _ (post_of g' () trivial rfl (by (apply le_of_picks; (repeat (first | exact Picks.nil | (apply Picks.cons; (· (repeat (first | exact Pick.here | apply Pick.there)))) | apply Picks.empty)))))
end Go.Proofs.Eng
