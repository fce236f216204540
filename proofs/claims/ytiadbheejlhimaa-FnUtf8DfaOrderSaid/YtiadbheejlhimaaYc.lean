/- A part of the proof: what functions of the program do, step by step. -/
import Derived.Test.YtiadbheejlhimaaYb
set_option linter.unusedVariables false
set_option linter.unusedSimpArgs false
namespace Go.Proofs.Eng
open Go.RowKit
set_option maxRecDepth 100000 in
set_option maxHeartbeats 4000000 in
theorem letter_any (w0 : World) (A : Option Addr) (b : List Nat) (cap : Nat) (hb : ∀ x ∈ b, x ≤ 255) (hlen : b.length ≤ maxLen) (hrd : Rd w0 w0.heap.size A (u8s b)) :
    Calls Try.prog 23 #[.slice A b.length cap] w0 (Post w0 ([] : List Hp).flatten (fun x : Nat × Nat => .tuple #[.int .i64 x.1, .int .i64 x.2]) (fun _ => ([] : List Hp).flatten) (fun x => LetP b x.1 x.2)) := by
  refine enter [] Try.func23 rfl rfl (At.nil w0) (Le.refl _) ?_
  intro R hR
  cases b with
  | nil =>
    simp only [List.length_nil]
    refine run_seq ?_
    refine run_region rfl ?_
    refine op_assign rfl rfl ?_
    refine op_assign rfl rfl ?_
    refine ops_nil ?_
    refine fin_code ?_
    refine run_seq ?_
    refine run_seq ?_
    refine run_region rfl ?_
    refine op_move rfl rfl ?_
    refine op_len rfl rfl ?_
    refine op_cmp_t rfl rfl rfl rfl (by first | (simp only [cmpP]; done) | (simp only [cmpP]; omega)) ?_
    refine ops_nil ?_
    refine fin_code ?_
    refine run_cond_t rfl ?_
    refine run_seq ?_
    refine run_region rfl ?_
    refine op_assign rfl rfl ?_
    refine op_assign rfl rfl ?_
    refine ops_nil ?_
    refine fin_code ?_
    refine run_ret ?_
    refine fin_ret_code ?_
    refine fin_ret2 rfl rfl rfl ?_
    intro w' g
    refine hR _ _ (post_of g (0, 0) (.inl ⟨rfl, rfl, fun r' t _ e => ?_⟩) rfl (by (apply le_of_picks; (repeat (first | exact Picks.nil | (apply Picks.cons; (· (repeat (first | exact Pick.here | apply Pick.there)))) | apply Picks.empty)))))
    have := congrArg List.length e
    have := encN_pos r'
    simp at *
    omega
  | cons c rest =>
    rcases hrd with hrd | ⟨g, o, rfl, hg, hcell⟩
    · cases hrd
    have hget0 : (u8s (c :: rest))[0]? = some (.int .u8 c) := rfl
    have hc := hb c (by simp)
    simp only [maxLen, List.length_cons] at hlen ⊢
    refine run_seq ?_
    refine run_region rfl ?_
    refine op_assign rfl rfl ?_
    refine op_assign rfl rfl ?_
    refine ops_nil ?_
    refine fin_code ?_
    refine run_seq ?_
    refine run_seq ?_
    refine run_region rfl ?_
    refine op_move rfl rfl ?_
    refine op_len rfl rfl ?_
    refine op_cmp_f rfl rfl rfl rfl (by first | (simp only [cmpP]; done) | (simp only [cmpP]; omega)) ?_
    refine ops_nil ?_
    refine fin_code ?_
    refine run_cond_f rfl ?_
    refine run_skip ?_
    refine fin_code ?_
    refine run_seq ?_
    refine run_region rfl ?_
    refine op_move rfl rfl ?_
    refine op_index rfl rfl rfl (by omega) (by first | (rw [Int.toNat_natCast, Nat.mul_one, Nat.zero_add]) | (rw [Int.toNat_natCast, Nat.mul_one]) | (rw [Int.toNat_natCast, Nat.zero_add]) | (rw [Int.toNat_natCast]) | exact rfl) ?_
    (apply op_load; (· exact rfl); (· exact rfl); (· first | exact Rd.cell hcell hg (by simp [ids]) hget0 | exact Rd.cell hcell hg (by simp [ids]) hget))
    ((first | (apply op_call; (· exact rfl)) | apply op_call0); (· exact rfl); rotate_left 1; (· exact fun w hG hw => wide_any w c hc); rotate_right 1; (· (repeat (first | exact Picks.nil | (apply Picks.cons; (· (repeat (first | exact Pick.here | apply Pick.there)))) | apply Picks.empty))))
    intro _ _
    generalize hw : wideN c = p
    obtain ⟨n, r0⟩ := p
    have hn4 : n ≤ 4 := by have := wideN_le c; rw [hw] at this; exact this
    have hr0 := wideN_lt hw
    dsimp only
    by_cases hn0 : n = 0
    · refine op_move rfl rfl ?_
      refine op_extract rfl rfl rfl ?_
      refine op_extract rfl rfl rfl ?_
      refine op_assign rfl rfl ?_
      refine op_assign rfl rfl ?_
      refine ops_nil ?_
      refine fin_code ?_
      refine run_seq ?_
      refine run_seq ?_
      refine run_region rfl ?_
      refine op_move rfl rfl ?_
      refine op_cmp_t rfl rfl rfl rfl (by first | (simp only [cmpP]; done) | (simp only [cmpP]; omega)) ?_
      refine op_move rfl rfl ?_
      refine ops_off1 rfl rfl ?_
      refine ops_off1 rfl rfl ?_
      refine ops_off1 rfl rfl ?_
      refine ops_off1 rfl rfl ?_
      refine op_pick_t rfl rfl rfl ?_
      refine ops_nil ?_
      refine fin_code ?_
      refine run_cond_t rfl ?_
      refine run_seq ?_
      refine run_region rfl ?_
      refine op_assign rfl rfl ?_
      refine op_assign rfl rfl ?_
      refine ops_nil ?_
      refine fin_code ?_
      refine run_ret ?_
      refine fin_ret_code ?_
      refine fin_ret2 rfl rfl rfl ?_
      intro w' g
      refine hR _ _ (post_of g (0, 0) (.inl ⟨rfl, rfl, fun r' t hL e => ?_⟩) rfl (by (apply le_of_picks; (repeat (first | exact Picks.nil | (apply Picks.cons; (· (repeat (first | exact Pick.here | apply Pick.there)))) | apply Picks.empty)))))
      have := (enc_facts hw hL e).1
      omega
    by_cases hnl : rest.length + 1 < n
    · refine op_move rfl rfl ?_
      refine op_extract rfl rfl rfl ?_
      refine op_extract rfl rfl rfl ?_
      refine op_assign rfl rfl ?_
      refine op_assign rfl rfl ?_
      refine ops_nil ?_
      refine fin_code ?_
      refine run_seq ?_
      refine run_seq ?_
      refine run_region rfl ?_
      refine op_move rfl rfl ?_
      refine op_cmp_f rfl rfl rfl rfl (by first | (simp only [cmpP]; done) | (simp only [cmpP]; omega)) ?_
      refine op_move rfl rfl ?_
      refine ops_guard_yes rfl rfl rfl ?_
      refine op_move rfl rfl ?_
      refine ops_guard_yes rfl rfl rfl ?_
      refine op_move rfl rfl ?_
      refine ops_guard_yes rfl rfl rfl ?_
      refine op_len rfl rfl ?_
      refine ops_guard_yes rfl rfl rfl ?_
      refine op_cmp_t rfl rfl rfl rfl (by first | (simp only [cmpP]; done) | (simp only [cmpP]; omega)) ?_
      refine op_pick_f rfl rfl rfl ?_
      refine ops_nil ?_
      refine fin_code ?_
      refine run_cond_t rfl ?_
      refine run_seq ?_
      refine run_region rfl ?_
      refine op_assign rfl rfl ?_
      refine op_assign rfl rfl ?_
      refine ops_nil ?_
      refine fin_code ?_
      refine run_ret ?_
      refine fin_ret_code ?_
      refine fin_ret2 rfl rfl rfl ?_
      intro w' g
      refine hR _ _ (post_of g (0, 0) (.inl ⟨rfl, rfl, fun r' t hL e => ?_⟩) rfl (by (apply le_of_picks; (repeat (first | exact Picks.nil | (apply Picks.cons; (· (repeat (first | exact Pick.here | apply Pick.there)))) | apply Picks.empty)))))
      have := (enc_facts hw hL e).2.1
      omega
    refine op_move rfl rfl ?_
    refine op_extract rfl rfl rfl ?_
    refine op_extract rfl rfl rfl ?_
    refine op_assign rfl rfl ?_
    refine op_assign rfl rfl ?_
    refine ops_nil ?_
    refine fin_code ?_
    refine run_seq ?_
    refine run_seq ?_
    refine run_region rfl ?_
    refine op_move rfl rfl ?_
    refine op_cmp_f rfl rfl rfl rfl (by first | (simp only [cmpP]; done) | (simp only [cmpP]; omega)) ?_
    refine op_move rfl rfl ?_
    refine ops_guard_yes rfl rfl rfl ?_
    refine op_move rfl rfl ?_
    refine ops_guard_yes rfl rfl rfl ?_
    refine op_move rfl rfl ?_
    refine ops_guard_yes rfl rfl rfl ?_
    refine op_len rfl rfl ?_
    refine ops_guard_yes rfl rfl rfl ?_
    refine op_cmp_f rfl rfl rfl rfl (by first | (simp only [cmpP]; done) | (simp only [cmpP]; omega)) ?_
    refine op_pick_f rfl rfl rfl ?_
    refine ops_nil ?_
    refine fin_code ?_
    refine run_cond_f rfl ?_
    refine run_skip ?_
    refine fin_code ?_
    refine run_seq ?_
    refine run_seq ?_
    refine run_region rfl ?_
    refine op_assign rfl rfl ?_
    refine ops_nil ?_
    refine fin_code ?_
    refine run_block ?_
    refine run_loop (α := Nat × Nat) (fun x => [(0, .slice (some ⟨g, o, none⟩) (rest.length + 1) cap), (2, .int .i64 (x.2 : Nat)), (3, .int .i64 (n : Nat)), (4, .int .i64 (x.1 : Nat))]) (fun _ => [])
      (fun x => 1 ≤ x.1 ∧ x.1 ≤ n ∧ (∀ y ∈ rest.take (x.1 - 1), 128 ≤ y ∧ y ≤ 191) ∧ fold64 (r0 : Nat) (rest.take (x.1 - 1)) = (x.2 : Nat) ∧ x.2 + 1 ≤ bndL x.1) (fun x => n - x.1)
      (1, r0) ⟨Nat.le_refl _, by dsimp only; omega, fun y hy => (by simp at hy), by simp [fold64_nil], hr0⟩ (by (repeat (first | exact Sub.nil _ | (refine Sub.cons rfl ?_)))) (by (apply le_of_picks; (repeat (first | exact Picks.nil | (apply Picks.cons; (· (repeat (first | exact Pick.here | apply Pick.there)))) | apply Picks.empty)))) ?_
    rintro ⟨i, r⟩ ⟨h1, h2, htl, hfo, hbd⟩
    dsimp only at h1 h2 htl hfo hbd ⊢
    have hbl := bndL_le i
    by_cases hi : i < n
    · have hi1 : i - 1 < rest.length := by omega
      have hx : rest.take i = rest.take (i - 1) ++ [rest[i - 1]] := by
        have := List.take_succ_eq_append_getElem hi1
        rwa [show i - 1 + 1 = i by omega] at this
      have hx2 : (c :: rest)[i]? = some rest[i - 1] := by
        have : (c :: rest)[i - 1 + 1]? = some rest[i - 1] := by simp [hi1]
        rwa [show i - 1 + 1 = i by omega] at this
      have hmem : rest[i - 1] ∈ rest.take (n - 1) := by
        rw [List.mem_take_iff_getElem]
        exact ⟨i - 1, by omega, rfl⟩
      generalize rest[i - 1] = x at hx hx2 hmem
      have hget : (u8s (c :: rest))[i]? = some (.int .u8 x) := by unfold u8s; rw [List.getElem?_map, hx2]; rfl
      have hup := bndL_up h1 (by omega)
      by_cases ht : 128 ≤ x ∧ x ≤ 191
      · refine run_seq ?_
        refine run_seq ?_
        refine run_region rfl ?_
        refine op_move rfl rfl ?_
        refine op_move rfl rfl ?_
        refine op_cmp_t rfl rfl rfl rfl (by first | (simp only [cmpP]; done) | (simp only [cmpP]; omega)) ?_
        refine ops_nil ?_
        refine fin_code ?_
        refine run_cond_t rfl ?_
        refine run_skip ?_
        refine fin_code ?_
        refine run_seq ?_
        refine run_block ?_
        refine run_seq ?_
        refine run_seq ?_
        refine run_region rfl ?_
        refine op_move rfl rfl ?_
        refine op_move rfl rfl ?_
        refine op_index rfl rfl rfl (by omega) (by first | (rw [Int.toNat_natCast, Nat.mul_one, Nat.zero_add]) | (rw [Int.toNat_natCast, Nat.mul_one]) | (rw [Int.toNat_natCast, Nat.zero_add]) | (rw [Int.toNat_natCast]) | exact rfl) ?_
        (apply op_load; (· exact rfl); (· exact rfl); (· first | exact Rd.cell hcell hg (by simp [ids]) hget0 | exact Rd.cell hcell hg (by simp [ids]) hget))
        ((first | (apply op_call; (· exact rfl)) | apply op_call0); (· exact rfl); rotate_left 1; (· exact fun w hG hw => tail_any w x true (by simp; omega)); rotate_right 1; (· (repeat (first | exact Picks.nil | (apply Picks.cons; (· (repeat (first | exact Pick.here | apply Pick.there)))) | apply Picks.empty))))
        intro _ _
        refine op_not rfl rfl ?_
        refine ops_nil ?_
        refine fin_code ?_
        refine run_cond_f rfl ?_
        refine run_skip ?_
        refine fin_code ?_
        refine run_region rfl ?_
        refine op_move rfl rfl ?_
        (refine op_mul rfl rfl rfl (by simp only [kLo, kHi]; omega) ?_)
        refine op_move rfl rfl ?_
        refine op_move rfl rfl ?_
        refine op_index rfl rfl rfl (by omega) (by first | (rw [Int.toNat_natCast, Nat.mul_one, Nat.zero_add]) | (rw [Int.toNat_natCast, Nat.mul_one]) | (rw [Int.toNat_natCast, Nat.zero_add]) | (rw [Int.toNat_natCast]) | exact rfl) ?_
        (apply op_load; (· exact rfl); (· exact rfl); (· first | exact Rd.cell hcell hg (by simp [ids]) hget0 | exact Rd.cell hcell hg (by simp [ids]) hget))
        refine op_conv rfl rfl (by simp only [kLo, kHi]; omega) ?_
        refine op_add rfl rfl rfl (by simp only [kLo, kHi]; omega) ?_
        refine op_sub rfl rfl rfl (by simp only [kLo, kHi]; omega) ?_
        refine op_assign rfl rfl ?_
        refine ops_nil ?_
        refine fin_block ?_
        refine fin_code ?_
        refine run_region rfl ?_
        refine op_move rfl rfl ?_
        refine op_add rfl rfl rfl (by simp only [kLo, kHi]; omega) ?_
        refine op_assign rfl rfl ?_
        refine ops_nil ?_
        rw [show (64 * ((r : Nat) : Int) + ((x : Nat) : Int) - 128) = ((64 * r + x - 128 : Nat) : Int) by omega]
        refine fin_round (i + 1, 64 * r + x - 128) ?_ (by (repeat (first | exact Sub.nil _ | (refine Sub.cons rfl ?_)))) (by (apply le_of_picks; (repeat (first | exact Picks.nil | (apply Picks.cons; (· (repeat (first | exact Pick.here | apply Pick.there)))) | apply Picks.empty)))) ⟨by dsimp only; omega, by dsimp only; omega, ?_, ?_, ?_⟩
        · dsimp only; omega
        · dsimp only
          rw [Nat.add_sub_cancel, hx]
          intro y hy
          rcases List.mem_append.1 hy with hy | hy
          · exact htl y hy
          · simp at hy; subst hy; exact ht
        · dsimp only
          rw [Nat.add_sub_cancel, hx, fold64_snoc, hfo]; omega
        · dsimp only; omega
      · refine run_seq ?_
        refine run_seq ?_
        refine run_region rfl ?_
        refine op_move rfl rfl ?_
        refine op_move rfl rfl ?_
        refine op_cmp_t rfl rfl rfl rfl (by first | (simp only [cmpP]; done) | (simp only [cmpP]; omega)) ?_
        refine ops_nil ?_
        refine fin_code ?_
        refine run_cond_t rfl ?_
        refine run_skip ?_
        refine fin_code ?_
        refine run_seq ?_
        refine run_block ?_
        refine run_seq ?_
        refine run_seq ?_
        refine run_region rfl ?_
        refine op_move rfl rfl ?_
        refine op_move rfl rfl ?_
        refine op_index rfl rfl rfl (by omega) (by first | (rw [Int.toNat_natCast, Nat.mul_one, Nat.zero_add]) | (rw [Int.toNat_natCast, Nat.mul_one]) | (rw [Int.toNat_natCast, Nat.zero_add]) | (rw [Int.toNat_natCast]) | exact rfl) ?_
        (apply op_load; (· exact rfl); (· exact rfl); (· first | exact Rd.cell hcell hg (by simp [ids]) hget0 | exact Rd.cell hcell hg (by simp [ids]) hget))
        ((first | (apply op_call; (· exact rfl)) | apply op_call0); (· exact rfl); rotate_left 1; (· exact fun w hG hw => tail_any w x false (by simp; omega)); rotate_right 1; (· (repeat (first | exact Picks.nil | (apply Picks.cons; (· (repeat (first | exact Pick.here | apply Pick.there)))) | apply Picks.empty))))
        intro _ _
        refine op_not rfl rfl ?_
        refine ops_nil ?_
        refine fin_code ?_
        refine run_cond_t rfl ?_
        refine run_seq ?_
        refine run_region rfl ?_
        refine op_assign rfl rfl ?_
        refine op_assign rfl rfl ?_
        refine ops_nil ?_
        refine fin_code ?_
        refine run_ret ?_
        refine fin_ret_code ?_
        refine fin_ret_block ?_
        refine fin_ret_code ?_
        refine fin_ret_inv ?_
        refine fin_ret_block ?_
        refine fin_ret_code ?_
        refine fin_ret2 rfl rfl rfl ?_
        intro w' g
        refine hR _ _ (post_of g (0, 0) (.inl ⟨rfl, rfl, fun r' t hL e => ?_⟩) rfl (by (apply le_of_picks; (repeat (first | exact Picks.nil | (apply Picks.cons; (· (repeat (first | exact Pick.here | apply Pick.there)))) | apply Picks.empty)))))
        exact ht ((enc_facts hw hL e).2.2.1 x hmem)
    · obtain rfl : i = n := by omega
      by_cases hL : isL r
      · have hm := hL.1
        have hli : isLI (r : Nat) := ⟨by omega, by omega, by have := hL.2; omega⟩
        refine run_seq ?_
        refine run_seq ?_
        refine run_region rfl ?_
        refine op_move rfl rfl ?_
        refine op_move rfl rfl ?_
        refine op_cmp_f rfl rfl rfl rfl (by first | (simp only [cmpP]; done) | (simp only [cmpP]; omega)) ?_
        refine ops_nil ?_
        refine fin_code ?_
        refine run_cond_f rfl ?_
        refine run_exit ?_
        refine fin_exit_code ?_
        refine fin_exit_inv ?_
        refine fin_exit_here ?_
        refine fin_code ?_
        refine run_seq ?_
        refine run_seq ?_
        refine run_region rfl ?_
        refine op_move rfl rfl ?_
        ((first | (apply op_call; (· exact rfl)) | apply op_call0); (· exact rfl); rotate_left 1; (· exact fun w hG hw => isLetter_any w (r : Nat) true (by simp [hli])); rotate_right 1; (· (repeat (first | exact Picks.nil | (apply Picks.cons; (· (repeat (first | exact Pick.here | apply Pick.there)))) | apply Picks.empty))))
        intro _ _
        refine op_not rfl rfl ?_
        refine op_move rfl rfl ?_
        refine ops_guard_yes rfl rfl rfl ?_
        refine op_move rfl rfl ?_
        refine ops_guard_yes rfl rfl rfl ?_
        ((first | (apply op_call; (· exact rfl)) | apply op_call0); (· exact rfl); rotate_left 1; (· exact fun w hG hw => bytes_any w r hm); rotate_right 1; (· (repeat (first | exact Picks.nil | (apply Picks.cons; (· (repeat (first | exact Pick.here | apply Pick.there)))) | apply Picks.empty))))
        intro _ _
        by_cases hl : (encN r).length = i
        · refine ops_guard_yes rfl rfl rfl ?_
          refine op_len rfl rfl ?_
          refine ops_guard_yes rfl rfl rfl ?_
          refine op_move rfl rfl ?_
          refine ops_guard_yes rfl rfl rfl ?_
          refine op_cmp_f rfl rfl rfl rfl (by first | (simp only [cmpP]; done) | (simp only [cmpP]; omega)) ?_
          refine op_pick_f rfl rfl rfl ?_
          refine ops_nil ?_
          refine fin_code ?_
          refine run_cond_f rfl ?_
          refine run_skip ?_
          refine fin_code ?_
          refine run_seq ?_
          refine run_region rfl ?_
          refine op_move rfl rfl ?_
          refine op_move rfl rfl ?_
          refine op_assign rfl rfl ?_
          refine op_assign rfl rfl ?_
          refine ops_nil ?_
          refine fin_code ?_
          refine run_ret ?_
          refine fin_ret2 rfl rfl rfl ?_
          intro w' g
          refine hR _ _ (post_of g (r, i) (.inr ⟨hL, hl.symm, rest.drop (i - 1), ?_⟩) rfl (by (apply le_of_picks; (repeat (first | exact Picks.nil | (apply Picks.cons; (· (repeat (first | exact Pick.here | apply Pick.there)))) | apply Picks.empty)))))
          have := let_dec (t := rest.take (i - 1)) hw (by omega) (by rw [List.length_take]; omega) htl hfo.symm hl hm
          rw [← this, List.cons_append, List.take_append_drop]
        · refine ops_guard_yes rfl rfl rfl ?_
          refine op_len rfl rfl ?_
          refine ops_guard_yes rfl rfl rfl ?_
          refine op_move rfl rfl ?_
          refine ops_guard_yes rfl rfl rfl ?_
          refine op_cmp_t rfl rfl rfl rfl (by first | (simp only [cmpP]; done) | (simp only [cmpP]; omega)) ?_
          refine op_pick_f rfl rfl rfl ?_
          refine ops_nil ?_
          refine fin_code ?_
          refine run_cond_t rfl ?_
          refine run_seq ?_
          refine run_region rfl ?_
          refine op_assign rfl rfl ?_
          refine op_assign rfl rfl ?_
          refine ops_nil ?_
          refine fin_code ?_
          refine run_ret ?_
          refine fin_ret_code ?_
          refine fin_ret2 rfl rfl rfl ?_
          intro w' g
          refine hR _ _ (post_of g (0, 0) (.inl ⟨rfl, rfl, fun r' t hL' e => ?_⟩) rfl (by (apply le_of_picks; (repeat (first | exact Picks.nil | (apply Picks.cons; (· (repeat (first | exact Pick.here | apply Pick.there)))) | apply Picks.empty)))))
          have f := (enc_facts hw hL' e).2.2.2
          have : r = r' := by have := hfo.symm.trans f.1; omega
          subst this
          exact hl f.2
      · have hli : ¬ isLI (r : Nat) := fun h => hL ⟨by have := h.2.1; omega, by have := h.2.2; omega⟩
        refine run_seq ?_
        refine run_seq ?_
        refine run_region rfl ?_
        refine op_move rfl rfl ?_
        refine op_move rfl rfl ?_
        refine op_cmp_f rfl rfl rfl rfl (by first | (simp only [cmpP]; done) | (simp only [cmpP]; omega)) ?_
        refine ops_nil ?_
        refine fin_code ?_
        refine run_cond_f rfl ?_
        refine run_exit ?_
        refine fin_exit_code ?_
        refine fin_exit_inv ?_
        refine fin_exit_here ?_
        refine fin_code ?_
        refine run_seq ?_
        refine run_seq ?_
        refine run_region rfl ?_
        refine op_move rfl rfl ?_
        ((first | (apply op_call; (· exact rfl)) | apply op_call0); (· exact rfl); rotate_left 1; (· exact fun w hG hw => isLetter_any w (r : Nat) false (by simp [hli])); rotate_right 1; (· (repeat (first | exact Picks.nil | (apply Picks.cons; (· (repeat (first | exact Pick.here | apply Pick.there)))) | apply Picks.empty))))
        intro _ _
        refine op_not rfl rfl ?_
        refine op_move rfl rfl ?_
        refine ops_off1 rfl rfl ?_
        refine ops_off1 rfl rfl ?_
        refine ops_off1 rfl rfl ?_
        refine ops_off1 rfl rfl ?_
        refine ops_off1 rfl rfl ?_
        refine op_pick_t rfl rfl rfl ?_
        refine ops_nil ?_
        refine fin_code ?_
        refine run_cond_t rfl ?_
        refine run_seq ?_
        refine run_region rfl ?_
        refine op_assign rfl rfl ?_
        refine op_assign rfl rfl ?_
        refine ops_nil ?_
        refine fin_code ?_
        refine run_ret ?_
        refine fin_ret_code ?_
        refine fin_ret2 rfl rfl rfl ?_
        intro w' g
        refine hR _ _ (post_of g (0, 0) (.inl ⟨rfl, rfl, fun r' t hL' e => ?_⟩) rfl (by (apply le_of_picks; (repeat (first | exact Picks.nil | (apply Picks.cons; (· (repeat (first | exact Pick.here | apply Pick.there)))) | apply Picks.empty)))))
        have f := (enc_facts hw hL' e).2.2.2
        have : r = r' := by have := hfo.symm.trans f.1; omega
        subst this
        exact hL hL'
end Go.Proofs.Eng
