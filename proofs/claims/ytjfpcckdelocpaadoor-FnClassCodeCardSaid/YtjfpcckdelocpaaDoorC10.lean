/- A part of the proof: what functions of the program do, step by step. -/
import Derived.Test.YtjfpcckdelocpaaDoorC9
set_option linter.unusedVariables false
set_option linter.unusedSimpArgs false
namespace Go.Proofs.Eng
open Go.RowKit
theorem strN_extract (s : ByteArray) (n : Nat) : strN (s.extract 0 n) = (strN s).take n := by
  unfold strN
  rw [ByteArray.data_extract, Array.toList_extract, List.extract_eq_take_drop]
  simp [List.map_take]
set_option maxRecDepth 100000 in
set_option maxHeartbeats 8000000 in
theorem rune_any (w : World) (s : ByteArray) (hsz : s.size ≤ 100) :
    Calls Tryd.prog 18 #[.string s] w (Post w ([] : List Hp).flatten (fun x : Nat × Nat => .tuple #[.int .i32 x.1, .int .i64 x.2]) (fun _ => ([] : List Hp).flatten) (fun x => LetS (strN s) x.1 x.2 ∧ x.1 ≤ 1114111 ∧ x.2 ≤ 4)) := by
  refine enter [] Tryd.func18 rfl rfl (At.nil w) (Le.refl _) ?_
  intro R hR
  have hlen := strN_len s
  cases hs : strN s with
  | nil =>
    rw [hs] at hlen hR
    have hse : (s.toList == (⟨#[]⟩ : ByteArray).toList) = true := by
      rw [ByteArray.toList_eq, ByteArray.toList_eq]
      have : s.data.toList = [] := List.length_eq_zero_iff.1 (by rw [Array.length_toList]; exact hlen.symm)
      rw [this]
      rfl
    refine run_seq ?_
    refine run_region rfl ?_
    refine op_assign rfl rfl ?_
    refine op_assign rfl rfl ?_
    refine ops_nil ?_
    refine fin_code ?_
    refine run_seq ?_
    refine run_seq ?_
    refine run_region rfl ?_
    refine op_move rfl rfl ?_
    (refine op_val rfl (val_strEq hse rfl rfl) ?_)
    refine ops_nil ?_
    refine fin_code ?_
    refine run_cond_t rfl ?_
    refine run_seq ?_
    refine run_region rfl ?_
    refine op_assign rfl rfl ?_
    refine op_assign rfl rfl ?_
    refine ops_nil ?_
    refine fin_code ?_
    refine run_ret ?_
    refine fin_ret_code ?_
    refine fin_ret2 rfl rfl rfl ?_
    intro w' g
    refine hR _ _ (post_of g (0, 0) ⟨LetS.none (fun r hL e => ?_), by dsimp only; omega, by dsimp only; omega⟩ rfl (by (apply le_of_picks; (repeat (first | exact Picks.nil | (apply Picks.cons; (· (repeat (first | exact Pick.here | apply Pick.there)))) | apply Picks.empty)))))
    obtain ⟨c, t, n, r0, h1, _⟩ := let_enc hL
    rw [h1] at e
    cases e
  | cons c t =>
    have hse : (s.toList == (⟨#[]⟩ : ByteArray).toList) = false := by
      rw [ByteArray.toList_eq, ByteArray.toList_eq]
      have : s.data.toList.length ≠ 0 := by
        rw [Array.length_toList]
        have h2 : s.data.size = s.size := rfl
        rw [hs, List.length_cons] at hlen
        omega
      cases h3 : s.data.toList with
      | nil => rw [h3] at this; exact absurd rfl this
      | cons a l => rfl
    obtain ⟨b0, hb0', hbc⟩ := str_at (s := s) (i := 0) (y := c) (by rw [hs]; rfl)
    have hb0 : s.data[(0 : Int).toNat]? = some b0 := hb0'
    have hc255 : c ≤ 255 := by have := b0.toNat_lt; omega
    obtain ⟨⟨n, r0⟩, hwd⟩ : ∃ x, wideN c = x := ⟨_, rfl⟩
    have hn4 : n ≤ 4 := by have := wideN_le c; rw [hwd] at this; exact this
    have hln := longN_wide hwd
    have hsl : s.size = t.length + 1 := by rw [← hlen, hs]; rfl
    have LN := fun w => long_any w b0.toNat (by omega)
    rw [hbc, hln] at LN
    rw [hs] at hR
    by_cases hn : n = 0
    · subst hn
      refine run_seq ?_
      refine run_region rfl ?_
      refine op_assign rfl rfl ?_
      refine op_assign rfl rfl ?_
      refine ops_nil ?_
      refine fin_code ?_
      refine run_seq ?_
      refine run_seq ?_
      refine run_region rfl ?_
      refine op_move rfl rfl ?_
      (refine op_val rfl (val_strEq hse rfl rfl) ?_)
      refine ops_nil ?_
      refine fin_code ?_
      refine run_cond_f rfl ?_
      refine run_skip ?_
      refine fin_code ?_
      refine run_seq ?_
      refine run_region rfl ?_
      refine op_move rfl rfl ?_
      (refine op_val rfl (val_sindex rfl rfl (by omega) hb0) ?_)
      rw [hbc]
      ((first | (apply op_call; (· exact rfl)) | apply op_call0); (· exact rfl); rotate_left 1; (· exact fun w hG hw => LN w); rotate_right 1; (· (repeat (first | exact Picks.nil | (apply Picks.cons; (· (repeat (first | exact Pick.here | apply Pick.there)))) | apply Picks.empty))))
      intro _ _
      refine op_assign rfl rfl ?_
      refine ops_nil ?_
      refine fin_code ?_
      refine run_seq ?_
      refine run_seq ?_
      refine run_region rfl ?_
      refine op_move rfl rfl ?_
      refine op_cmp_t rfl rfl rfl rfl (by first | (simp only [cmpP]; done) | (simp only [cmpP]; omega)) ?_
      refine op_move rfl rfl ?_
      refine ops_off1 rfl rfl ?_
      refine ops_off1 rfl rfl ?_
      refine ops_off1 rfl rfl ?_
      refine ops_off1 rfl rfl ?_
      refine op_pick_t rfl rfl rfl ?_
      refine ops_nil ?_
      refine fin_code ?_
      refine run_cond_t rfl ?_
      refine run_seq ?_
      refine run_region rfl ?_
      refine op_assign rfl rfl ?_
      refine op_assign rfl rfl ?_
      refine ops_nil ?_
      refine fin_code ?_
      refine run_ret ?_
      refine fin_ret_code ?_
      refine fin_ret2 rfl rfl rfl ?_
      intro w' g
      exact hR _ _ (post_of g (0, 0) ⟨rune_none hwd (fun h => by omega), by dsimp only; omega, by dsimp only; omega⟩ rfl (by (apply le_of_picks; (repeat (first | exact Picks.nil | (apply Picks.cons; (· (repeat (first | exact Pick.here | apply Pick.there)))) | apply Picks.empty)))))
    by_cases hsn : s.size < n
    · refine run_seq ?_
      refine run_region rfl ?_
      refine op_assign rfl rfl ?_
      refine op_assign rfl rfl ?_
      refine ops_nil ?_
      refine fin_code ?_
      refine run_seq ?_
      refine run_seq ?_
      refine run_region rfl ?_
      refine op_move rfl rfl ?_
      (refine op_val rfl (val_strEq hse rfl rfl) ?_)
      refine ops_nil ?_
      refine fin_code ?_
      refine run_cond_f rfl ?_
      refine run_skip ?_
      refine fin_code ?_
      refine run_seq ?_
      refine run_region rfl ?_
      refine op_move rfl rfl ?_
      (refine op_val rfl (val_sindex rfl rfl (by omega) hb0) ?_)
      rw [hbc]
      ((first | (apply op_call; (· exact rfl)) | apply op_call0); (· exact rfl); rotate_left 1; (· exact fun w hG hw => LN w); rotate_right 1; (· (repeat (first | exact Picks.nil | (apply Picks.cons; (· (repeat (first | exact Pick.here | apply Pick.there)))) | apply Picks.empty))))
      intro _ _
      refine op_assign rfl rfl ?_
      refine ops_nil ?_
      refine fin_code ?_
      refine run_seq ?_
      refine run_seq ?_
      refine run_region rfl ?_
      refine op_move rfl rfl ?_
      refine op_cmp_f rfl rfl rfl rfl (by first | (simp only [cmpP]; done) | (simp only [cmpP]; omega)) ?_
      refine op_move rfl rfl ?_
      refine ops_guard_yes rfl rfl rfl ?_
      refine op_move rfl rfl ?_
      refine ops_guard_yes rfl rfl rfl ?_
      (refine op_val rfl (val_slen rfl) ?_)
      refine ops_guard_yes rfl rfl rfl ?_
      refine op_move rfl rfl ?_
      refine ops_guard_yes rfl rfl rfl ?_
      refine op_cmp_t rfl rfl rfl rfl (by first | (simp only [cmpP]; done) | (simp only [cmpP]; omega)) ?_
      refine op_pick_f rfl rfl rfl ?_
      refine ops_nil ?_
      refine fin_code ?_
      refine run_cond_t rfl ?_
      refine run_seq ?_
      refine run_region rfl ?_
      refine op_assign rfl rfl ?_
      refine op_assign rfl rfl ?_
      refine ops_nil ?_
      refine fin_code ?_
      refine run_ret ?_
      refine fin_ret_code ?_
      refine fin_ret2 rfl rfl rfl ?_
      intro w' g
      exact hR _ _ (post_of g (0, 0) ⟨rune_none hwd (fun h => by omega), by dsimp only; omega, by dsimp only; omega⟩ rfl (by (apply le_of_picks; (repeat (first | exact Picks.nil | (apply Picks.cons; (· (repeat (first | exact Pick.here | apply Pick.there)))) | apply Picks.empty)))))
    have hex : strN (s.extract 0 ((n : Nat) : Int).toNat) = c :: t.take (n - 1) := by
      rw [Int.toNat_natCast, strN_extract, hs, show n = (n - 1) + 1 by omega]
      rfl
    have RS := fun w => runes_any w (s.extract 0 ((n : Nat) : Int).toNat) c n r0 (t.take (n - 1)) hex hwd (by omega) (by rw [List.length_take]; omega)
    refine run_seq ?_
    refine run_region rfl ?_
    refine op_assign rfl rfl ?_
    refine op_assign rfl rfl ?_
    refine ops_nil ?_
    refine fin_code ?_
    refine run_seq ?_
    refine run_seq ?_
    refine run_region rfl ?_
    refine op_move rfl rfl ?_
    (refine op_val rfl (val_strEq hse rfl rfl) ?_)
    refine ops_nil ?_
    refine fin_code ?_
    refine run_cond_f rfl ?_
    refine run_skip ?_
    refine fin_code ?_
    refine run_seq ?_
    refine run_region rfl ?_
    refine op_move rfl rfl ?_
    (refine op_val rfl (val_sindex rfl rfl (by omega) hb0) ?_)
    rw [hbc]
    ((first | (apply op_call; (· exact rfl)) | apply op_call0); (· exact rfl); rotate_left 1; (· exact fun w hG hw => LN w); rotate_right 1; (· (repeat (first | exact Picks.nil | (apply Picks.cons; (· (repeat (first | exact Pick.here | apply Pick.there)))) | apply Picks.empty))))
    intro _ _
    refine op_assign rfl rfl ?_
    refine ops_nil ?_
    refine fin_code ?_
    refine run_seq ?_
    refine run_seq ?_
    refine run_region rfl ?_
    refine op_move rfl rfl ?_
    refine op_cmp_f rfl rfl rfl rfl (by first | (simp only [cmpP]; done) | (simp only [cmpP]; omega)) ?_
    refine op_move rfl rfl ?_
    refine ops_guard_yes rfl rfl rfl ?_
    refine op_move rfl rfl ?_
    refine ops_guard_yes rfl rfl rfl ?_
    (refine op_val rfl (val_slen rfl) ?_)
    refine ops_guard_yes rfl rfl rfl ?_
    refine op_move rfl rfl ?_
    refine ops_guard_yes rfl rfl rfl ?_
    refine op_cmp_f rfl rfl rfl rfl (by first | (simp only [cmpP]; done) | (simp only [cmpP]; omega)) ?_
    refine op_pick_f rfl rfl rfl ?_
    refine ops_nil ?_
    refine fin_code ?_
    refine run_cond_f rfl ?_
    refine run_skip ?_
    refine fin_code ?_
    refine run_seq ?_
    refine run_region rfl ?_
    refine op_move rfl rfl ?_
    refine op_move rfl rfl ?_
    (refine op_val rfl (val_strH rfl rfl (by omega) (by omega)) ?_)
    ((first | (apply op_call; (· exact rfl)) | apply op_call0); (· exact rfl); rotate_left 1; (· exact fun w hG hw => RS w); rotate_right 1; (· (repeat (first | exact Picks.nil | (apply Picks.cons; (· (repeat (first | exact Pick.here | apply Pick.there)))) | apply Picks.empty))))
    rintro ⟨lo, hi, ok⟩ hx
    dsimp only at hx ⊢
    rcases hx with ⟨rfl, hnt⟩ | ⟨htl, v, hv, hfo, hlo, hhi, hok⟩
    · refine op_move rfl rfl ?_
      refine op_extract rfl rfl rfl ?_
      refine op_extract rfl rfl rfl ?_
      refine op_extract rfl rfl rfl ?_
      refine op_assign rfl rfl ?_
      refine op_assign rfl rfl ?_
      refine op_assign rfl rfl ?_
      refine ops_nil ?_
      refine fin_code ?_
      refine run_seq ?_
      refine run_seq ?_
      refine run_region rfl ?_
      refine op_move rfl rfl ?_
      refine op_not rfl rfl ?_
      refine op_move rfl rfl ?_
      refine ops_off1 rfl rfl ?_
      refine ops_off1 rfl rfl ?_
      refine ops_off1 rfl rfl ?_
      refine op_pick_t rfl rfl rfl ?_
      refine op_move rfl rfl ?_
      refine ops_off1 rfl rfl ?_
      refine ops_off1 rfl rfl ?_
      refine ops_off1 rfl rfl ?_
      refine op_pick_t rfl rfl rfl ?_
      refine ops_nil ?_
      refine fin_code ?_
      refine run_cond_t rfl ?_
      refine run_seq ?_
      refine run_region rfl ?_
      refine op_assign rfl rfl ?_
      refine op_assign rfl rfl ?_
      refine ops_nil ?_
      refine fin_code ?_
      refine run_ret ?_
      refine fin_ret_code ?_
      refine fin_ret2 rfl rfl rfl ?_
      intro w' g
      exact hR _ _ (post_of g (0, 0) ⟨rune_none hwd (fun h h2 => absurd (by rw [List.take_of_length_le (by omega)]; exact h2) hnt), by dsimp only; omega, by dsimp only; omega⟩ rfl (by (apply le_of_picks; (repeat (first | exact Picks.nil | (apply Picks.cons; (· (repeat (first | exact Pick.here | apply Pick.there)))) | apply Picks.empty)))))
    · have hnone : ¬ (leastN n ≤ v ∧ isL v) → LetS (c :: t) 0 0 := fun h => rune_none hwd (fun h1 h2 r hL h3 h4 => by
        rw [List.take_of_length_le (by omega), h3] at hfo
        have : r = v := by omega
        subst this
        exact h ⟨h4, hL⟩)
      have hleast : leastN n ≤ 65536 := by
        unfold leastN
        split
        · omega
        · split
          · omega
          · split <;> omega
      by_cases h1 : lo ≤ hi
      · rw [decide_eq_true h1] at hok
        subst hok
        by_cases h2 : lo = hi
        · have hv1 : leastN n ≤ v ∧ v ≤ 1114111 ∧ lo = v := by
            split at hlo <;> split at hhi <;> omega
          obtain ⟨hv1, hv2, rfl⟩ := hv1
          subst h2
          have VL := fun w => valid2_any w (v : Int) (by omega) (by omega)
          cases hvv : validI (v : Int) with
          | true =>
            rw [hvv] at VL
            have hL := (validI_isL hvv).1
            rw [Int.toNat_natCast] at hL
            refine op_move rfl rfl ?_
            refine op_extract rfl rfl rfl ?_
            refine op_extract rfl rfl rfl ?_
            refine op_extract rfl rfl rfl ?_
            refine op_assign rfl rfl ?_
            refine op_assign rfl rfl ?_
            refine op_assign rfl rfl ?_
            refine ops_nil ?_
            refine fin_code ?_
            refine run_seq ?_
            refine run_seq ?_
            refine run_region rfl ?_
            refine op_move rfl rfl ?_
            refine op_not rfl rfl ?_
            refine op_move rfl rfl ?_
            refine ops_guard_yes rfl rfl rfl ?_
            refine op_move rfl rfl ?_
            refine ops_guard_yes rfl rfl rfl ?_
            refine op_move rfl rfl ?_
            refine ops_guard_yes rfl rfl rfl ?_
            (refine op_cmp_f rfl rfl rfl rfl (fun h => h rfl) ?_)
            refine op_pick_f rfl rfl rfl ?_
            refine op_move rfl rfl ?_
            refine ops_guard_yes rfl rfl rfl ?_
            refine op_move rfl rfl ?_
            refine ops_guard_yes rfl rfl rfl ?_
            ((first | (apply op_call; (· exact rfl)) | apply op_call0); (· exact rfl); rotate_left 1; (· exact fun w hG hw => VL w); rotate_right 1; (· (repeat (first | exact Picks.nil | (apply Picks.cons; (· (repeat (first | exact Pick.here | apply Pick.there)))) | apply Picks.empty))))
            intro _ _
            refine ops_guard_yes rfl rfl rfl ?_
            refine op_not rfl rfl ?_
            refine op_pick_f rfl rfl rfl ?_
            refine ops_nil ?_
            refine fin_code ?_
            refine run_cond_f rfl ?_
            refine run_skip ?_
            refine fin_code ?_
            refine run_seq ?_
            refine run_region rfl ?_
            refine op_move rfl rfl ?_
            refine op_move rfl rfl ?_
            refine op_assign rfl rfl ?_
            refine op_assign rfl rfl ?_
            refine ops_nil ?_
            refine fin_code ?_
            refine run_ret ?_
            refine fin_ret2 rfl rfl rfl ?_
            intro w' g
            exact hR _ _ (post_of g (v, n) ⟨rune_some hwd (by omega) (by omega) htl hfo hv1 hL, hv2, hn4⟩ rfl (by (apply le_of_picks; (repeat (first | exact Picks.nil | (apply Picks.cons; (· (repeat (first | exact Pick.here | apply Pick.there)))) | apply Picks.empty)))))
          | false =>
            rw [hvv] at VL
            have hL : ¬ isL v := fun h => by
              unfold validI at hvv
              have := of_decide_eq_false hvv
              obtain ⟨k1, k2⟩ := h
              omega
            refine op_move rfl rfl ?_
            refine op_extract rfl rfl rfl ?_
            refine op_extract rfl rfl rfl ?_
            refine op_extract rfl rfl rfl ?_
            refine op_assign rfl rfl ?_
            refine op_assign rfl rfl ?_
            refine op_assign rfl rfl ?_
            refine ops_nil ?_
            refine fin_code ?_
            refine run_seq ?_
            refine run_seq ?_
            refine run_region rfl ?_
            refine op_move rfl rfl ?_
            refine op_not rfl rfl ?_
            refine op_move rfl rfl ?_
            refine ops_guard_yes rfl rfl rfl ?_
            refine op_move rfl rfl ?_
            refine ops_guard_yes rfl rfl rfl ?_
            refine op_move rfl rfl ?_
            refine ops_guard_yes rfl rfl rfl ?_
            (refine op_cmp_f rfl rfl rfl rfl (fun h => h rfl) ?_)
            refine op_pick_f rfl rfl rfl ?_
            refine op_move rfl rfl ?_
            refine ops_guard_yes rfl rfl rfl ?_
            refine op_move rfl rfl ?_
            refine ops_guard_yes rfl rfl rfl ?_
            ((first | (apply op_call; (· exact rfl)) | apply op_call0); (· exact rfl); rotate_left 1; (· exact fun w hG hw => VL w); rotate_right 1; (· (repeat (first | exact Picks.nil | (apply Picks.cons; (· (repeat (first | exact Pick.here | apply Pick.there)))) | apply Picks.empty))))
            intro _ _
            refine ops_guard_yes rfl rfl rfl ?_
            refine op_not rfl rfl ?_
            refine op_pick_f rfl rfl rfl ?_
            refine ops_nil ?_
            refine fin_code ?_
            refine run_cond_t rfl ?_
            refine run_seq ?_
            refine run_region rfl ?_
            refine op_assign rfl rfl ?_
            refine op_assign rfl rfl ?_
            refine ops_nil ?_
            refine fin_code ?_
            refine run_ret ?_
            refine fin_ret_code ?_
            refine fin_ret2 rfl rfl rfl ?_
            intro w' g
            exact hR _ _ (post_of g (0, 0) ⟨hnone (fun h => hL h.2), by dsimp only; omega, by dsimp only; omega⟩ rfl (by (apply le_of_picks; (repeat (first | exact Picks.nil | (apply Picks.cons; (· (repeat (first | exact Pick.here | apply Pick.there)))) | apply Picks.empty)))))
        · have hne : ¬ (leastN n ≤ v ∧ isL v) := fun ⟨k1, k2, _⟩ => by
            split at hlo <;> split at hhi <;> omega
          refine op_move rfl rfl ?_
          refine op_extract rfl rfl rfl ?_
          refine op_extract rfl rfl rfl ?_
          refine op_extract rfl rfl rfl ?_
          refine op_assign rfl rfl ?_
          refine op_assign rfl rfl ?_
          refine op_assign rfl rfl ?_
          refine ops_nil ?_
          refine fin_code ?_
          refine run_seq ?_
          refine run_seq ?_
          refine run_region rfl ?_
          refine op_move rfl rfl ?_
          refine op_not rfl rfl ?_
          refine op_move rfl rfl ?_
          refine ops_guard_yes rfl rfl rfl ?_
          refine op_move rfl rfl ?_
          refine ops_guard_yes rfl rfl rfl ?_
          refine op_move rfl rfl ?_
          refine ops_guard_yes rfl rfl rfl ?_
          refine op_cmp_t rfl rfl rfl rfl (by first | (simp only [cmpP]; done) | (simp only [cmpP]; omega)) ?_
          refine op_pick_f rfl rfl rfl ?_
          refine op_move rfl rfl ?_
          refine ops_off1 rfl rfl ?_
          refine ops_off1 rfl rfl ?_
          refine ops_off1 rfl rfl ?_
          refine op_pick_t rfl rfl rfl ?_
          refine ops_nil ?_
          refine fin_code ?_
          refine run_cond_t rfl ?_
          refine run_seq ?_
          refine run_region rfl ?_
          refine op_assign rfl rfl ?_
          refine op_assign rfl rfl ?_
          refine ops_nil ?_
          refine fin_code ?_
          refine run_ret ?_
          refine fin_ret_code ?_
          refine fin_ret2 rfl rfl rfl ?_
          intro w' g
          exact hR _ _ (post_of g (0, 0) ⟨hnone hne, by dsimp only; omega, by dsimp only; omega⟩ rfl (by (apply le_of_picks; (repeat (first | exact Picks.nil | (apply Picks.cons; (· (repeat (first | exact Pick.here | apply Pick.there)))) | apply Picks.empty)))))
      · rw [decide_eq_false h1] at hok
        subst hok
        have hne : ¬ (leastN n ≤ v ∧ isL v) := fun ⟨k1, k2, _⟩ => by
          split at hlo <;> split at hhi <;> omega
        refine op_move rfl rfl ?_
        refine op_extract rfl rfl rfl ?_
        refine op_extract rfl rfl rfl ?_
        refine op_extract rfl rfl rfl ?_
        refine op_assign rfl rfl ?_
        refine op_assign rfl rfl ?_
        refine op_assign rfl rfl ?_
        refine ops_nil ?_
        refine fin_code ?_
        refine run_seq ?_
        refine run_seq ?_
        refine run_region rfl ?_
        refine op_move rfl rfl ?_
        refine op_not rfl rfl ?_
        refine op_move rfl rfl ?_
        refine ops_off1 rfl rfl ?_
        refine ops_off1 rfl rfl ?_
        refine ops_off1 rfl rfl ?_
        refine op_pick_t rfl rfl rfl ?_
        refine op_move rfl rfl ?_
        refine ops_off1 rfl rfl ?_
        refine ops_off1 rfl rfl ?_
        refine ops_off1 rfl rfl ?_
        refine op_pick_t rfl rfl rfl ?_
        refine ops_nil ?_
        refine fin_code ?_
        refine run_cond_t rfl ?_
        refine run_seq ?_
        refine run_region rfl ?_
        refine op_assign rfl rfl ?_
        refine op_assign rfl rfl ?_
        refine ops_nil ?_
        refine fin_code ?_
        refine run_ret ?_
        refine fin_ret_code ?_
        refine fin_ret2 rfl rfl rfl ?_
        intro w' g
        exact hR _ _ (post_of g (0, 0) ⟨hnone hne, by dsimp only; omega, by dsimp only; omega⟩ rfl (by (apply le_of_picks; (repeat (first | exact Picks.nil | (apply Picks.cons; (· (repeat (first | exact Pick.here | apply Pick.there)))) | apply Picks.empty)))))
end Go.Proofs.Eng
