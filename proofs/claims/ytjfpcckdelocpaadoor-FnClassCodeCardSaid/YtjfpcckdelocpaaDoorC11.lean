/- A part of the proof: what functions of the program do, step by step. -/
import Derived.Test.YtjfpcckdelocpaaDoorC10
import Derived.Test.YtjfpcckdelocpaaDoorC7
set_option linter.unusedVariables false
set_option linter.unusedSimpArgs false
namespace Go.Proofs.Eng
open Go.RowKit
theorem flatE : encI [] = [] := rfl
/-- What the program of a class of one range tells of a text, and what its first letter tells. -/
theorem class_law {lo hi : Nat} {L : List (Nat × Nat)} (h : GoodL lo hi L) (hle : lo ≤ hi) (hlo : isL lo) {u : List Nat} {r k : Nat} (hl : LetS u r k) {mb : Bool} (hm : mb = true ↔ Acc (progC (L.map (fun p => seqOf p.1 p.2))) 0 u) : mb = true ↔ (0 < k ∧ k = u.length ∧ lo ≤ r ∧ r ≤ hi) := by
  have hne : L.map (fun p => seqOf p.1 p.2) ≠ [] := by
    obtain ⟨p, hp, _⟩ := h.all lo hlo (Nat.le_refl _) hle
    intro e
    have := List.map_eq_nil_iff.1 e
    rw [this] at hp
    cases hp
  rw [hm, progC_acc hne, hl.iff, ← h.cov u]
  constructor
  · rintro ⟨s, hs, hc⟩
    obtain ⟨p, hp, rfl⟩ := List.mem_map.1 hs
    exact ⟨p, hp, hc⟩
  · rintro ⟨p, hp, hc⟩
    exact ⟨_, List.mem_map.2 ⟨p, hp, rfl⟩, hc⟩
set_option maxRecDepth 100000 in
set_option maxHeartbeats 16000000 in
theorem lawCode_any (w : World) (x y : Int) (hx0 : -2147483648 ≤ x) (hx1 : x ≤ 2147483647) (hy0 : -2147483648 ≤ y) (hy1 : y ≤ 2147483647) (s : ByteArray) (hgl : RdB w w.heap.size 5 (r2 (65535, 0))) (hgl6 : RdB w w.heap.size 6 [.int .u8 255, .int .u8 0]) :
    Calls Tryd.prog 6 #[.int .i32 x, .int .i32 y, .string s] w (Post w ([] : List Hp).flatten (fun _ : Unit => .bool true) (fun _ => ([] : List Hp).flatten) (fun _ => True)) := by
  have hmax : (1000000 : Nat) ≤ maxLen := by decide
  refine enter [] Tryd.func6 rfl rfl (At.nil w) (Le.refl _) ?_
  intro R hR
  by_cases hsz : 2147483647 < s.size
  · refine run_seq ?_
    refine run_region rfl ?_
    refine op_assign rfl rfl ?_
    refine ops_nil ?_
    refine fin_code ?_
    refine run_seq ?_
    refine run_seq ?_
    refine run_region rfl ?_
    refine op_move rfl rfl ?_
    (refine op_val rfl (val_slen rfl) ?_)
    refine op_cmp_t rfl rfl rfl rfl (by first | (simp only [cmpP]; done) | (simp only [cmpP]; omega)) ?_
    refine ops_nil ?_
    refine fin_code ?_
    refine run_cond_t rfl ?_
    refine run_seq ?_
    refine run_region rfl ?_
    refine op_assign rfl rfl ?_
    refine ops_nil ?_
    refine fin_code ?_
    refine run_ret ?_
    refine fin_ret_code ?_
    refine fin_ret1 rfl rfl ?_
    intro w' g
    exact hR _ _ (post_of g () trivial rfl (by (apply le_of_picks; (repeat (first | exact Picks.nil | (apply Picks.cons; (· (repeat (first | exact Pick.here | apply Pick.there)))) | apply Picks.empty)))))
  refine run_seq ?_
  refine run_region rfl ?_
  refine op_assign rfl rfl ?_
  refine ops_nil ?_
  refine fin_code ?_
  refine run_seq ?_
  refine run_seq ?_
  refine run_region rfl ?_
  refine op_move rfl rfl ?_
  (refine op_val rfl (val_slen rfl) ?_)
  refine op_cmp_f rfl rfl rfl rfl (by first | (simp only [cmpP]; done) | (simp only [cmpP]; omega)) ?_
  refine ops_nil ?_
  refine fin_code ?_
  refine run_cond_f rfl ?_
  refine run_skip ?_
  refine fin_code ?_
  refine run_seq ?_
  refine run_region rfl ?_
  refine op_move rfl rfl ?_
  ((first | (apply op_call; (· exact rfl)) | apply op_call0); (· exact rfl); rotate_left 1; (· exact fun w hG hw => scalar_any w x hx0 hx1); rotate_right 1; (· (repeat (first | exact Picks.nil | (apply Picks.cons; (· (repeat (first | exact Pick.here | apply Pick.there)))) | apply Picks.empty))))
  intro a0 ha0
  refine op_move rfl rfl ?_
  ((first | (apply op_call; (· exact rfl)) | apply op_call0); (· exact rfl); rotate_left 1; (· exact fun w hG hw => scalar_any w y hy0 hy1); rotate_right 1; (· (repeat (first | exact Picks.nil | (apply Picks.cons; (· (repeat (first | exact Pick.here | apply Pick.there)))) | apply Picks.empty))))
  intro b0 hb0
  refine op_assign rfl rfl ?_
  refine op_assign rfl rfl ?_
  refine ops_nil ?_
  refine fin_code ?_
  refine run_seq ?_
  refine run_seq ?_
  refine run_region rfl ?_
  refine op_move rfl rfl ?_
  refine op_move rfl rfl ?_
  have ha0' := ha0.1
  have hb0' := hb0.1
  refine ops_join1 (α := Nat × Nat) (fun x => [(2, .string s), (6, .bool false), (7, .int .i32 (x.1 : Nat)), (8, .int .i32 (x.2 : Nat))]) (fun _ => []) (fun x => x.1 ≤ x.2 ∧ isL x.1 ∧ isL x.2) ?_ ?_
  rotate_left 1
  · intro J
    by_cases hlt : b0 < a0
    · have J1 := J (b0, a0) ⟨by dsimp only; omega, hb0, ha0⟩
      refine op_cmp_t rfl rfl rfl rfl (by first | (simp only [cmpP]; done) | (simp only [cmpP]; omega)) ?_
      refine ops_nil ?_
      refine fin_code ?_
      refine run_cond_t rfl ?_
      refine run_region rfl ?_
      refine op_move rfl rfl ?_
      refine op_move rfl rfl ?_
      refine op_assign rfl rfl ?_
      refine op_assign rfl rfl ?_
      refine ops_nil ?_
      (apply J1)
      · (repeat (first | exact Sub.nil _ | (refine Sub.cons rfl ?_)))
      · (apply le_of_picks; (repeat (first | exact Picks.nil | (apply Picks.cons; (· (repeat (first | exact Pick.here | apply Pick.there)))) | apply Picks.empty)))
    · have J1 := J (a0, b0) ⟨by dsimp only; omega, ha0, hb0⟩
      refine op_cmp_f rfl rfl rfl rfl (by first | (simp only [cmpP]; done) | (simp only [cmpP]; omega)) ?_
      refine ops_nil ?_
      refine fin_code ?_
      refine run_cond_f rfl ?_
      refine run_skip ?_
      (apply J1)
      · (repeat (first | exact Sub.nil _ | (refine Sub.cons rfl ?_)))
      · (apply le_of_picks; (repeat (first | exact Picks.nil | (apply Picks.cons; (· (repeat (first | exact Pick.here | apply Pick.there)))) | apply Picks.empty)))
  clear ha0 hb0 ha0' hb0'
  rintro ⟨a, b⟩ ⟨hab, ha, hb⟩
  dsimp only at hab ha hb ⊢
  have hbm := hb.1
  refine fin_code ?_
  refine run_seq ?_
  refine run_region rfl ?_
  refine op_move rfl rfl ?_
  refine op_move rfl rfl ?_
  (refine op_sliceN rfl rfl rfl (by first | (intro v hv; simp at hv; done) | (intro v hv; simp at hv; rcases hv with rfl | rfl | rfl | rfl | rfl | rfl | rfl <;> rfl) | (intro v hv; simp at hv; rcases hv with rfl | rfl | rfl | rfl | rfl | rfl <;> rfl) | (intro v hv; simp at hv; rcases hv with rfl | rfl | rfl | rfl | rfl <;> rfl) | (intro v hv; simp at hv; rcases hv with rfl | rfl | rfl | rfl <;> rfl) | (intro v hv; simp at hv; rcases hv with rfl | rfl | rfl <;> rfl) | (intro v hv; simp at hv; rcases hv with rfl | rfl <;> rfl) | (intro v hv; simp at hv; rcases hv with rfl; rfl)) rfl rfl (by decide) ?_; intro _ _)
  refine op_build rfl rfl rfl (by first | (intro v hv; simp at hv; done) | (intro v hv; simp at hv; rcases hv with rfl | rfl | rfl | rfl | rfl | rfl | rfl <;> rfl) | (intro v hv; simp at hv; rcases hv with rfl | rfl | rfl | rfl | rfl | rfl <;> rfl) | (intro v hv; simp at hv; rcases hv with rfl | rfl | rfl | rfl | rfl <;> rfl) | (intro v hv; simp at hv; rcases hv with rfl | rfl | rfl | rfl <;> rfl) | (intro v hv; simp at hv; rcases hv with rfl | rfl | rfl <;> rfl) | (intro v hv; simp at hv; rcases hv with rfl | rfl <;> rfl) | (intro v hv; simp at hv; rcases hv with rfl; rfl)) rfl ?_
  rename_i g0 hg0
  have PG := fun w' hBw hgl hgl6 hw => program_any w' g0 a b 10485760 w.heap.size hBw hg0 hab ha hbm hgl hgl6 hw
  ((first | (apply op_call; (· exact rfl)) | apply op_call0); (· exact rfl)); (case' hc => (refine fun w hG hw => PG w ?_ ?_ ?_ hw)); (case hp => (repeat (first | exact Picks.nil | (apply Picks.cons; (· (repeat (first | exact Pick.here | apply Pick.there)))) | apply Picks.empty)))
  · exact hG.size
  · exact hgl.nowD hG (by simp [ids]) (Nat.le_refl _)
  · exact hgl6.nowD hG (by simp [ids]) (Nat.le_refl _)
  rintro ⟨rv, rl, L⟩ ⟨hgood, hfew, hown⟩
  dsimp only at hgood hfew hown ⊢
  have hlaw : ∀ (u : List Nat) (r k : Nat) (mb : Bool), LetS u r k → (mb = true ↔ Acc (progC (L.map (fun p => seqOf p.1 p.2))) 0 u) → (mb = true ↔ (0 < k ∧ k = u.length ∧ a ≤ r ∧ r ≤ b)) := fun u r k mb h1 h2 => class_law hgood hab ha h1 h2
  have hlen : (progC (L.map (fun p => seqOf p.1 p.2))).length ≤ 900000 := by
    have := prLen_le (S := L.map (fun p => seqOf p.1 p.2)) (fun s hs => by obtain ⟨p, _, rfl⟩ := List.mem_map.1 hs; exact seqOf_len _ _)
    rw [List.length_map] at this
    rw [progC_len]
    omega
  have hpos : 0 < (progC (L.map (fun p => seqOf p.1 p.2))).length := by rw [progC_len]; omega
  have hsnd := progC_sound (L.map (fun p => seqOf p.1 p.2))
  generalize progC (L.map (fun p => seqOf p.1 p.2)) = l at *
  obtain ⟨A, c, rfl⟩ := hown.isSlice
  refine op_move rfl rfl ?_
  refine op_extract rfl rfl rfl ?_
  refine op_extract rfl rfl rfl ?_
  refine op_assign rfl rfl ?_
  refine op_assign rfl rfl ?_
  refine ops_nil ?_
  refine fin_code ?_
  refine run_seq ?_
  refine run_seq ?_
  refine run_region rfl ?_
  refine op_move rfl rfl ?_
  (refine op_cmp_f rfl rfl rfl rfl (fun h => h rfl) ?_)
  refine op_move rfl rfl ?_
  refine ops_guard_yes rfl rfl rfl ?_
  refine op_move rfl rfl ?_
  refine ops_guard_yes rfl rfl rfl ?_
  ((first | (apply op_call; (· exact rfl)) | apply op_call0); (· exact rfl)); (case' hc => (refine fun w hG hw => soundP_any w A l.length c l rfl (by omega) hpos ?_ hsnd)); (case hp => (repeat (first | exact Picks.nil | (apply Picks.cons; (· (repeat (first | exact Pick.here | apply Pick.there)))) | apply Picks.empty)))
  · exact hown.rd (At.item hG.now (by (repeat (first | exact Pick.here | apply Pick.there))))
  intro _ _
  refine ops_guard_yes rfl rfl rfl ?_
  refine op_not rfl rfl ?_
  refine op_pick_f rfl rfl rfl ?_
  refine ops_nil ?_
  refine fin_code ?_
  refine run_cond_f rfl ?_
  refine run_skip ?_
  refine fin_code ?_
  refine run_seq ?_
  refine run_region rfl ?_
  refine op_move rfl rfl ?_
  ((first | (apply op_call; (· exact rfl)) | apply op_call0); (· exact rfl); rotate_left 1; (· exact fun w hG hw => few_any w s); rotate_right 1; (· (repeat (first | exact Picks.nil | (apply Picks.cons; (· (repeat (first | exact Pick.here | apply Pick.there)))) | apply Picks.empty))))
  intro s0 h0
  refine op_move rfl rfl ?_
  ((first | (apply op_call; (· exact rfl)) | apply op_call0); (· exact rfl); rotate_left 1; (· exact fun w hG hw => encoded_any w _ (by omega) (by omega)); rotate_right 1; (· (repeat (first | exact Picks.nil | (apply Picks.cons; (· (repeat (first | exact Pick.here | apply Pick.there)))) | apply Picks.empty))))
  intro s1 h1
  refine op_move rfl rfl ?_
  ((first | (apply op_call; (· exact rfl)) | apply op_call0); (· exact rfl); rotate_left 1; (· exact fun w hG hw => encoded_any w _ (by omega) (by omega)); rotate_right 1; (· (repeat (first | exact Picks.nil | (apply Picks.cons; (· (repeat (first | exact Pick.here | apply Pick.there)))) | apply Picks.empty))))
  intro s2 h2
  refine op_move rfl rfl ?_
  refine op_sub rfl rfl rfl (by simp only [kLo, kHi]; omega) ?_
  ((first | (apply op_call; (· exact rfl)) | apply op_call0); (· exact rfl); rotate_left 1; (· exact fun w hG hw => scalar_any w _ (by omega) (by omega)); rotate_right 1; (· (repeat (first | exact Picks.nil | (apply Picks.cons; (· (repeat (first | exact Pick.here | apply Pick.there)))) | apply Picks.empty))))
  intro r3 hr3
  have hr3m := hr3.1
  skip
  ((first | (apply op_call; (· exact rfl)) | apply op_call0); (· exact rfl); rotate_left 1; (· exact fun w hG hw => encoded_any w _ (by omega) (by omega)); rotate_right 1; (· (repeat (first | exact Picks.nil | (apply Picks.cons; (· (repeat (first | exact Pick.here | apply Pick.there)))) | apply Picks.empty))))
  intro s3 h3
  refine op_move rfl rfl ?_
  refine op_add rfl rfl rfl (by simp only [kLo, kHi]; omega) ?_
  ((first | (apply op_call; (· exact rfl)) | apply op_call0); (· exact rfl); rotate_left 1; (· exact fun w hG hw => scalar_any w _ (by omega) (by omega)); rotate_right 1; (· (repeat (first | exact Picks.nil | (apply Picks.cons; (· (repeat (first | exact Pick.here | apply Pick.there)))) | apply Picks.empty))))
  intro r4 hr4
  have hr4m := hr4.1
  skip
  ((first | (apply op_call; (· exact rfl)) | apply op_call0); (· exact rfl); rotate_left 1; (· exact fun w hG hw => encoded_any w _ (by omega) (by omega)); rotate_right 1; (· (repeat (first | exact Picks.nil | (apply Picks.cons; (· (repeat (first | exact Pick.here | apply Pick.there)))) | apply Picks.empty))))
  intro s4 h4
  refine op_move rfl rfl ?_
  refine op_move rfl rfl ?_
  refine op_move rfl rfl ?_
  refine op_sub rfl rfl rfl (by simp only [kLo, kHi]; omega) ?_
  rw [show ((b : Nat) : Int) - ((a : Nat) : Int) = ((b - a : Nat) : Int) by omega]
  (refine op_quoN (n := 2) rfl rfl rfl (by omega) (by simp only [kHi]; omega) ?_)
  refine op_add rfl rfl rfl (by simp only [kLo, kHi]; omega) ?_
  ((first | (apply op_call; (· exact rfl)) | apply op_call0); (· exact rfl); rotate_left 1; (· exact fun w hG hw => encoded_any w _ (by omega) (by omega)); rotate_right 1; (· (repeat (first | exact Picks.nil | (apply Picks.cons; (· (repeat (first | exact Pick.here | apply Pick.there)))) | apply Picks.empty))))
  intro s5 h5
  (refine op_sliceN rfl rfl rfl (by first | (intro v hv; simp at hv; done) | (intro v hv; simp at hv; rcases hv with rfl | rfl | rfl | rfl | rfl | rfl | rfl <;> rfl) | (intro v hv; simp at hv; rcases hv with rfl | rfl | rfl | rfl | rfl | rfl <;> rfl) | (intro v hv; simp at hv; rcases hv with rfl | rfl | rfl | rfl | rfl <;> rfl) | (intro v hv; simp at hv; rcases hv with rfl | rfl | rfl | rfl <;> rfl) | (intro v hv; simp at hv; rcases hv with rfl | rfl | rfl <;> rfl) | (intro v hv; simp at hv; rcases hv with rfl | rfl <;> rfl) | (intro v hv; simp at hv; rcases hv with rfl; rfl)) rfl rfl (by decide) ?_; intro _ _)
  refine op_assign rfl rfl ?_
  refine ops_nil ?_
  refine fin_code ?_
  refine run_seq ?_
  refine run_seq ?_
  refine run_region rfl ?_
  refine op_assign rfl rfl ?_
  refine ops_nil ?_
  refine fin_code ?_
  refine run_block ?_
  rename_i gt hgt0
  obtain ⟨T, hT⟩ : ∃ T : List ByteArray, T = [s0, s1, s2, s3, s4, s5] := ⟨_, rfl⟩
  have hTl : T.length = 6 := by rw [hT]; rfl
  have hTs : ∀ b ∈ T, b.size ≤ 5 := by
    intro b hb
    rw [hT] at hb
    simp only [List.mem_cons, List.not_mem_nil, or_false] at hb
    rcases hb with rfl | rfl | rfl | rfl | rfl | rfl <;> assumption
  refine run_loop (α := Nat) (fun i => [(7, .int .i32 (a : Nat)), (8, .int .i32 (b : Nat)), (9, .slice A l.length c), (11, .slice (some ⟨gt, 0, none⟩) 6 6), (12, .int .i64 (i : Nat)), (6, .bool false)]) (fun _ => [rl, [⟨gt, .cells (T.map Value.string).toArray 9 (0, 0)⟩]]) (fun i => i ≤ 6) (fun i => 6 - i) 0 (by omega) (by (repeat (first | exact Sub.nil _ | (refine Sub.cons rfl ?_)))) (by rw [hT]; (apply le_of_picks; (repeat (first | exact Picks.nil | (apply Picks.cons; (· (repeat (first | exact Pick.here | apply Pick.there)))) | apply Picks.empty)))) ?_
  clear hT
  intro i hi
  by_cases hi6 : i < 6
  · have hTi := hTs _ (List.getElem_mem (show i < T.length by omega))
    have hgt : aget (T.map Value.string).toArray i = some (.string (T[i]'(by omega))) := by
      rw [aget_eq, List.getElem?_toArray, List.getElem?_map, List.getElem?_eq_getElem (by omega)]
      rfl
    generalize T[i]'(by omega) = si at hTi hgt
    refine run_seq ?_
    refine run_seq ?_
    refine run_region rfl ?_
    refine op_move rfl rfl ?_
    refine op_move rfl rfl ?_
    refine op_len rfl rfl ?_
    refine op_cmp_t rfl rfl rfl rfl (by first | (simp only [cmpP]; done) | (simp only [cmpP]; omega)) ?_
    refine ops_nil ?_
    refine fin_code ?_
    refine run_cond_t rfl ?_
    refine run_skip ?_
    refine fin_code ?_
    refine run_seq ?_
    refine run_block ?_
    refine run_seq ?_
    refine run_region rfl ?_
    refine op_move rfl rfl ?_
    refine op_move rfl rfl ?_
    refine op_index rfl rfl rfl (by omega) (by first | (rw [Int.toNat_natCast, Nat.mul_one, Nat.zero_add]) | (rw [Int.toNat_natCast, Nat.mul_one]) | (rw [Int.toNat_natCast, Nat.zero_add]) | (rw [Int.toNat_natCast]) | exact rfl) ?_
    (apply op_load; (· exact rfl); (· exact rfl); (· apply cell_of_has; (· (repeat (first | exact Has.here | apply Has.there))); (· first | exact rfl | exact hgt | exact aget_pre hgm)))
    ((first | (apply op_call; (· exact rfl)) | apply op_call0); (· exact rfl); rotate_left 1; (· exact fun w hG hw => rune_any w si (by omega)); rotate_right 1; (· (repeat (first | exact Picks.nil | (apply Picks.cons; (· (repeat (first | exact Pick.here | apply Pick.there)))) | apply Picks.empty))))
    rintro ⟨r, k⟩ ⟨hls, hr1, hk4⟩
    dsimp only at hls hr1 hk4 ⊢
    refine op_move rfl rfl ?_
    refine op_extract rfl rfl rfl ?_
    refine op_extract rfl rfl rfl ?_
    refine op_assign rfl rfl ?_
    refine op_assign rfl rfl ?_
    refine ops_nil ?_
    refine fin_code ?_
    refine run_seq ?_
    refine run_region rfl ?_
    refine op_move rfl rfl ?_
    refine op_move rfl rfl ?_
    refine op_move rfl rfl ?_
    refine op_index rfl rfl rfl (by omega) (by first | (rw [Int.toNat_natCast, Nat.mul_one, Nat.zero_add]) | (rw [Int.toNat_natCast, Nat.mul_one]) | (rw [Int.toNat_natCast, Nat.zero_add]) | (rw [Int.toNat_natCast]) | exact rfl) ?_
    (apply op_load; (· exact rfl); (· exact rfl); (· apply cell_of_has; (· (repeat (first | exact Has.here | apply Has.there))); (· first | exact rfl | exact hgt | exact aget_pre hgm)))
    ((first | (apply op_call; (· exact rfl)) | apply op_call0); (· exact rfl)); (case' hc => (refine fun w hG hw => runP_any w A l.length c l rfl (by omega) hpos ?_ (Sound.of hsnd) (fun i x h h3 => (hsnd i x h).nx h3) si (by omega))); (case hp => (repeat (first | exact Picks.nil | (apply Picks.cons; (· (repeat (first | exact Pick.here | apply Pick.there)))) | apply Picks.empty)))
    · exact hown.rd (At.item hG.now (by (repeat (first | exact Pick.here | apply Pick.there))))
    rintro ⟨mv, cv, ml, ms⟩ ⟨hmo, mb, hmb, hacc⟩
    dsimp only at hmo hmb hacc ⊢
    have hiff := hlaw (strN si) r k mb hls hacc
    rw [strN_len] at hiff
    obtain ⟨gm, cap, sp, rfl, rfl, _, _, _, _⟩ := hmo.open (by omega)
    have hgm : (bv ms)[si.size]? = some (.bool mb) := by
      unfold bv
      rw [List.getElem?_map, hmb]
      rfl
    refine op_move rfl rfl ?_
    refine op_extract rfl rfl rfl ?_
    refine op_extract rfl rfl rfl ?_
    refine op_assign rfl rfl ?_
    refine op_assign rfl rfl ?_
    refine ops_nil ?_
    refine fin_code ?_
    refine run_seq ?_
    by_cases k1 : 0 < k
    · by_cases k2 : k = si.size
      · by_cases k3 : a ≤ r
        · by_cases k4 : r ≤ b
          · have : mb = true := hiff.2 ⟨k1, k2, k3, k4⟩
            subst this
            refine run_drawS [[⟨gt, .cells (T.map Value.string).toArray 9 (0, 0)⟩], [⟨gm, .cells (bv ms ++ sp).toArray 4 (0, 0)⟩]] (by kernel_rfl) ?_
            refine dr_stab 0 rfl rfl (Val.s (val_move rfl)) (by decide +kernel) rfl rfl ?_
            refine dr_stab 1 rfl rfl (Val.s (val_move rfl)) (by decide +kernel) rfl rfl ?_
            refine dr_stab 2 rfl rfl (Val.s (val_move rfl)) (by decide +kernel) rfl rfl ?_
            refine dr_stab 3 rfl rfl (Val.s (val_index rfl rfl (by omega) (by first | (rw [Int.toNat_natCast, Nat.mul_one, Nat.zero_add]) | (rw [Int.toNat_natCast, Nat.mul_one]) | (rw [Int.toNat_natCast, Nat.zero_add]) | (rw [Int.toNat_natCast]) | exact rfl))) (by decide +kernel) rfl rfl ?_
            (apply dr_stab 4; (· exact rfl); (· exact rfl); (· apply ValAt.s; (first | (apply val_load; (· exact rfl); (· apply cell_of_has; (· (repeat (first | exact Has.here | apply Has.there))); (· first | exact rfl | exact hgt | exact aget_pre hgm))) | fail)); (· decide +kernel); (· exact rfl); (· exact rfl))
            (apply dr_stab 5; (· exact rfl); (· exact rfl); (· apply Val.s; first | first | exact val_neqb0 rfl rfl | exact val_slen rfl); (· decide +kernel); (· exact rfl); (· exact rfl))
            refine dr_stab 6 rfl rfl (Val.s (val_index rfl rfl (by omega) (by first | (rw [Int.toNat_natCast, Nat.mul_one, Nat.zero_add]) | (rw [Int.toNat_natCast, Nat.mul_one]) | (rw [Int.toNat_natCast, Nat.zero_add]) | (rw [Int.toNat_natCast]) | exact rfl))) (by decide +kernel) rfl rfl ?_
            (apply dr_stab 7; (· exact rfl); (· exact rfl); (· apply ValAt.s; (first | (apply val_load; (· exact rfl); (· apply cell_of_has; (· (repeat (first | exact Has.here | apply Has.there))); (· first | exact rfl | exact hgt | exact aget_pre hgm))) | fail)); (· decide +kernel); (· exact rfl); (· exact rfl))
            refine dr_stab 8 rfl rfl (Val.s (val_move rfl)) (by decide +kernel) rfl rfl ?_
            refine dr_stab 9 rfl rfl (Val.s (val_cmp_t rfl rfl rfl (by first | (simp only [cmpP]; done) | (simp only [cmpP]; omega)))) (by decide +kernel) rfl rfl ?_
            refine dr_stab 10 rfl rfl (Val.s (val_move rfl)) (by decide +kernel) rfl rfl ?_
            first | refine dr_stab 11 rfl rfl (Val.s (val_move rfl)) (by decide +kernel) rfl rfl ?_ | refine dr_off 11 rfl rfl (by decide +kernel) rfl rfl ?_
            first | refine dr_stab 12 rfl rfl (Val.s (val_move rfl)) (by decide +kernel) rfl rfl ?_ | refine dr_off 12 rfl rfl (by decide +kernel) rfl rfl ?_
            first | refine dr_stab 13 rfl rfl (Val.s (val_move rfl)) (by decide +kernel) rfl rfl ?_ | refine dr_off 13 rfl rfl (by decide +kernel) rfl rfl ?_
            refine dr_stab 14 rfl rfl (Val.s (val_index rfl rfl (by omega) (by first | (rw [Int.toNat_natCast, Nat.mul_one, Nat.zero_add]) | (rw [Int.toNat_natCast, Nat.mul_one]) | (rw [Int.toNat_natCast, Nat.zero_add]) | (rw [Int.toNat_natCast]) | exact rfl))) (by decide +kernel) rfl rfl ?_
            (apply dr_stab 15; (· exact rfl); (· exact rfl); (· apply ValAt.s; (first | (apply val_load; (· exact rfl); (· apply cell_of_has; (· (repeat (first | exact Has.here | apply Has.there))); (· first | exact rfl | exact hgt | exact aget_pre hgm))) | fail)); (· decide +kernel); (· exact rfl); (· exact rfl))
            (apply dr_stab 16; (· exact rfl); (· exact rfl); (· apply Val.s; first | first | exact val_neqb0 rfl rfl | exact val_slen rfl); (· decide +kernel); (· exact rfl); (· exact rfl))
            refine dr_stab 17 rfl rfl (Val.s (val_cmp_t rfl rfl rfl (by first | (simp only [cmpP]; done) | (simp only [cmpP]; omega)))) (by decide +kernel) rfl rfl ?_
            refine dr_stab 18 rfl rfl (Val.s (val_pick_t rfl rfl)) (by decide +kernel) rfl rfl ?_
            refine dr_stab 19 rfl rfl (Val.s (val_move rfl)) (by decide +kernel) rfl rfl ?_
            first | refine dr_stab 20 rfl rfl (Val.s (val_move rfl)) (by decide +kernel) rfl rfl ?_ | refine dr_off 20 rfl rfl (by decide +kernel) rfl rfl ?_
            first | refine dr_stab 21 rfl rfl (Val.s (val_move rfl)) (by decide +kernel) rfl rfl ?_ | refine dr_off 21 rfl rfl (by decide +kernel) rfl rfl ?_
            refine dr_stab 22 rfl rfl (Val.s (val_cmp_t rfl rfl rfl (by first | (simp only [cmpP]; done) | (simp only [cmpP]; omega)))) (by decide +kernel) rfl rfl ?_
            refine dr_stab 23 rfl rfl (Val.s (val_pick_t rfl rfl)) (by decide +kernel) rfl rfl ?_
            refine dr_stab 24 rfl rfl (Val.s (val_move rfl)) (by decide +kernel) rfl rfl ?_
            first | refine dr_stab 25 rfl rfl (Val.s (val_move rfl)) (by decide +kernel) rfl rfl ?_ | refine dr_off 25 rfl rfl (by decide +kernel) rfl rfl ?_
            first | refine dr_stab 26 rfl rfl (Val.s (val_move rfl)) (by decide +kernel) rfl rfl ?_ | refine dr_off 26 rfl rfl (by decide +kernel) rfl rfl ?_
            refine dr_stab 27 rfl rfl (Val.s (val_cmp_t rfl rfl rfl (by first | (simp only [cmpP]; done) | (simp only [cmpP]; omega)))) (by decide +kernel) rfl rfl ?_
            refine dr_stab 28 rfl rfl (Val.s (val_pick_t rfl rfl)) (by decide +kernel) rfl rfl ?_
            (apply dr_stab 29; (· exact rfl); (· exact rfl); (· apply Val.s; first | first | exact val_neqb0 rfl rfl | exact val_slen rfl); (· decide +kernel); (· exact rfl); (· exact rfl))
            (refine dr_done (by decide +kernel) (by (apply le_of_picks; (repeat (first | exact Picks.nil | (apply Picks.cons; (· (repeat (first | exact Pick.here | apply Pick.there)))) | apply Picks.empty)))) ?_)
            refine fin_code ?_
            refine run_cond_f rfl ?_
            refine run_skip ?_
            refine fin_block ?_
            refine fin_code ?_
            refine run_region rfl ?_
            refine op_move rfl rfl ?_
            refine op_add rfl rfl rfl (by simp only [kLo, kHi]; omega) ?_
            refine op_assign rfl rfl ?_
            refine ops_nil ?_
            exact fin_round (i + 1) (by omega) (by (repeat (first | exact Sub.nil _ | (refine Sub.cons rfl ?_)))) (by (apply le_of_picks; (repeat (first | exact Picks.nil | (apply Picks.cons; (· (repeat (first | exact Pick.here | apply Pick.there)))) | apply Picks.empty)))) (by omega)
          · have : mb = false := by
              cases mb with
              | false => rfl
              | true => exact absurd (hiff.1 rfl).2.2.2 k4
            subst this
            refine run_drawS [[⟨gt, .cells (T.map Value.string).toArray 9 (0, 0)⟩], [⟨gm, .cells (bv ms ++ sp).toArray 4 (0, 0)⟩]] (by kernel_rfl) ?_
            refine dr_stab 0 rfl rfl (Val.s (val_move rfl)) (by decide +kernel) rfl rfl ?_
            refine dr_stab 1 rfl rfl (Val.s (val_move rfl)) (by decide +kernel) rfl rfl ?_
            refine dr_stab 2 rfl rfl (Val.s (val_move rfl)) (by decide +kernel) rfl rfl ?_
            refine dr_stab 3 rfl rfl (Val.s (val_index rfl rfl (by omega) (by first | (rw [Int.toNat_natCast, Nat.mul_one, Nat.zero_add]) | (rw [Int.toNat_natCast, Nat.mul_one]) | (rw [Int.toNat_natCast, Nat.zero_add]) | (rw [Int.toNat_natCast]) | exact rfl))) (by decide +kernel) rfl rfl ?_
            (apply dr_stab 4; (· exact rfl); (· exact rfl); (· apply ValAt.s; (first | (apply val_load; (· exact rfl); (· apply cell_of_has; (· (repeat (first | exact Has.here | apply Has.there))); (· first | exact rfl | exact hgt | exact aget_pre hgm))) | fail)); (· decide +kernel); (· exact rfl); (· exact rfl))
            (apply dr_stab 5; (· exact rfl); (· exact rfl); (· apply Val.s; first | first | exact val_neqb0 rfl rfl | exact val_slen rfl); (· decide +kernel); (· exact rfl); (· exact rfl))
            refine dr_stab 6 rfl rfl (Val.s (val_index rfl rfl (by omega) (by first | (rw [Int.toNat_natCast, Nat.mul_one, Nat.zero_add]) | (rw [Int.toNat_natCast, Nat.mul_one]) | (rw [Int.toNat_natCast, Nat.zero_add]) | (rw [Int.toNat_natCast]) | exact rfl))) (by decide +kernel) rfl rfl ?_
            (apply dr_stab 7; (· exact rfl); (· exact rfl); (· apply ValAt.s; (first | (apply val_load; (· exact rfl); (· apply cell_of_has; (· (repeat (first | exact Has.here | apply Has.there))); (· first | exact rfl | exact hgt | exact aget_pre hgm))) | fail)); (· decide +kernel); (· exact rfl); (· exact rfl))
            refine dr_stab 8 rfl rfl (Val.s (val_move rfl)) (by decide +kernel) rfl rfl ?_
            refine dr_stab 9 rfl rfl (Val.s (val_cmp_t rfl rfl rfl (by first | (simp only [cmpP]; done) | (simp only [cmpP]; omega)))) (by decide +kernel) rfl rfl ?_
            refine dr_stab 10 rfl rfl (Val.s (val_move rfl)) (by decide +kernel) rfl rfl ?_
            first | refine dr_stab 11 rfl rfl (Val.s (val_move rfl)) (by decide +kernel) rfl rfl ?_ | refine dr_off 11 rfl rfl (by decide +kernel) rfl rfl ?_
            first | refine dr_stab 12 rfl rfl (Val.s (val_move rfl)) (by decide +kernel) rfl rfl ?_ | refine dr_off 12 rfl rfl (by decide +kernel) rfl rfl ?_
            first | refine dr_stab 13 rfl rfl (Val.s (val_move rfl)) (by decide +kernel) rfl rfl ?_ | refine dr_off 13 rfl rfl (by decide +kernel) rfl rfl ?_
            refine dr_stab 14 rfl rfl (Val.s (val_index rfl rfl (by omega) (by first | (rw [Int.toNat_natCast, Nat.mul_one, Nat.zero_add]) | (rw [Int.toNat_natCast, Nat.mul_one]) | (rw [Int.toNat_natCast, Nat.zero_add]) | (rw [Int.toNat_natCast]) | exact rfl))) (by decide +kernel) rfl rfl ?_
            (apply dr_stab 15; (· exact rfl); (· exact rfl); (· apply ValAt.s; (first | (apply val_load; (· exact rfl); (· apply cell_of_has; (· (repeat (first | exact Has.here | apply Has.there))); (· first | exact rfl | exact hgt | exact aget_pre hgm))) | fail)); (· decide +kernel); (· exact rfl); (· exact rfl))
            (apply dr_stab 16; (· exact rfl); (· exact rfl); (· apply Val.s; first | first | exact val_neqb0 rfl rfl | exact val_slen rfl); (· decide +kernel); (· exact rfl); (· exact rfl))
            refine dr_stab 17 rfl rfl (Val.s (val_cmp_t rfl rfl rfl (by first | (simp only [cmpP]; done) | (simp only [cmpP]; omega)))) (by decide +kernel) rfl rfl ?_
            refine dr_stab 18 rfl rfl (Val.s (val_pick_t rfl rfl)) (by decide +kernel) rfl rfl ?_
            refine dr_stab 19 rfl rfl (Val.s (val_move rfl)) (by decide +kernel) rfl rfl ?_
            first | refine dr_stab 20 rfl rfl (Val.s (val_move rfl)) (by decide +kernel) rfl rfl ?_ | refine dr_off 20 rfl rfl (by decide +kernel) rfl rfl ?_
            first | refine dr_stab 21 rfl rfl (Val.s (val_move rfl)) (by decide +kernel) rfl rfl ?_ | refine dr_off 21 rfl rfl (by decide +kernel) rfl rfl ?_
            refine dr_stab 22 rfl rfl (Val.s (val_cmp_t rfl rfl rfl (by first | (simp only [cmpP]; done) | (simp only [cmpP]; omega)))) (by decide +kernel) rfl rfl ?_
            refine dr_stab 23 rfl rfl (Val.s (val_pick_t rfl rfl)) (by decide +kernel) rfl rfl ?_
            refine dr_stab 24 rfl rfl (Val.s (val_move rfl)) (by decide +kernel) rfl rfl ?_
            first | refine dr_stab 25 rfl rfl (Val.s (val_move rfl)) (by decide +kernel) rfl rfl ?_ | refine dr_off 25 rfl rfl (by decide +kernel) rfl rfl ?_
            first | refine dr_stab 26 rfl rfl (Val.s (val_move rfl)) (by decide +kernel) rfl rfl ?_ | refine dr_off 26 rfl rfl (by decide +kernel) rfl rfl ?_
            refine dr_stab 27 rfl rfl (Val.s (val_cmp_f rfl rfl rfl (by first | (simp only [cmpP]; done) | (simp only [cmpP]; omega)))) (by decide +kernel) rfl rfl ?_
            refine dr_stab 28 rfl rfl (Val.s (val_pick_t rfl rfl)) (by decide +kernel) rfl rfl ?_
            (apply dr_stab 29; (· exact rfl); (· exact rfl); (· apply Val.s; first | first | exact val_neqb0 rfl rfl | exact val_slen rfl); (· decide +kernel); (· exact rfl); (· exact rfl))
            (refine dr_done (by decide +kernel) (by (apply le_of_picks; (repeat (first | exact Picks.nil | (apply Picks.cons; (· (repeat (first | exact Pick.here | apply Pick.there)))) | apply Picks.empty)))) ?_)
            refine fin_code ?_
            refine run_cond_f rfl ?_
            refine run_skip ?_
            refine fin_block ?_
            refine fin_code ?_
            refine run_region rfl ?_
            refine op_move rfl rfl ?_
            refine op_add rfl rfl rfl (by simp only [kLo, kHi]; omega) ?_
            refine op_assign rfl rfl ?_
            refine ops_nil ?_
            exact fin_round (i + 1) (by omega) (by (repeat (first | exact Sub.nil _ | (refine Sub.cons rfl ?_)))) (by (apply le_of_picks; (repeat (first | exact Picks.nil | (apply Picks.cons; (· (repeat (first | exact Pick.here | apply Pick.there)))) | apply Picks.empty)))) (by omega)
        · have : mb = false := by
            cases mb with
            | false => rfl
            | true => exact absurd (hiff.1 rfl).2.2.1 k3
          subst this
          refine run_drawS [[⟨gt, .cells (T.map Value.string).toArray 9 (0, 0)⟩], [⟨gm, .cells (bv ms ++ sp).toArray 4 (0, 0)⟩]] (by kernel_rfl) ?_
          refine dr_stab 0 rfl rfl (Val.s (val_move rfl)) (by decide +kernel) rfl rfl ?_
          refine dr_stab 1 rfl rfl (Val.s (val_move rfl)) (by decide +kernel) rfl rfl ?_
          refine dr_stab 2 rfl rfl (Val.s (val_move rfl)) (by decide +kernel) rfl rfl ?_
          refine dr_stab 3 rfl rfl (Val.s (val_index rfl rfl (by omega) (by first | (rw [Int.toNat_natCast, Nat.mul_one, Nat.zero_add]) | (rw [Int.toNat_natCast, Nat.mul_one]) | (rw [Int.toNat_natCast, Nat.zero_add]) | (rw [Int.toNat_natCast]) | exact rfl))) (by decide +kernel) rfl rfl ?_
          (apply dr_stab 4; (· exact rfl); (· exact rfl); (· apply ValAt.s; (first | (apply val_load; (· exact rfl); (· apply cell_of_has; (· (repeat (first | exact Has.here | apply Has.there))); (· first | exact rfl | exact hgt | exact aget_pre hgm))) | fail)); (· decide +kernel); (· exact rfl); (· exact rfl))
          (apply dr_stab 5; (· exact rfl); (· exact rfl); (· apply Val.s; first | first | exact val_neqb0 rfl rfl | exact val_slen rfl); (· decide +kernel); (· exact rfl); (· exact rfl))
          refine dr_stab 6 rfl rfl (Val.s (val_index rfl rfl (by omega) (by first | (rw [Int.toNat_natCast, Nat.mul_one, Nat.zero_add]) | (rw [Int.toNat_natCast, Nat.mul_one]) | (rw [Int.toNat_natCast, Nat.zero_add]) | (rw [Int.toNat_natCast]) | exact rfl))) (by decide +kernel) rfl rfl ?_
          (apply dr_stab 7; (· exact rfl); (· exact rfl); (· apply ValAt.s; (first | (apply val_load; (· exact rfl); (· apply cell_of_has; (· (repeat (first | exact Has.here | apply Has.there))); (· first | exact rfl | exact hgt | exact aget_pre hgm))) | fail)); (· decide +kernel); (· exact rfl); (· exact rfl))
          refine dr_stab 8 rfl rfl (Val.s (val_move rfl)) (by decide +kernel) rfl rfl ?_
          refine dr_stab 9 rfl rfl (Val.s (val_cmp_t rfl rfl rfl (by first | (simp only [cmpP]; done) | (simp only [cmpP]; omega)))) (by decide +kernel) rfl rfl ?_
          refine dr_stab 10 rfl rfl (Val.s (val_move rfl)) (by decide +kernel) rfl rfl ?_
          first | refine dr_stab 11 rfl rfl (Val.s (val_move rfl)) (by decide +kernel) rfl rfl ?_ | refine dr_off 11 rfl rfl (by decide +kernel) rfl rfl ?_
          first | refine dr_stab 12 rfl rfl (Val.s (val_move rfl)) (by decide +kernel) rfl rfl ?_ | refine dr_off 12 rfl rfl (by decide +kernel) rfl rfl ?_
          first | refine dr_stab 13 rfl rfl (Val.s (val_move rfl)) (by decide +kernel) rfl rfl ?_ | refine dr_off 13 rfl rfl (by decide +kernel) rfl rfl ?_
          refine dr_stab 14 rfl rfl (Val.s (val_index rfl rfl (by omega) (by first | (rw [Int.toNat_natCast, Nat.mul_one, Nat.zero_add]) | (rw [Int.toNat_natCast, Nat.mul_one]) | (rw [Int.toNat_natCast, Nat.zero_add]) | (rw [Int.toNat_natCast]) | exact rfl))) (by decide +kernel) rfl rfl ?_
          (apply dr_stab 15; (· exact rfl); (· exact rfl); (· apply ValAt.s; (first | (apply val_load; (· exact rfl); (· apply cell_of_has; (· (repeat (first | exact Has.here | apply Has.there))); (· first | exact rfl | exact hgt | exact aget_pre hgm))) | fail)); (· decide +kernel); (· exact rfl); (· exact rfl))
          (apply dr_stab 16; (· exact rfl); (· exact rfl); (· apply Val.s; first | first | exact val_neqb0 rfl rfl | exact val_slen rfl); (· decide +kernel); (· exact rfl); (· exact rfl))
          refine dr_stab 17 rfl rfl (Val.s (val_cmp_t rfl rfl rfl (by first | (simp only [cmpP]; done) | (simp only [cmpP]; omega)))) (by decide +kernel) rfl rfl ?_
          refine dr_stab 18 rfl rfl (Val.s (val_pick_t rfl rfl)) (by decide +kernel) rfl rfl ?_
          refine dr_stab 19 rfl rfl (Val.s (val_move rfl)) (by decide +kernel) rfl rfl ?_
          first | refine dr_stab 20 rfl rfl (Val.s (val_move rfl)) (by decide +kernel) rfl rfl ?_ | refine dr_off 20 rfl rfl (by decide +kernel) rfl rfl ?_
          first | refine dr_stab 21 rfl rfl (Val.s (val_move rfl)) (by decide +kernel) rfl rfl ?_ | refine dr_off 21 rfl rfl (by decide +kernel) rfl rfl ?_
          refine dr_stab 22 rfl rfl (Val.s (val_cmp_f rfl rfl rfl (by first | (simp only [cmpP]; done) | (simp only [cmpP]; omega)))) (by decide +kernel) rfl rfl ?_
          refine dr_stab 23 rfl rfl (Val.s (val_pick_t rfl rfl)) (by decide +kernel) rfl rfl ?_
          refine dr_stab 24 rfl rfl (Val.s (val_move rfl)) (by decide +kernel) rfl rfl ?_
          first | refine dr_stab 25 rfl rfl (Val.s (val_move rfl)) (by decide +kernel) rfl rfl ?_ | refine dr_off 25 rfl rfl (by decide +kernel) rfl rfl ?_
          first | refine dr_stab 26 rfl rfl (Val.s (val_move rfl)) (by decide +kernel) rfl rfl ?_ | refine dr_off 26 rfl rfl (by decide +kernel) rfl rfl ?_
          refine dr_off 27 rfl rfl (by decide +kernel) rfl rfl ?_
          refine dr_stab 28 rfl rfl (Val.s (val_pick_f rfl rfl)) (by decide +kernel) rfl rfl ?_
          (apply dr_stab 29; (· exact rfl); (· exact rfl); (· apply Val.s; first | first | exact val_neqb0 rfl rfl | exact val_slen rfl); (· decide +kernel); (· exact rfl); (· exact rfl))
          (refine dr_done (by decide +kernel) (by (apply le_of_picks; (repeat (first | exact Picks.nil | (apply Picks.cons; (· (repeat (first | exact Pick.here | apply Pick.there)))) | apply Picks.empty)))) ?_)
          refine fin_code ?_
          refine run_cond_f rfl ?_
          refine run_skip ?_
          refine fin_block ?_
          refine fin_code ?_
          refine run_region rfl ?_
          refine op_move rfl rfl ?_
          refine op_add rfl rfl rfl (by simp only [kLo, kHi]; omega) ?_
          refine op_assign rfl rfl ?_
          refine ops_nil ?_
          exact fin_round (i + 1) (by omega) (by (repeat (first | exact Sub.nil _ | (refine Sub.cons rfl ?_)))) (by (apply le_of_picks; (repeat (first | exact Picks.nil | (apply Picks.cons; (· (repeat (first | exact Pick.here | apply Pick.there)))) | apply Picks.empty)))) (by omega)
      · have : mb = false := by
          cases mb with
          | false => rfl
          | true => exact absurd (hiff.1 rfl).2.1 k2
        subst this
        refine run_drawS [[⟨gt, .cells (T.map Value.string).toArray 9 (0, 0)⟩], [⟨gm, .cells (bv ms ++ sp).toArray 4 (0, 0)⟩]] (by kernel_rfl) ?_
        refine dr_stab 0 rfl rfl (Val.s (val_move rfl)) (by decide +kernel) rfl rfl ?_
        refine dr_stab 1 rfl rfl (Val.s (val_move rfl)) (by decide +kernel) rfl rfl ?_
        refine dr_stab 2 rfl rfl (Val.s (val_move rfl)) (by decide +kernel) rfl rfl ?_
        refine dr_stab 3 rfl rfl (Val.s (val_index rfl rfl (by omega) (by first | (rw [Int.toNat_natCast, Nat.mul_one, Nat.zero_add]) | (rw [Int.toNat_natCast, Nat.mul_one]) | (rw [Int.toNat_natCast, Nat.zero_add]) | (rw [Int.toNat_natCast]) | exact rfl))) (by decide +kernel) rfl rfl ?_
        (apply dr_stab 4; (· exact rfl); (· exact rfl); (· apply ValAt.s; (first | (apply val_load; (· exact rfl); (· apply cell_of_has; (· (repeat (first | exact Has.here | apply Has.there))); (· first | exact rfl | exact hgt | exact aget_pre hgm))) | fail)); (· decide +kernel); (· exact rfl); (· exact rfl))
        (apply dr_stab 5; (· exact rfl); (· exact rfl); (· apply Val.s; first | first | exact val_neqb0 rfl rfl | exact val_slen rfl); (· decide +kernel); (· exact rfl); (· exact rfl))
        refine dr_stab 6 rfl rfl (Val.s (val_index rfl rfl (by omega) (by first | (rw [Int.toNat_natCast, Nat.mul_one, Nat.zero_add]) | (rw [Int.toNat_natCast, Nat.mul_one]) | (rw [Int.toNat_natCast, Nat.zero_add]) | (rw [Int.toNat_natCast]) | exact rfl))) (by decide +kernel) rfl rfl ?_
        (apply dr_stab 7; (· exact rfl); (· exact rfl); (· apply ValAt.s; (first | (apply val_load; (· exact rfl); (· apply cell_of_has; (· (repeat (first | exact Has.here | apply Has.there))); (· first | exact rfl | exact hgt | exact aget_pre hgm))) | fail)); (· decide +kernel); (· exact rfl); (· exact rfl))
        refine dr_stab 8 rfl rfl (Val.s (val_move rfl)) (by decide +kernel) rfl rfl ?_
        refine dr_stab 9 rfl rfl (Val.s (val_cmp_t rfl rfl rfl (by first | (simp only [cmpP]; done) | (simp only [cmpP]; omega)))) (by decide +kernel) rfl rfl ?_
        refine dr_stab 10 rfl rfl (Val.s (val_move rfl)) (by decide +kernel) rfl rfl ?_
        first | refine dr_stab 11 rfl rfl (Val.s (val_move rfl)) (by decide +kernel) rfl rfl ?_ | refine dr_off 11 rfl rfl (by decide +kernel) rfl rfl ?_
        first | refine dr_stab 12 rfl rfl (Val.s (val_move rfl)) (by decide +kernel) rfl rfl ?_ | refine dr_off 12 rfl rfl (by decide +kernel) rfl rfl ?_
        first | refine dr_stab 13 rfl rfl (Val.s (val_move rfl)) (by decide +kernel) rfl rfl ?_ | refine dr_off 13 rfl rfl (by decide +kernel) rfl rfl ?_
        refine dr_stab 14 rfl rfl (Val.s (val_index rfl rfl (by omega) (by first | (rw [Int.toNat_natCast, Nat.mul_one, Nat.zero_add]) | (rw [Int.toNat_natCast, Nat.mul_one]) | (rw [Int.toNat_natCast, Nat.zero_add]) | (rw [Int.toNat_natCast]) | exact rfl))) (by decide +kernel) rfl rfl ?_
        (apply dr_stab 15; (· exact rfl); (· exact rfl); (· apply ValAt.s; (first | (apply val_load; (· exact rfl); (· apply cell_of_has; (· (repeat (first | exact Has.here | apply Has.there))); (· first | exact rfl | exact hgt | exact aget_pre hgm))) | fail)); (· decide +kernel); (· exact rfl); (· exact rfl))
        (apply dr_stab 16; (· exact rfl); (· exact rfl); (· apply Val.s; first | first | exact val_neqb0 rfl rfl | exact val_slen rfl); (· decide +kernel); (· exact rfl); (· exact rfl))
        refine dr_stab 17 rfl rfl (Val.s (val_cmp_f rfl rfl rfl (by first | (simp only [cmpP]; done) | (simp only [cmpP]; omega)))) (by decide +kernel) rfl rfl ?_
        refine dr_stab 18 rfl rfl (Val.s (val_pick_t rfl rfl)) (by decide +kernel) rfl rfl ?_
        refine dr_stab 19 rfl rfl (Val.s (val_move rfl)) (by decide +kernel) rfl rfl ?_
        first | refine dr_stab 20 rfl rfl (Val.s (val_move rfl)) (by decide +kernel) rfl rfl ?_ | refine dr_off 20 rfl rfl (by decide +kernel) rfl rfl ?_
        first | refine dr_stab 21 rfl rfl (Val.s (val_move rfl)) (by decide +kernel) rfl rfl ?_ | refine dr_off 21 rfl rfl (by decide +kernel) rfl rfl ?_
        refine dr_off 22 rfl rfl (by decide +kernel) rfl rfl ?_
        refine dr_stab 23 rfl rfl (Val.s (val_pick_f rfl rfl)) (by decide +kernel) rfl rfl ?_
        refine dr_stab 24 rfl rfl (Val.s (val_move rfl)) (by decide +kernel) rfl rfl ?_
        first | refine dr_stab 25 rfl rfl (Val.s (val_move rfl)) (by decide +kernel) rfl rfl ?_ | refine dr_off 25 rfl rfl (by decide +kernel) rfl rfl ?_
        first | refine dr_stab 26 rfl rfl (Val.s (val_move rfl)) (by decide +kernel) rfl rfl ?_ | refine dr_off 26 rfl rfl (by decide +kernel) rfl rfl ?_
        refine dr_off 27 rfl rfl (by decide +kernel) rfl rfl ?_
        refine dr_stab 28 rfl rfl (Val.s (val_pick_f rfl rfl)) (by decide +kernel) rfl rfl ?_
        (apply dr_stab 29; (· exact rfl); (· exact rfl); (· apply Val.s; first | first | exact val_neqb0 rfl rfl | exact val_slen rfl); (· decide +kernel); (· exact rfl); (· exact rfl))
        (refine dr_done (by decide +kernel) (by (apply le_of_picks; (repeat (first | exact Picks.nil | (apply Picks.cons; (· (repeat (first | exact Pick.here | apply Pick.there)))) | apply Picks.empty)))) ?_)
        refine fin_code ?_
        refine run_cond_f rfl ?_
        refine run_skip ?_
        refine fin_block ?_
        refine fin_code ?_
        refine run_region rfl ?_
        refine op_move rfl rfl ?_
        refine op_add rfl rfl rfl (by simp only [kLo, kHi]; omega) ?_
        refine op_assign rfl rfl ?_
        refine ops_nil ?_
        exact fin_round (i + 1) (by omega) (by (repeat (first | exact Sub.nil _ | (refine Sub.cons rfl ?_)))) (by (apply le_of_picks; (repeat (first | exact Picks.nil | (apply Picks.cons; (· (repeat (first | exact Pick.here | apply Pick.there)))) | apply Picks.empty)))) (by omega)
    · have : mb = false := by
        cases mb with
        | false => rfl
        | true => exact absurd (hiff.1 rfl).1 k1
      subst this
      refine run_drawS [[⟨gt, .cells (T.map Value.string).toArray 9 (0, 0)⟩], [⟨gm, .cells (bv ms ++ sp).toArray 4 (0, 0)⟩]] (by kernel_rfl) ?_
      refine dr_stab 0 rfl rfl (Val.s (val_move rfl)) (by decide +kernel) rfl rfl ?_
      refine dr_stab 1 rfl rfl (Val.s (val_move rfl)) (by decide +kernel) rfl rfl ?_
      refine dr_stab 2 rfl rfl (Val.s (val_move rfl)) (by decide +kernel) rfl rfl ?_
      refine dr_stab 3 rfl rfl (Val.s (val_index rfl rfl (by omega) (by first | (rw [Int.toNat_natCast, Nat.mul_one, Nat.zero_add]) | (rw [Int.toNat_natCast, Nat.mul_one]) | (rw [Int.toNat_natCast, Nat.zero_add]) | (rw [Int.toNat_natCast]) | exact rfl))) (by decide +kernel) rfl rfl ?_
      (apply dr_stab 4; (· exact rfl); (· exact rfl); (· apply ValAt.s; (first | (apply val_load; (· exact rfl); (· apply cell_of_has; (· (repeat (first | exact Has.here | apply Has.there))); (· first | exact rfl | exact hgt | exact aget_pre hgm))) | fail)); (· decide +kernel); (· exact rfl); (· exact rfl))
      (apply dr_stab 5; (· exact rfl); (· exact rfl); (· apply Val.s; first | first | exact val_neqb0 rfl rfl | exact val_slen rfl); (· decide +kernel); (· exact rfl); (· exact rfl))
      refine dr_stab 6 rfl rfl (Val.s (val_index rfl rfl (by omega) (by first | (rw [Int.toNat_natCast, Nat.mul_one, Nat.zero_add]) | (rw [Int.toNat_natCast, Nat.mul_one]) | (rw [Int.toNat_natCast, Nat.zero_add]) | (rw [Int.toNat_natCast]) | exact rfl))) (by decide +kernel) rfl rfl ?_
      (apply dr_stab 7; (· exact rfl); (· exact rfl); (· apply ValAt.s; (first | (apply val_load; (· exact rfl); (· apply cell_of_has; (· (repeat (first | exact Has.here | apply Has.there))); (· first | exact rfl | exact hgt | exact aget_pre hgm))) | fail)); (· decide +kernel); (· exact rfl); (· exact rfl))
      refine dr_stab 8 rfl rfl (Val.s (val_move rfl)) (by decide +kernel) rfl rfl ?_
      refine dr_stab 9 rfl rfl (Val.s (val_cmp_f rfl rfl rfl (by first | (simp only [cmpP]; done) | (simp only [cmpP]; omega)))) (by decide +kernel) rfl rfl ?_
      refine dr_stab 10 rfl rfl (Val.s (val_move rfl)) (by decide +kernel) rfl rfl ?_
      first | refine dr_stab 11 rfl rfl (Val.s (val_move rfl)) (by decide +kernel) rfl rfl ?_ | refine dr_off 11 rfl rfl (by decide +kernel) rfl rfl ?_
      first | refine dr_stab 12 rfl rfl (Val.s (val_move rfl)) (by decide +kernel) rfl rfl ?_ | refine dr_off 12 rfl rfl (by decide +kernel) rfl rfl ?_
      first | refine dr_stab 13 rfl rfl (Val.s (val_move rfl)) (by decide +kernel) rfl rfl ?_ | refine dr_off 13 rfl rfl (by decide +kernel) rfl rfl ?_
      refine dr_off 14 rfl rfl (by decide +kernel) rfl rfl ?_
      refine dr_off 15 rfl rfl (by decide +kernel) rfl rfl ?_
      refine dr_off 16 rfl rfl (by decide +kernel) rfl rfl ?_
      refine dr_off 17 rfl rfl (by decide +kernel) rfl rfl ?_
      refine dr_stab 18 rfl rfl (Val.s (val_pick_f rfl rfl)) (by decide +kernel) rfl rfl ?_
      refine dr_stab 19 rfl rfl (Val.s (val_move rfl)) (by decide +kernel) rfl rfl ?_
      first | refine dr_stab 20 rfl rfl (Val.s (val_move rfl)) (by decide +kernel) rfl rfl ?_ | refine dr_off 20 rfl rfl (by decide +kernel) rfl rfl ?_
      first | refine dr_stab 21 rfl rfl (Val.s (val_move rfl)) (by decide +kernel) rfl rfl ?_ | refine dr_off 21 rfl rfl (by decide +kernel) rfl rfl ?_
      refine dr_off 22 rfl rfl (by decide +kernel) rfl rfl ?_
      refine dr_stab 23 rfl rfl (Val.s (val_pick_f rfl rfl)) (by decide +kernel) rfl rfl ?_
      refine dr_stab 24 rfl rfl (Val.s (val_move rfl)) (by decide +kernel) rfl rfl ?_
      first | refine dr_stab 25 rfl rfl (Val.s (val_move rfl)) (by decide +kernel) rfl rfl ?_ | refine dr_off 25 rfl rfl (by decide +kernel) rfl rfl ?_
      first | refine dr_stab 26 rfl rfl (Val.s (val_move rfl)) (by decide +kernel) rfl rfl ?_ | refine dr_off 26 rfl rfl (by decide +kernel) rfl rfl ?_
      refine dr_off 27 rfl rfl (by decide +kernel) rfl rfl ?_
      refine dr_stab 28 rfl rfl (Val.s (val_pick_f rfl rfl)) (by decide +kernel) rfl rfl ?_
      (apply dr_stab 29; (· exact rfl); (· exact rfl); (· apply Val.s; first | first | exact val_neqb0 rfl rfl | exact val_slen rfl); (· decide +kernel); (· exact rfl); (· exact rfl))
      (refine dr_done (by decide +kernel) (by (apply le_of_picks; (repeat (first | exact Picks.nil | (apply Picks.cons; (· (repeat (first | exact Pick.here | apply Pick.there)))) | apply Picks.empty)))) ?_)
      refine fin_code ?_
      refine run_cond_f rfl ?_
      refine run_skip ?_
      refine fin_block ?_
      refine fin_code ?_
      refine run_region rfl ?_
      refine op_move rfl rfl ?_
      refine op_add rfl rfl rfl (by simp only [kLo, kHi]; omega) ?_
      refine op_assign rfl rfl ?_
      refine ops_nil ?_
      exact fin_round (i + 1) (by omega) (by (repeat (first | exact Sub.nil _ | (refine Sub.cons rfl ?_)))) (by (apply le_of_picks; (repeat (first | exact Picks.nil | (apply Picks.cons; (· (repeat (first | exact Pick.here | apply Pick.there)))) | apply Picks.empty)))) (by omega)
  · obtain rfl : i = 6 := by omega
    refine run_seq ?_
    refine run_seq ?_
    refine run_region rfl ?_
    refine op_move rfl rfl ?_
    refine op_move rfl rfl ?_
    refine op_len rfl rfl ?_
    refine op_cmp_f rfl rfl rfl rfl (by first | (simp only [cmpP]; done) | (simp only [cmpP]; omega)) ?_
    refine ops_nil ?_
    refine fin_code ?_
    refine run_cond_f rfl ?_
    refine run_exit ?_
    refine fin_exit_code ?_
    refine fin_exit_inv ?_
    refine fin_exit_here ?_
    refine fin_code ?_
    refine run_seq ?_
    refine run_region rfl ?_
    refine op_assign rfl rfl ?_
    refine ops_nil ?_
    refine fin_code ?_
    refine run_ret ?_
    refine fin_ret1 rfl rfl ?_
    intro w' g
    exact hR _ _ (post_of g () trivial rfl (by (apply le_of_picks; (repeat (first | exact Picks.nil | (apply Picks.cons; (· (repeat (first | exact Pick.here | apply Pick.there)))) | apply Picks.empty)))))
end Go.Proofs.Eng
