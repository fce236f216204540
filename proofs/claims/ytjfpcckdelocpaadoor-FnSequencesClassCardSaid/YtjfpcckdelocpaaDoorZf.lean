/- A part of the proof: what functions of the program do, step by step. -/
import Derived.Test.YtjfpcckdelocpaaDoorZe
set_option linter.unusedVariables false
set_option linter.unusedSimpArgs false
namespace Go.Proofs.Eng
open Go.RowKit
theorem SeqOk.rds {w : World} {lo hi n c : Nat} {A : Option Addr} {l : Hp} {rs : List RowG} (h : SeqOk lo hi ⟨.slice A n c, l, rs⟩) (h1 : At w l) (h2 : At w (rs.flatMap RowG.l)) : RdS w A (rs.map RowG.q) (rs.map RowG.v) := by
  refine ⟨h.own.rd h1, by simp, fun i hi => ?_⟩
  have hi' : i < rs.length := by simpa using hi
  have hr := h.row _ (List.getElem_mem hi')
  obtain ⟨Ai, ci, hv⟩ := hr.isSlice
  have hr' : Own 33 2 rs[i].v rs[i].q.length (encQ rs[i].q) rs[i].l := hr
  rw [hv] at hr'
  exact ⟨Ai, ci, by simp [hi', hv], by simpa using hr'.rd (h2.le (le_flatMap (List.getElem_mem hi')))⟩
theorem SeqOk.cov {lo hi : Nat} {x : SeqR} (h : SeqOk lo hi x) (b : List Nat) : 0 < covN (x.rs.map RowG.q) b ↔ ∃ r, isL r ∧ lo ≤ r ∧ r ≤ hi ∧ b = encN r := by
  obtain ⟨L, hg, hL, _⟩ := h.good
  rw [covN_pos, ← hg.cov b, hL]
  constructor
  · rintro ⟨q, hq, hc⟩
    obtain ⟨p, hp, rfl⟩ := List.mem_map.1 hq
    exact ⟨p, hp, hc⟩
  · rintro ⟨p, hp, hc⟩
    exact ⟨_, List.mem_map.2 ⟨p, hp, rfl⟩, hc⟩
theorem SeqOk.q4 {lo hi : Nat} {x : SeqR} (h : SeqOk lo hi x) : ∀ q ∈ x.rs.map RowG.q, q.length ≤ 4 := by
  obtain ⟨L, hg, hL, _⟩ := h.good
  rw [hL]
  intro q hq
  obtain ⟨p, hp, rfl⟩ := List.mem_map.1 hq
  exact seqOf_len _ _
theorem SeqOk.few {lo hi : Nat} {x : SeqR} (h : SeqOk lo hi x) : x.rs.length ≤ 4456448 := by
  obtain ⟨L, hg, hL, hf⟩ := h.good
  have := congrArg List.length hL
  simp at this
  omega
set_option maxRecDepth 100000 in
set_option maxHeartbeats 8000000 in
theorem lawInner_any (w0 : World) (fr to fi la : Int) (A : Option Addr) (b : List Nat) (cap : Nat) (hb : ∀ x ∈ b, x ≤ 255) (hlen : b.length ≤ maxLen) (hrd : Rd w0 w0.heap.size A (u8s b))
    (hgl : RdB w0 w0.heap.size 5 (r2 (65535, 0))) (hgl6 : RdB w0 w0.heap.size 6 [.int .u8 255, .int .u8 0]) :
    Calls Tryd.prog 3 #[.int .i32 fr, .int .i32 to, .int .i32 fi, .int .i32 la, .slice A b.length cap] w0 (Post w0 ([] : List Hp).flatten (fun _ : Unit => .bool true) (fun _ => ([] : List Hp).flatten) (fun _ => True)) := by
  refine enter [] Tryd.func3 rfl rfl (At.nil w0) (Le.refl _) ?_
  intro R hR
  simp only [maxLen] at hlen
  by_cases hbig : 2147483647 < b.length
  · refine run_seq ?_
    refine run_region rfl ?_
    refine op_assign rfl rfl ?_
    refine ops_nil ?_
    refine fin_code ?_
    refine run_seq ?_
    refine run_seq ?_
    refine run_region rfl ?_
    refine op_move rfl rfl ?_
    refine op_len rfl rfl ?_
    refine op_cmp_t rfl rfl rfl rfl (by first | (simp only [cmpP]; done) | (simp only [cmpP]; omega)) ?_
    refine ops_nil ?_
    refine fin_code ?_
    refine run_cond_t rfl ?_
    refine run_seq ?_
    refine run_region rfl ?_
    refine op_assign rfl rfl ?_
    refine ops_nil ?_
    refine fin_code ?_
    refine run_ret ?_
    refine fin_ret_code ?_
    refine fin_ret1 rfl rfl ?_
    intro w' g
    exact hR _ _ (post_of g () trivial rfl (by (apply le_of_picks; (repeat (first | exact Picks.nil | (apply Picks.cons; (· (repeat (first | exact Pick.here | apply Pick.there)))) | apply Picks.empty)))))
  by_cases h1 : 0 ≤ fr ∧ fr ≤ to ∧ to ≤ 1114111
  rotate_left 1
  · refine run_seq ?_
    refine run_region rfl ?_
    refine op_assign rfl rfl ?_
    refine ops_nil ?_
    refine fin_code ?_
    refine run_seq ?_
    refine run_seq ?_
    refine run_region rfl ?_
    refine op_move rfl rfl ?_
    refine op_len rfl rfl ?_
    refine op_cmp_f rfl rfl rfl rfl (by first | (simp only [cmpP]; done) | (simp only [cmpP]; omega)) ?_
    refine ops_nil ?_
    refine fin_code ?_
    refine run_cond_f rfl ?_
    refine run_skip ?_
    refine fin_code ?_
    refine run_seq ?_
    refine run_seq ?_
    refine run_region rfl ?_
    refine op_move rfl rfl ?_
    refine op_move rfl rfl ?_
    ((first | (apply op_call; (· exact rfl)) | apply op_call0); (· exact rfl); rotate_left 1; (· exact fun w hG hw => ranged_any w fr to false (by simp only [Bool.false_eq_true, false_iff]; exact h1)); rotate_right 1; (· (repeat (first | exact Picks.nil | (apply Picks.cons; (· (repeat (first | exact Pick.here | apply Pick.there)))) | apply Picks.empty))))
    intro _ _
    refine op_not rfl rfl ?_
    refine op_move rfl rfl ?_
    refine ops_off1 rfl rfl ?_
    refine ops_off1 rfl rfl ?_
    refine ops_off1 rfl rfl ?_
    refine ops_off1 rfl rfl ?_
    refine op_pick_t rfl rfl rfl ?_
    refine op_move rfl rfl ?_
    refine ops_off1 rfl rfl ?_
    refine ops_off1 rfl rfl ?_
    refine ops_off1 rfl rfl ?_
    refine op_pick_t rfl rfl rfl ?_
    refine op_move rfl rfl ?_
    refine ops_off1 rfl rfl ?_
    refine ops_off1 rfl rfl ?_
    refine ops_off1 rfl rfl ?_
    refine op_pick_t rfl rfl rfl ?_
    refine ops_nil ?_
    refine fin_code ?_
    refine run_cond_t rfl ?_
    refine run_seq ?_
    refine run_region rfl ?_
    refine op_assign rfl rfl ?_
    refine ops_nil ?_
    refine fin_code ?_
    refine run_ret ?_
    refine fin_ret_code ?_
    refine fin_ret1 rfl rfl ?_
    intro w' g
    exact hR _ _ (post_of g () trivial rfl (by (apply le_of_picks; (repeat (first | exact Picks.nil | (apply Picks.cons; (· (repeat (first | exact Pick.here | apply Pick.there)))) | apply Picks.empty)))))
  refine run_seq ?_
  refine run_region rfl ?_
  refine op_assign rfl rfl ?_
  refine ops_nil ?_
  refine fin_code ?_
  refine run_seq ?_
  refine run_seq ?_
  refine run_region rfl ?_
  refine op_move rfl rfl ?_
  refine op_len rfl rfl ?_
  refine op_cmp_f rfl rfl rfl rfl (by first | (simp only [cmpP]; done) | (simp only [cmpP]; omega)) ?_
  refine ops_nil ?_
  refine fin_code ?_
  refine run_cond_f rfl ?_
  refine run_skip ?_
  refine fin_code ?_
  refine run_seq ?_
  refine run_seq ?_
  refine run_region rfl ?_
  refine op_move rfl rfl ?_
  refine op_move rfl rfl ?_
  ((first | (apply op_call; (· exact rfl)) | apply op_call0); (· exact rfl); rotate_left 1; (· exact fun w hG hw => ranged_any w fr to true (by simp only [true_iff]; exact h1)); rotate_right 1; (· (repeat (first | exact Picks.nil | (apply Picks.cons; (· (repeat (first | exact Pick.here | apply Pick.there)))) | apply Picks.empty))))
  intro _ _
  refine op_not rfl rfl ?_
  refine op_move rfl rfl ?_
  refine ops_guard_yes rfl rfl rfl ?_
  refine op_move rfl rfl ?_
  refine ops_guard_yes rfl rfl rfl ?_
  refine op_move rfl rfl ?_
  refine ops_guard_yes rfl rfl rfl ?_
  by_cases h2 : 0 ≤ fi ∧ fi ≤ la ∧ la ≤ 1114111
  rotate_left 1
  · ((first | (apply op_call; (· exact rfl)) | apply op_call0); (· exact rfl); rotate_left 1; (· exact fun w hG hw => ranged_any w fi la false (by simp only [Bool.false_eq_true, false_iff]; exact h2)); rotate_right 1; (· (repeat (first | exact Picks.nil | (apply Picks.cons; (· (repeat (first | exact Pick.here | apply Pick.there)))) | apply Picks.empty))))
    intro _ _
    refine ops_guard_yes rfl rfl rfl ?_
    refine op_not rfl rfl ?_
    refine op_pick_f rfl rfl rfl ?_
    refine op_move rfl rfl ?_
    refine ops_off1 rfl rfl ?_
    refine ops_off1 rfl rfl ?_
    refine ops_off1 rfl rfl ?_
    refine op_pick_t rfl rfl rfl ?_
    refine op_move rfl rfl ?_
    refine ops_off1 rfl rfl ?_
    refine ops_off1 rfl rfl ?_
    refine ops_off1 rfl rfl ?_
    refine op_pick_t rfl rfl rfl ?_
    refine ops_nil ?_
    refine fin_code ?_
    refine run_cond_t rfl ?_
    refine run_seq ?_
    refine run_region rfl ?_
    refine op_assign rfl rfl ?_
    refine ops_nil ?_
    refine fin_code ?_
    refine run_ret ?_
    refine fin_ret_code ?_
    refine fin_ret1 rfl rfl ?_
    intro w' g
    exact hR _ _ (post_of g () trivial rfl (by (apply le_of_picks; (repeat (first | exact Picks.nil | (apply Picks.cons; (· (repeat (first | exact Pick.here | apply Pick.there)))) | apply Picks.empty)))))
  ((first | (apply op_call; (· exact rfl)) | apply op_call0); (· exact rfl); rotate_left 1; (· exact fun w hG hw => ranged_any w fi la true (by simp only [true_iff]; exact h2)); rotate_right 1; (· (repeat (first | exact Picks.nil | (apply Picks.cons; (· (repeat (first | exact Pick.here | apply Pick.there)))) | apply Picks.empty))))
  intro _ _
  by_cases h3 : fi < fr
  · refine ops_guard_yes rfl rfl rfl ?_
    refine op_not rfl rfl ?_
    refine op_pick_f rfl rfl rfl ?_
    refine op_move rfl rfl ?_
    refine ops_guard_yes rfl rfl rfl ?_
    refine op_move rfl rfl ?_
    refine ops_guard_yes rfl rfl rfl ?_
    refine op_move rfl rfl ?_
    refine ops_guard_yes rfl rfl rfl ?_
    refine op_cmp_t rfl rfl rfl rfl (by first | (simp only [cmpP]; done) | (simp only [cmpP]; omega)) ?_
    refine op_pick_f rfl rfl rfl ?_
    refine op_move rfl rfl ?_
    refine ops_off1 rfl rfl ?_
    refine ops_off1 rfl rfl ?_
    refine ops_off1 rfl rfl ?_
    refine op_pick_t rfl rfl rfl ?_
    refine ops_nil ?_
    refine fin_code ?_
    refine run_cond_t rfl ?_
    refine run_seq ?_
    refine run_region rfl ?_
    refine op_assign rfl rfl ?_
    refine ops_nil ?_
    refine fin_code ?_
    refine run_ret ?_
    refine fin_ret_code ?_
    refine fin_ret1 rfl rfl ?_
    intro w' g
    exact hR _ _ (post_of g () trivial rfl (by (apply le_of_picks; (repeat (first | exact Picks.nil | (apply Picks.cons; (· (repeat (first | exact Pick.here | apply Pick.there)))) | apply Picks.empty)))))
  by_cases h4 : to < la
  · refine ops_guard_yes rfl rfl rfl ?_
    refine op_not rfl rfl ?_
    refine op_pick_f rfl rfl rfl ?_
    refine op_move rfl rfl ?_
    refine ops_guard_yes rfl rfl rfl ?_
    refine op_move rfl rfl ?_
    refine ops_guard_yes rfl rfl rfl ?_
    refine op_move rfl rfl ?_
    refine ops_guard_yes rfl rfl rfl ?_
    refine op_cmp_f rfl rfl rfl rfl (by first | (simp only [cmpP]; done) | (simp only [cmpP]; omega)) ?_
    refine op_pick_f rfl rfl rfl ?_
    refine op_move rfl rfl ?_
    refine ops_guard_yes rfl rfl rfl ?_
    refine op_move rfl rfl ?_
    refine ops_guard_yes rfl rfl rfl ?_
    refine op_move rfl rfl ?_
    refine ops_guard_yes rfl rfl rfl ?_
    refine op_cmp_t rfl rfl rfl rfl (by first | (simp only [cmpP]; done) | (simp only [cmpP]; omega)) ?_
    refine op_pick_f rfl rfl rfl ?_
    refine ops_nil ?_
    refine fin_code ?_
    refine run_cond_t rfl ?_
    refine run_seq ?_
    refine run_region rfl ?_
    refine op_assign rfl rfl ?_
    refine ops_nil ?_
    refine fin_code ?_
    refine run_ret ?_
    refine fin_ret_code ?_
    refine fin_ret1 rfl rfl ?_
    intro w' g
    exact hR _ _ (post_of g () trivial rfl (by (apply le_of_picks; (repeat (first | exact Picks.nil | (apply Picks.cons; (· (repeat (first | exact Pick.here | apply Pick.there)))) | apply Picks.empty)))))
  obtain ⟨lo, rfl⟩ : ∃ n : Nat, fr = n := ⟨fr.toNat, by omega⟩
  obtain ⟨hi, rfl⟩ : ∃ n : Nat, to = n := ⟨to.toNat, by omega⟩
  obtain ⟨f, rfl⟩ : ∃ n : Nat, fi = n := ⟨fi.toNat, by omega⟩
  obtain ⟨l, rfl⟩ : ∃ n : Nat, la = n := ⟨la.toNat, by omega⟩
  refine ops_guard_yes rfl rfl rfl ?_
  refine op_not rfl rfl ?_
  refine op_pick_f rfl rfl rfl ?_
  refine op_move rfl rfl ?_
  refine ops_guard_yes rfl rfl rfl ?_
  refine op_move rfl rfl ?_
  refine ops_guard_yes rfl rfl rfl ?_
  refine op_move rfl rfl ?_
  refine ops_guard_yes rfl rfl rfl ?_
  refine op_cmp_f rfl rfl rfl rfl (by first | (simp only [cmpP]; done) | (simp only [cmpP]; omega)) ?_
  refine op_pick_f rfl rfl rfl ?_
  refine op_move rfl rfl ?_
  refine ops_guard_yes rfl rfl rfl ?_
  refine op_move rfl rfl ?_
  refine ops_guard_yes rfl rfl rfl ?_
  refine op_move rfl rfl ?_
  refine ops_guard_yes rfl rfl rfl ?_
  refine op_cmp_f rfl rfl rfl rfl (by first | (simp only [cmpP]; done) | (simp only [cmpP]; omega)) ?_
  refine op_pick_f rfl rfl rfl ?_
  refine ops_nil ?_
  refine fin_code ?_
  refine run_cond_f rfl ?_
  refine run_skip ?_
  refine fin_code ?_
  refine run_seq ?_
  refine run_region rfl ?_
  refine op_move rfl rfl ?_
  refine op_move rfl rfl ?_
  ((first | (apply op_call; (· exact rfl)) | apply op_call0); (· exact rfl)); (case' hc => (refine fun w hG hw => sequences_any w lo hi (by omega) (by omega) ?_ ?_)); (case hp => (repeat (first | exact Picks.nil | (apply Picks.cons; (· (repeat (first | exact Pick.here | apply Pick.there)))) | apply Picks.empty)))
  · exact hgl.now hG
  · exact hgl6.now hG
  rintro ⟨xv, xl, xrs⟩ hx
  obtain ⟨Ax, cx, hxv⟩ := hx.own.isSlice
  dsimp only at hxv
  subst hxv
  refine op_move rfl rfl ?_
  refine op_extract rfl rfl rfl ?_
  refine op_extract rfl rfl rfl ?_
  refine op_assign rfl rfl ?_
  refine op_assign rfl rfl ?_
  refine ops_nil ?_
  refine fin_code ?_
  refine run_seq ?_
  refine run_region rfl ?_
  refine op_move rfl rfl ?_
  refine op_move rfl rfl ?_
  ((first | (apply op_call; (· exact rfl)) | apply op_call0); (· exact rfl)); (case' hc => (refine fun w hG hw => sequences_any w f l (by omega) (by omega) ?_ ?_)); (case hp => (repeat (first | exact Picks.nil | (apply Picks.cons; (· (repeat (first | exact Pick.here | apply Pick.there)))) | apply Picks.empty)))
  · exact hgl.now hG
  · exact hgl6.now hG
  rintro ⟨yv, yl, yrs⟩ hy
  obtain ⟨Ay, cy, hyv⟩ := hy.own.isSlice
  dsimp only at hyv
  subst hyv
  refine op_move rfl rfl ?_
  refine op_extract rfl rfl rfl ?_
  refine op_extract rfl rfl rfl ?_
  refine op_assign rfl rfl ?_
  refine op_assign rfl rfl ?_
  refine ops_nil ?_
  refine fin_code ?_
  refine run_seq ?_
  refine run_region rfl ?_
  refine op_move rfl rfl ?_
  ((first | (apply op_call; (· exact rfl)) | apply op_call0); (· exact rfl)); (case' hc => (refine fun w hG hw => letter_any w A b cap hb (by simp only [maxLen]; omega) ?_)); (case hp => (repeat (first | exact Picks.nil | (apply Picks.cons; (· (repeat (first | exact Pick.here | apply Pick.there)))) | apply Picks.empty)))
  · exact hrd.now hG
  rintro ⟨r, k⟩ hlet
  have hiff := hlet.s.iff (lo := f) (hi := l)
  dsimp only at hiff ⊢
  have hkl : k ≤ 4 := by
    rcases hlet with ⟨h, _⟩ | ⟨_, h, _⟩ <;> dsimp only at h
    · omega
    · rw [h]; exact encN_len4 r
  have hrl : r ≤ 1114111 := by
    rcases hlet with ⟨_, h, _⟩ | ⟨h, _⟩
    · dsimp only at h; omega
    · exact h.1
  refine op_move rfl rfl ?_
  refine op_extract rfl rfl rfl ?_
  refine op_extract rfl rfl rfl ?_
  refine op_assign rfl rfl ?_
  refine op_assign rfl rfl ?_
  refine ops_nil ?_
  refine fin_code ?_
  refine run_seq ?_
  refine run_region rfl ?_
  refine op_move rfl rfl ?_
  refine ops_join (α := Bool) (fun v => [(4, .slice A b.length cap), (11, .slice Ax xrs.length cx), (12, .bool true), (13, .slice Ay yrs.length cy), (14, .bool true), (17, .bool v)]) (fun _ => [xl, xrs.flatMap RowG.l, yl, yrs.flatMap RowG.l])
    (fun v => v = true ↔ (0 < k ∧ k = b.length ∧ f ≤ r ∧ r ≤ l)) ?_ ?_
  rotate_left 1
  · intro J
    by_cases g1 : 0 < k
    · by_cases g2 : k = b.length
      · by_cases g3 : f ≤ r
        · by_cases g4 : r ≤ l
          · have J1 := J true (by simp only [true_iff]; exact ⟨g1, g2, g3, g4⟩)
            refine op_cmp_t rfl rfl rfl rfl (by first | (simp only [cmpP]; done) | (simp only [cmpP]; omega)) ?_
            refine op_move rfl rfl ?_
            refine ops_guard_yes rfl rfl rfl ?_
            refine op_move rfl rfl ?_
            refine ops_guard_yes rfl rfl rfl ?_
            refine op_move rfl rfl ?_
            refine ops_guard_yes rfl rfl rfl ?_
            refine op_len rfl rfl ?_
            refine ops_guard_yes rfl rfl rfl ?_
            refine op_cmp_t rfl rfl rfl rfl (by first | (simp only [cmpP]; done) | (simp only [cmpP]; omega)) ?_
            refine op_pick_t rfl rfl rfl ?_
            refine op_move rfl rfl ?_
            refine ops_guard_yes rfl rfl rfl ?_
            refine op_move rfl rfl ?_
            refine ops_guard_yes rfl rfl rfl ?_
            refine op_move rfl rfl ?_
            refine ops_guard_yes rfl rfl rfl ?_
            refine op_conv rfl rfl (by simp only [kLo, kHi]; omega) ?_
            refine ops_guard_yes rfl rfl rfl ?_
            refine op_cmp_t rfl rfl rfl rfl (by first | (simp only [cmpP]; done) | (simp only [cmpP]; omega)) ?_
            refine op_pick_t rfl rfl rfl ?_
            refine op_move rfl rfl ?_
            refine ops_guard_yes rfl rfl rfl ?_
            refine op_move rfl rfl ?_
            refine ops_guard_yes rfl rfl rfl ?_
            refine op_move rfl rfl ?_
            refine ops_guard_yes rfl rfl rfl ?_
            refine op_conv rfl rfl (by simp only [kLo, kHi]; omega) ?_
            refine ops_guard_yes rfl rfl rfl ?_
            refine op_cmp_t rfl rfl rfl rfl (by first | (simp only [cmpP]; done) | (simp only [cmpP]; omega)) ?_
            refine op_pick_t rfl rfl rfl ?_
            refine op_assign rfl rfl ?_
            refine ops_nil ?_
            (apply J1)
            · (repeat (first | exact Sub.nil _ | (refine Sub.cons rfl ?_)))
            · (apply le_of_picks; (repeat (first | exact Picks.nil | (apply Picks.cons; (· (repeat (first | exact Pick.here | apply Pick.there)))) | apply Picks.empty)))
          · have J1 := J false (by simp only [Bool.false_eq_true, false_iff]; omega)
            refine op_cmp_t rfl rfl rfl rfl (by first | (simp only [cmpP]; done) | (simp only [cmpP]; omega)) ?_
            refine op_move rfl rfl ?_
            refine ops_guard_yes rfl rfl rfl ?_
            refine op_move rfl rfl ?_
            refine ops_guard_yes rfl rfl rfl ?_
            refine op_move rfl rfl ?_
            refine ops_guard_yes rfl rfl rfl ?_
            refine op_len rfl rfl ?_
            refine ops_guard_yes rfl rfl rfl ?_
            refine op_cmp_t rfl rfl rfl rfl (by first | (simp only [cmpP]; done) | (simp only [cmpP]; omega)) ?_
            refine op_pick_t rfl rfl rfl ?_
            refine op_move rfl rfl ?_
            refine ops_guard_yes rfl rfl rfl ?_
            refine op_move rfl rfl ?_
            refine ops_guard_yes rfl rfl rfl ?_
            refine op_move rfl rfl ?_
            refine ops_guard_yes rfl rfl rfl ?_
            refine op_conv rfl rfl (by simp only [kLo, kHi]; omega) ?_
            refine ops_guard_yes rfl rfl rfl ?_
            refine op_cmp_t rfl rfl rfl rfl (by first | (simp only [cmpP]; done) | (simp only [cmpP]; omega)) ?_
            refine op_pick_t rfl rfl rfl ?_
            refine op_move rfl rfl ?_
            refine ops_guard_yes rfl rfl rfl ?_
            refine op_move rfl rfl ?_
            refine ops_guard_yes rfl rfl rfl ?_
            refine op_move rfl rfl ?_
            refine ops_guard_yes rfl rfl rfl ?_
            refine op_conv rfl rfl (by simp only [kLo, kHi]; omega) ?_
            refine ops_guard_yes rfl rfl rfl ?_
            refine op_cmp_f rfl rfl rfl rfl (by first | (simp only [cmpP]; done) | (simp only [cmpP]; omega)) ?_
            refine op_pick_t rfl rfl rfl ?_
            refine op_assign rfl rfl ?_
            refine ops_nil ?_
            (apply J1)
            · (repeat (first | exact Sub.nil _ | (refine Sub.cons rfl ?_)))
            · (apply le_of_picks; (repeat (first | exact Picks.nil | (apply Picks.cons; (· (repeat (first | exact Pick.here | apply Pick.there)))) | apply Picks.empty)))
        · have J1 := J false (by simp only [Bool.false_eq_true, false_iff]; omega)
          refine op_cmp_t rfl rfl rfl rfl (by first | (simp only [cmpP]; done) | (simp only [cmpP]; omega)) ?_
          refine op_move rfl rfl ?_
          refine ops_guard_yes rfl rfl rfl ?_
          refine op_move rfl rfl ?_
          refine ops_guard_yes rfl rfl rfl ?_
          refine op_move rfl rfl ?_
          refine ops_guard_yes rfl rfl rfl ?_
          refine op_len rfl rfl ?_
          refine ops_guard_yes rfl rfl rfl ?_
          refine op_cmp_t rfl rfl rfl rfl (by first | (simp only [cmpP]; done) | (simp only [cmpP]; omega)) ?_
          refine op_pick_t rfl rfl rfl ?_
          refine op_move rfl rfl ?_
          refine ops_guard_yes rfl rfl rfl ?_
          refine op_move rfl rfl ?_
          refine ops_guard_yes rfl rfl rfl ?_
          refine op_move rfl rfl ?_
          refine ops_guard_yes rfl rfl rfl ?_
          refine op_conv rfl rfl (by simp only [kLo, kHi]; omega) ?_
          refine ops_guard_yes rfl rfl rfl ?_
          refine op_cmp_f rfl rfl rfl rfl (by first | (simp only [cmpP]; done) | (simp only [cmpP]; omega)) ?_
          refine op_pick_t rfl rfl rfl ?_
          refine op_move rfl rfl ?_
          refine ops_off1 rfl rfl ?_
          refine ops_off1 rfl rfl ?_
          refine ops_off1 rfl rfl ?_
          refine ops_off1 rfl rfl ?_
          refine op_pick_f rfl rfl rfl ?_
          refine op_assign rfl rfl ?_
          refine ops_nil ?_
          (apply J1)
          · (repeat (first | exact Sub.nil _ | (refine Sub.cons rfl ?_)))
          · (apply le_of_picks; (repeat (first | exact Picks.nil | (apply Picks.cons; (· (repeat (first | exact Pick.here | apply Pick.there)))) | apply Picks.empty)))
      · have J1 := J false (by simp only [Bool.false_eq_true, false_iff]; omega)
        refine op_cmp_t rfl rfl rfl rfl (by first | (simp only [cmpP]; done) | (simp only [cmpP]; omega)) ?_
        refine op_move rfl rfl ?_
        refine ops_guard_yes rfl rfl rfl ?_
        refine op_move rfl rfl ?_
        refine ops_guard_yes rfl rfl rfl ?_
        refine op_move rfl rfl ?_
        refine ops_guard_yes rfl rfl rfl ?_
        refine op_len rfl rfl ?_
        refine ops_guard_yes rfl rfl rfl ?_
        refine op_cmp_f rfl rfl rfl rfl (by first | (simp only [cmpP]; done) | (simp only [cmpP]; omega)) ?_
        refine op_pick_t rfl rfl rfl ?_
        refine op_move rfl rfl ?_
        refine ops_off1 rfl rfl ?_
        refine ops_off1 rfl rfl ?_
        refine ops_off1 rfl rfl ?_
        refine ops_off1 rfl rfl ?_
        refine op_pick_f rfl rfl rfl ?_
        refine op_move rfl rfl ?_
        refine ops_off1 rfl rfl ?_
        refine ops_off1 rfl rfl ?_
        refine ops_off1 rfl rfl ?_
        refine ops_off1 rfl rfl ?_
        refine op_pick_f rfl rfl rfl ?_
        refine op_assign rfl rfl ?_
        refine ops_nil ?_
        (apply J1)
        · (repeat (first | exact Sub.nil _ | (refine Sub.cons rfl ?_)))
        · (apply le_of_picks; (repeat (first | exact Picks.nil | (apply Picks.cons; (· (repeat (first | exact Pick.here | apply Pick.there)))) | apply Picks.empty)))
    · have J1 := J false (by simp only [Bool.false_eq_true, false_iff]; omega)
      refine op_cmp_f rfl rfl rfl rfl (by first | (simp only [cmpP]; done) | (simp only [cmpP]; omega)) ?_
      refine op_move rfl rfl ?_
      refine ops_off1 rfl rfl ?_
      refine ops_off1 rfl rfl ?_
      refine ops_off1 rfl rfl ?_
      refine ops_off1 rfl rfl ?_
      refine op_pick_f rfl rfl rfl ?_
      refine op_move rfl rfl ?_
      refine ops_off1 rfl rfl ?_
      refine ops_off1 rfl rfl ?_
      refine ops_off1 rfl rfl ?_
      refine ops_off1 rfl rfl ?_
      refine op_pick_f rfl rfl rfl ?_
      refine op_move rfl rfl ?_
      refine ops_off1 rfl rfl ?_
      refine ops_off1 rfl rfl ?_
      refine ops_off1 rfl rfl ?_
      refine ops_off1 rfl rfl ?_
      refine op_pick_f rfl rfl rfl ?_
      refine op_assign rfl rfl ?_
      refine ops_nil ?_
      (apply J1)
      · (repeat (first | exact Sub.nil _ | (refine Sub.cons rfl ?_)))
      · (apply le_of_picks; (repeat (first | exact Picks.nil | (apply Picks.cons; (· (repeat (first | exact Pick.here | apply Pick.there)))) | apply Picks.empty)))
  intro v hv
  rw [hiff] at hv
  have hcy := hy.cov b
  have hcx := hx.cov b
  rw [← hcy] at hv
  have hfx := hx.few
  have hfy := hy.few
  dsimp only at hcx hcy hv hfx hfy ⊢
  have hqy : ∀ q ∈ yrs.map RowG.q, q.length ≤ 1000 := fun q hq => Nat.le_trans (hy.q4 q hq) (by omega)
  have hqx : ∀ q ∈ xrs.map RowG.q, q.length ≤ 1000 := fun q hq => Nat.le_trans (hx.q4 q hq) (by omega)
  rw [show xrs.length = (xrs.map RowG.q).length by simp, show yrs.length = (yrs.map RowG.q).length by simp]
  cases v with
  | true =>
    have h5 := hv.1 rfl
    have h6 : 0 < covN (xrs.map RowG.q) b := by
      rw [hcx]
      rw [hcy] at h5
      obtain ⟨r', k1, k2, k3, k4⟩ := h5
      exact ⟨r', k1, by omega, by omega, k4⟩
    refine fin_code ?_
    refine run_seq ?_
    refine run_region rfl ?_
    refine op_move rfl rfl ?_
    refine op_move rfl rfl ?_
    refine ops_guard_yes rfl rfl rfl ?_
    refine op_move rfl rfl ?_
    refine op_pick_t rfl rfl rfl ?_
    refine op_move rfl rfl ?_
    refine ops_guard_yes rfl rfl rfl ?_
    refine op_move rfl rfl ?_
    refine ops_guard_yes rfl rfl rfl ?_
    refine op_move rfl rfl ?_
    refine ops_guard_yes rfl rfl rfl ?_
    ((first | (apply op_call; (· exact rfl)) | apply op_call0); (· exact rfl)); (case' hc => (refine fun w hG hw => covered_any w Ay A (yrs.map RowG.q) (yrs.map RowG.v) b cy cap (by simp; omega) hqy ?_ ?_)); (case hp => (repeat (first | exact Picks.nil | (apply Picks.cons; (· (repeat (first | exact Pick.here | apply Pick.there)))) | apply Picks.empty)))
    · exact hy.rds (At.item hG.now (by (repeat (first | exact Pick.here | apply Pick.there)))) (At.item hG.now (by (repeat (first | exact Pick.here | apply Pick.there))))
    · exact hrd.now hG
    intro _ _
    refine ops_guard_yes rfl rfl rfl ?_
    refine op_cmp_t rfl rfl rfl rfl (by first | (simp only [cmpP]; done) | (simp only [cmpP]; omega)) ?_
    refine ops_guard_yes rfl rfl rfl ?_
    refine op_move rfl rfl ?_
    refine ops_guard_yes rfl rfl rfl ?_
    (refine op_eqb rfl rfl rfl ?_)
    refine op_pick_t rfl rfl rfl ?_
    refine op_move rfl rfl ?_
    refine ops_guard_yes rfl rfl rfl ?_
    refine op_move rfl rfl ?_
    refine ops_guard_yes rfl rfl rfl ?_
    refine op_not rfl rfl ?_
    refine ops_guard_yes rfl rfl rfl ?_
    refine op_move rfl rfl ?_
    refine ops_guard_yes rfl rfl rfl ?_
    refine op_move rfl rfl ?_
    refine ops_guard_yes rfl rfl rfl ?_
    refine op_move rfl rfl ?_
    refine ops_guard_yes rfl rfl rfl ?_
    ((first | (apply op_call; (· exact rfl)) | apply op_call0); (· exact rfl)); (case' hc => (refine fun w hG hw => covered_any w Ax A (xrs.map RowG.q) (xrs.map RowG.v) b cx cap (by simp; omega) hqx ?_ ?_)); (case hp => (repeat (first | exact Picks.nil | (apply Picks.cons; (· (repeat (first | exact Pick.here | apply Pick.there)))) | apply Picks.empty)))
    · exact hx.rds (At.item hG.now (by (repeat (first | exact Pick.here | apply Pick.there)))) (At.item hG.now (by (repeat (first | exact Pick.here | apply Pick.there))))
    · exact hrd.now hG
    intro _ _
    refine ops_guard_yes rfl rfl rfl ?_
    refine op_cmp_t rfl rfl rfl rfl (by first | (simp only [cmpP]; done) | (simp only [cmpP]; omega)) ?_
    refine ops_guard_yes rfl rfl rfl ?_
    refine op_pick_f rfl rfl rfl ?_
    refine op_pick_t rfl rfl rfl ?_
    refine op_assign rfl rfl ?_
    refine ops_nil ?_
    refine fin_code ?_
    refine run_ret ?_
    refine fin_ret1 rfl rfl ?_
    intro w' g
    exact hR _ _ (post_of g () trivial rfl (by (apply le_of_picks; (repeat (first | exact Picks.nil | (apply Picks.cons; (· (repeat (first | exact Pick.here | apply Pick.there)))) | apply Picks.empty)))))
  | false =>
    have h5 : ¬ 0 < covN (yrs.map RowG.q) b := fun h => by have := hv.2 h; cases this
    refine fin_code ?_
    refine run_seq ?_
    refine run_region rfl ?_
    refine op_move rfl rfl ?_
    refine op_move rfl rfl ?_
    refine ops_guard_yes rfl rfl rfl ?_
    refine op_move rfl rfl ?_
    refine op_pick_t rfl rfl rfl ?_
    refine op_move rfl rfl ?_
    refine ops_guard_yes rfl rfl rfl ?_
    refine op_move rfl rfl ?_
    refine ops_guard_yes rfl rfl rfl ?_
    refine op_move rfl rfl ?_
    refine ops_guard_yes rfl rfl rfl ?_
    ((first | (apply op_call; (· exact rfl)) | apply op_call0); (· exact rfl)); (case' hc => (refine fun w hG hw => covered_any w Ay A (yrs.map RowG.q) (yrs.map RowG.v) b cy cap (by simp; omega) hqy ?_ ?_)); (case hp => (repeat (first | exact Picks.nil | (apply Picks.cons; (· (repeat (first | exact Pick.here | apply Pick.there)))) | apply Picks.empty)))
    · exact hy.rds (At.item hG.now (by (repeat (first | exact Pick.here | apply Pick.there)))) (At.item hG.now (by (repeat (first | exact Pick.here | apply Pick.there))))
    · exact hrd.now hG
    intro _ _
    refine ops_guard_yes rfl rfl rfl ?_
    refine op_cmp_f rfl rfl rfl rfl (by first | (simp only [cmpP]; done) | (simp only [cmpP]; omega)) ?_
    refine ops_guard_yes rfl rfl rfl ?_
    refine op_move rfl rfl ?_
    refine ops_guard_yes rfl rfl rfl ?_
    (refine op_eqb rfl rfl rfl ?_)
    refine op_pick_t rfl rfl rfl ?_
    refine op_move rfl rfl ?_
    refine ops_guard_yes rfl rfl rfl ?_
    refine op_move rfl rfl ?_
    refine ops_guard_yes rfl rfl rfl ?_
    refine op_not rfl rfl ?_
    refine ops_guard_yes rfl rfl rfl ?_
    refine op_move rfl rfl ?_
    refine ops_off1 rfl rfl ?_
    refine ops_off1 rfl rfl ?_
    refine ops_off1 rfl rfl ?_
    refine ops_off1 rfl rfl ?_
    refine ops_guard_yes rfl rfl rfl ?_
    refine op_pick_t rfl rfl rfl ?_
    refine op_pick_t rfl rfl rfl ?_
    refine op_assign rfl rfl ?_
    refine ops_nil ?_
    refine fin_code ?_
    refine run_ret ?_
    refine fin_ret1 rfl rfl ?_
    intro w' g
    exact hR _ _ (post_of g () trivial rfl (by (apply le_of_picks; (repeat (first | exact Picks.nil | (apply Picks.cons; (· (repeat (first | exact Pick.here | apply Pick.there)))) | apply Picks.empty)))))
end Go.Proofs.Eng
