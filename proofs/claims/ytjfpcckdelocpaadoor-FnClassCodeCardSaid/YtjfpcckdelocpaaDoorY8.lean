/- A part of the proof: what functions of the program do, step by step. -/
import Derived.Test.YtjfpcckdelocpaaDoorY7
set_option linter.unusedVariables false
set_option linter.unusedSimpArgs false
namespace Go.Proofs.Eng
open Go.RowKit
theorem mxS_64 (i : Nat) : (mxS i + 1) % 64 = 0 := by
  unfold mxS
  split
  · rfl
  · split <;> rfl
theorem RdB.nowD {w0 w : World} {L0 L : Hp} {B q : Nat} {cs : List Value} (h : RdB w0 B q cs) (g : Goes w0 L0 w L) (hL : ∀ k ∈ ids L0, B ≤ k) (hB : B ≤ w0.heap.size) : RdB w B q cs := by
  refine ⟨h.1, fun j v hv => ?_⟩
  have := h.2 j v hv
  have hq := h.1
  have e : w.cell? ⟨q, j, none⟩ = w0.cell? ⟨q, j, none⟩ := by
    simp only [World.cell?, g.keep q (by omega) (fun hm => by have := hL q hm; omega)]
  rw [e]; exact this
theorem RdB.nowC {w0 w : World} {L0 L : Hp} {B q : Nat} {cs : List Value} (h : RdB w0 B q cs) (g : Goes w0 L0 w L) (hL : ∀ k ∈ ids L0, B ≤ k) (hB : B ≤ w0.heap.size) : RdB w w.heap.size q cs := by
  have hq := h.1
  have := g.size
  exact ⟨by omega, (h.nowD g hL hB).2⟩
theorem newC {w0 w : World} {L0 : Hp} {B : Nat} {Ls R : List Hp} {l : Hp} (g : Goes w0 L0 w Ls.flatten) (p : Pick Ls l R) (hL : ∀ k ∈ ids L0, B ≤ k) (hB : B ≤ w0.heap.size) : ∀ k ∈ ids l, B ≤ k := by
  intro k hk
  obtain ⟨x, hx, rfl⟩ := List.mem_map.1 hk
  have hm : x ∈ Ls.flatten := p.perm.mem_iff.2 (List.mem_append.2 (.inl hx))
  rcases g.new x.id (List.mem_map.2 ⟨x, hm, rfl⟩) with h | h
  · exact hL _ h
  · omega
theorem own_one {e size n : Nat} {v : Value} {xs : List Value} {l : Hp} (h : Own e size v n xs l) : v.oneCell' = true := by
  obtain ⟨A, c, rfl⟩ := h.isSlice
  rfl
theorem far_few {lo hi : Nat} {x : QSt} (h : QOk lo hi x) (hm : hi ≤ 1114111) : x.L.length ≤ 17409 := by
  have hp : x.L.Pairwise (fun p q => p.2 / 64 < q.1 / 64) := (List.pairwise_append.1 h.far).1
  have := far_len (N := 17409) x.L hp (fun p hp => by
    have h1 := h.work.al p hp
    have h2 := h.work.inn p (by simp [hp])
    exact ⟨h1.le, by omega⟩)
  omega
set_option maxRecDepth 100000 in
set_option maxHeartbeats 32000000 in
theorem prealloc2_any (w0 : World) (lo hi : Nat) (hle : lo ≤ hi) (hm : hi ≤ 1114111) (g1 g2 : Nat) (u0 u1 u2 u3 u4 u5 u6 u7 : Value) (B : Nat) (hBw : B ≤ w0.heap.size) (hB1 : B ≤ g1) (hB2 : B ≤ g2) (hgl : RdB w0 B 5 (r2 (65535, 0))) (hgl6 : RdB w0 B 6 [.int .u8 255, .int .u8 0]) (hw : At w0 ([[⟨g1, .cells #[u0, u1, u2, u3] 5 (0, 0)⟩], [⟨g2, .cells #[u4, u5, u6, u7] 5 (0, 0)⟩]] : List Hp).flatten) :
    Calls Tryd.prog 36 #[.int .i32 lo, .int .i32 hi, .slice none 0 0, .slice none 0 0, .slice (some ⟨g1, 0, none⟩) 4 4, .slice (some ⟨g2, 0, none⟩) 4 4] w0 (Post w0 ([[⟨g1, .cells #[u0, u1, u2, u3] 5 (0, 0)⟩], [⟨g2, .cells #[u4, u5, u6, u7] 5 (0, 0)⟩]] : List Hp).flatten (fun x : QSt => .tuple #[x.v, x.sv, .nilIface])
      (fun x => ([x.l, x.G.map sqB, [⟨g1, .cells #[x.x0, x.x1, x.x2, x.x3] 5 (0, 0)⟩], [⟨g2, .cells #[x.y0, x.y1, x.y2, x.y3] 5 (0, 0)⟩]] : List Hp).flatten) (fun x => GoodL lo hi x.L ∧ x.G.map (·.2) = x.L.map (fun p => seqOf p.1 p.2) ∧ Own 64 1 x.v x.G.length (x.G.map sqV) x.l ∧ x.L.length ≤ 17409 ∧ x.sv.oneCell' = true)) := by
  refine enter [[⟨g1, .cells #[u0, u1, u2, u3] 5 (0, 0)⟩], [⟨g2, .cells #[u4, u5, u6, u7] 5 (0, 0)⟩]] Tryd.func36 rfl rfl hw (Le.refl _) ?_
  intro R hR
  have hL0 : ∀ k ∈ ids ([[⟨g1, .cells #[u0, u1, u2, u3] 5 (0, 0)⟩], [⟨g2, .cells #[u4, u5, u6, u7] 5 (0, 0)⟩]] : List Hp).flatten, B ≤ k := by
    intro k hk
    simp [ids] at hk
    rcases hk with rfl | rfl <;> assumption
  refine run_seq ?_
  refine run_region rfl ?_
  refine op_assign rfl rfl ?_
  refine op_assign rfl rfl ?_
  refine op_assign rfl rfl ?_
  refine ops_nil ?_
  refine fin_code ?_
  (refine run_scope ?_)
  refine run_seq ?_
  refine run_region rfl ?_
  refine op_move rfl rfl ?_
  (refine op_sliceH rfl rfl rfl (by omega) ?_)
  refine op_assign rfl rfl ?_
  refine ops_nil ?_
  refine fin_code ?_
  refine run_seq ?_
  refine run_region rfl ?_
  refine op_move rfl rfl ?_
  refine op_assign rfl rfl ?_
  refine ops_nil ?_
  refine fin_code ?_
  refine run_seq ?_
  refine run_seq ?_
  refine run_region rfl ?_
  refine op_move rfl rfl ?_
  refine op_cap rfl rfl ?_
  refine op_cmp_f rfl rfl rfl rfl (by first | (simp only [cmpP]; done) | (simp only [cmpP]; omega)) ?_
  refine ops_nil ?_
  refine fin_code ?_
  refine run_cond_f rfl ?_
  refine run_skip ?_
  refine fin_code ?_
  refine run_seq ?_
  refine run_region rfl ?_
  refine op_move rfl rfl ?_
  (refine op_sliceH rfl rfl rfl (by omega) ?_)
  refine op_assign rfl rfl ?_
  refine ops_nil ?_
  refine fin_code ?_
  refine run_seq ?_
  refine run_region rfl ?_
  refine op_move rfl rfl ?_
  refine op_assign rfl rfl ?_
  refine ops_nil ?_
  refine fin_code ?_
  refine run_seq ?_
  refine run_seq ?_
  refine run_region rfl ?_
  refine op_move rfl rfl ?_
  refine op_cap rfl rfl ?_
  refine op_cmp_f rfl rfl rfl rfl (by first | (simp only [cmpP]; done) | (simp only [cmpP]; omega)) ?_
  refine ops_nil ?_
  refine fin_code ?_
  refine run_cond_f rfl ?_
  refine run_skip ?_
  refine fin_code ?_
  refine run_seq ?_
  refine run_region rfl ?_
  refine op_move rfl rfl ?_
  (refine op_sliceH rfl rfl rfl (by omega) ?_)
  refine op_assign rfl rfl ?_
  refine ops_nil ?_
  refine fin_code ?_
  refine run_seq ?_
  refine run_region rfl ?_
  refine op_move rfl rfl ?_
  (refine op_sliceH rfl rfl rfl (by omega) ?_)
  refine op_assign rfl rfl ?_
  refine ops_nil ?_
  refine fin_code ?_
  refine run_seq ?_
  refine run_region rfl ?_
  refine op_move rfl rfl ?_
  refine op_move rfl rfl ?_
  refine op_move rfl rfl ?_
  refine op_build rfl rfl rfl (by first | (intro v hv; simp at hv; done) | (intro v hv; simp at hv; rcases hv with rfl | rfl | rfl | rfl | rfl | rfl | rfl <;> rfl) | (intro v hv; simp at hv; rcases hv with rfl | rfl | rfl | rfl | rfl | rfl <;> rfl) | (intro v hv; simp at hv; rcases hv with rfl | rfl | rfl | rfl | rfl <;> rfl) | (intro v hv; simp at hv; rcases hv with rfl | rfl | rfl | rfl <;> rfl) | (intro v hv; simp at hv; rcases hv with rfl | rfl | rfl <;> rfl) | (intro v hv; simp at hv; rcases hv with rfl | rfl <;> rfl) | (intro v hv; simp at hv; rcases hv with rfl; rfl)) rfl ?_
  have ho := Own.nil 113 2
  ((first | (apply op_call; (· exact rfl)) | apply op_call0); (· exact rfl); rotate_left 1; (· exact fun w hG hw => push_any w (.slice none 0 0) 0 [] [] ho (by omega) lo hi _ _ rfl rfl hw); rotate_right 1; (· (repeat (first | exact Picks.nil | (apply Picks.cons; (· (repeat (first | exact Pick.here | apply Pick.there)))) | apply Picks.empty))))
  rintro ⟨sv, sl⟩ ho
  dsimp only at ho ⊢
  refine op_assign rfl rfl ?_
  refine ops_nil ?_
  refine fin_code ?_
  refine run_seq ?_
  refine run_region rfl ?_
  refine op_move rfl rfl ?_
  ((first | (apply op_call; (· exact rfl)) | apply op_call0); (· exact rfl)); (case' hc => (refine fun w hG hw => popQ_any w B sv [(lo, hi)] sl ?_ ?_ (by simp) ho hw)); (case hp => (repeat (first | exact Picks.nil | (apply Picks.cons; (· (repeat (first | exact Pick.here | apply Pick.there)))) | apply Picks.empty)))
  · exact hgl.nowD hG hL0 hBw
  · exact newC hG (by (repeat (first | exact Pick.here | apply Pick.there))) hL0 hBw
  intro sv ho
  refine op_move rfl rfl ?_
  refine op_extract rfl rfl rfl ?_
  refine op_extract rfl rfl rfl ?_
  (refine op_alloc rfl ?_; intro _ _)
  refine op_assign rfl rfl ?_
  (apply op_storeAll; (· exact rfl); (· exact rfl); (· exact rfl); (· first | exact r2_one _ _ | exact u2_one _ _); (· (repeat (first | exact Swap.here | apply Swap.there))); (· exact rfl))
  refine ops_nil ?_
  refine fin_code ?_
  refine run_seq ?_
  (refine run_label ?_)
  refine fin_code ?_
  refine run_seq ?_
  refine run_block ?_
  rename_i q _
  refine run_loop (qE q g1 g2) (qH q g1 g2) (QOk lo hi) (fun x => wts x.Q) ⟨[], [], [(lo, hi)], .slice none 0 0, [], sv, sl, u0, u1, u2, u3, u4, u5, u6, u7⟩ ?_ (by (repeat (first | exact Sub.nil _ | (refine Sub.cons rfl ?_)))) (by (apply le_of_picks; (repeat (first | exact Picks.nil | (apply Picks.cons; (· (repeat (first | exact Pick.here | apply Pick.there)))) | apply Picks.empty)))) ?_
  · refine ⟨WorkL.start hle hm, rfl, Own.nil _ _, ho, ?_, ?_, by simp⟩
    · simp only [wts, List.map_cons, List.map_nil, List.sum_cons, List.sum_nil, wt, hle, if_true, List.length_nil]
      omega
    · intro p hp
      simp at hp
      subst hp
      exact .inl hle
  rintro x hx
  obtain ⟨G, L, Q, v, l, sv, sl, a0, a1, a2, a3, b0, b1, b2, b3⟩ := x
  cases Q with
  | nil =>
    have hstk := hx.stk
    dsimp only [qE, qH, hdQ, r2] at hstk ⊢
    refine run_seq ?_
    refine run_seq ?_
    refine run_region rfl ?_
    (apply op_loadAll; (· exact rfl); (· exact rfl); (· (repeat (first | exact Has.here | apply Has.there))); (· exact rfl))
    (apply op_loadA; (· exact rfl); (· exact rfl); (· exact (show (r2 (65535, 0)).length = 2 from rfl)); (· exact fun j v hv => by rw [Nat.zero_add]; exact RdB.cell hgl hL0 hv))
    (refine op_nes2 rfl rfl rfl (ne2_f (by omega) (by omega)) ?_)
    refine ops_nil ?_
    refine fin_code ?_
    refine run_cond_f rfl ?_
    refine run_exit ?_
    refine fin_exit_code ?_
    refine fin_exit_inv ?_
    refine fin_exit_here ?_
    refine fin_code ?_
    refine run_seq ?_
    refine run_region rfl ?_
    refine op_move rfl rfl ?_
    refine op_move rfl rfl ?_
    refine op_assign rfl rfl ?_
    refine op_assign rfl rfl ?_
    refine op_assign rfl rfl ?_
    refine ops_nil ?_
    refine fin_code ?_
    refine run_ret ?_
    refine fin_ret3 rfl rfl rfl rfl ?_
    intro w' g
    exact hR _ _ (post_of g ⟨G, L, [], v, l, sv, sl, a0, a1, a2, a3, b0, b1, b2, b3⟩ ⟨hx.work.done, hx.seq, hx.own, far_few hx hm, own_one hx.stk⟩ rfl (by (apply le_of_picks; (repeat (first | exact Picks.nil | (apply Picks.cons; (· (repeat (first | exact Pick.here | apply Pick.there)))) | apply Picks.empty)))))
  | cons p Q =>
    obtain ⟨s, e⟩ := p
    have hin := hx.work.inn (s, e) (by simp)
    dsimp only [qE, qH, hdQ, r2] at hin ⊢
    refine run_seq ?_
    refine run_seq ?_
    refine run_region rfl ?_
    (apply op_loadAll; (· exact rfl); (· exact rfl); (· (repeat (first | exact Has.here | apply Has.there))); (· exact rfl))
    (apply op_loadA; (· exact rfl); (· exact rfl); (· exact (show (r2 (65535, 0)).length = 2 from rfl)); (· exact fun j v hv => by rw [Nat.zero_add]; exact RdB.cell hgl hL0 hv))
    (refine op_nes2 rfl rfl rfl (ne2_t (by omega)) ?_)
    refine ops_nil ?_
    refine fin_code ?_
    refine run_cond_t rfl ?_
    refine run_skip ?_
    refine fin_code ?_
    refine run_block ?_
    (refine run_scope ?_)
    refine run_seq ?_
    (refine run_label ?_)
    refine fin_code ?_
    refine run_block ?_
    refine run_loop (qE q g1 g2) (qH q g1 g2) (fun x => QOk lo hi x ∧ x.Q ≠ [] ∧ wts x.Q ≤ wts ((s, e) :: Q)) (fun x => wts x.Q) ⟨G, L, (s, e) :: Q, v, l, sv, sl, a0, a1, a2, a3, b0, b1, b2, b3⟩ ⟨hx, by simp, Nat.le_refl _⟩ (by (repeat (first | exact Sub.nil _ | (refine Sub.cons rfl ?_)))) (by (apply le_of_picks; (repeat (first | exact Picks.nil | (apply Picks.cons; (· (repeat (first | exact Pick.here | apply Pick.there)))) | apply Picks.empty)))) ?_
    clear hx hin
    generalize wts ((s, e) :: Q) = N
    clear G L v l sv sl a0 a1 a2 a3 b0 b1 b2 b3 Q s e
    rintro x ⟨hx, hne, hN⟩
    obtain ⟨G, L, Q, v, l, sv, sl, a0, a1, a2, a3, b0, b1, b2, b3⟩ := x
    cases Q with
    | nil => exact absurd rfl hne
    | cons p Q =>
      obtain ⟨s, e⟩ := p
      clear hne
      have hin := hx.work.inn (s, e) (by simp)
      have hod := hx.odd (s, e) (by simp)
      have hfew := hx.few
      have hlen := wts_len Q
      have hpop := wts_pop (Q := Q) (p := (s, e))
      have hstk := hx.stk
      have hown : Own 64 1 v G.length (G.map sqV) l := hx.own
      have hGL : G.length = L.length := by simpa using congrArg List.length hx.seq
      dsimp only [qE, qH, hdQ, r2, List.tail_cons] at hin hod hfew hstk hN ⊢
      have hQl : Q.length ≤ 100000000 := by omega
      by_cases hsp : s < 57344 ∧ 55295 < e
      · obtain ⟨h1, h2⟩ := hsp
        refine run_block ?_
        refine run_seq ?_
        refine run_region rfl ?_
        ((first | (apply op_call; (· exact rfl)) | apply op_call0); (· exact rfl)); (case' hc => (refine fun w hG hw => split_yes w q s e ?_ ?_ h1 h2)); (case hp => (repeat (first | exact Picks.nil | (apply Picks.cons; (· (repeat (first | exact Pick.here | apply Pick.there)))) | apply Picks.empty)))
        · exact hgl.nowC hG hL0 hBw
        · exact RdB.has hG.now (by (repeat (first | exact Has.here | apply Has.there)))
        intro _ _
        refine op_move rfl rfl ?_
        refine op_extract rfl rfl rfl ?_
        refine op_extract rfl rfl rfl ?_
        (refine op_alloc rfl ?_; intro _ _)
        (refine op_alloc rfl ?_; intro _ _)
        (apply op_storeAll; (· exact rfl); (· exact rfl); (· exact rfl); (· first | exact r2_one _ _ | exact u2_one _ _); (· (repeat (first | exact Swap.here | apply Swap.there))); (· exact rfl))
        (apply op_storeAll; (· exact rfl); (· exact rfl); (· exact rfl); (· first | exact r2_one _ _ | exact u2_one _ _); (· (repeat (first | exact Swap.here | apply Swap.there))); (· exact rfl))
        refine ops_nil ?_
        refine fin_code ?_
        refine run_seq ?_
        refine run_seq ?_
        refine run_region rfl ?_
        (apply op_loadAll; (· exact rfl); (· exact rfl); (· (repeat (first | exact Has.here | apply Has.there))); (· exact rfl))
        (apply op_loadA; (· exact rfl); (· exact rfl); (· exact (show (r2 (65535, 0)).length = 2 from rfl)); (· exact fun j v hv => by rw [Nat.zero_add]; exact RdB.cell hgl hL0 hv))
        (refine op_nes2 rfl rfl rfl (ne2_t (by omega)) ?_)
        refine ops_nil ?_
        refine fin_code ?_
        refine run_cond_t rfl ?_
        refine run_seq ?_
        refine run_region rfl ?_
        refine op_move rfl rfl ?_
        refine op_fieldAddr rfl rfl ?_
        (apply op_load; (· exact rfl); (· exact rfl); (· apply cell_of_has; (· (repeat (first | exact Has.here | apply Has.there))); (· first | exact rfl | exact nats_get _ _ _ (by omega))))
        refine op_fieldAddr rfl rfl ?_
        (apply op_load; (· exact rfl); (· exact rfl); (· apply cell_of_has; (· (repeat (first | exact Has.here | apply Has.there))); (· first | exact rfl | exact nats_get _ _ _ (by omega))))
        refine op_build rfl rfl rfl (by first | (intro v hv; simp at hv; done) | (intro v hv; simp at hv; rcases hv with rfl | rfl | rfl | rfl | rfl | rfl | rfl <;> rfl) | (intro v hv; simp at hv; rcases hv with rfl | rfl | rfl | rfl | rfl | rfl <;> rfl) | (intro v hv; simp at hv; rcases hv with rfl | rfl | rfl | rfl | rfl <;> rfl) | (intro v hv; simp at hv; rcases hv with rfl | rfl | rfl | rfl <;> rfl) | (intro v hv; simp at hv; rcases hv with rfl | rfl | rfl <;> rfl) | (intro v hv; simp at hv; rcases hv with rfl | rfl <;> rfl) | (intro v hv; simp at hv; rcases hv with rfl; rfl)) rfl ?_
        ((first | (apply op_call; (· exact rfl)) | apply op_call0); (· exact rfl); rotate_left 1; (· exact fun w hG hw => push_any w sv Q.length Q.reverse sl hstk hQl 57344 e _ _ rfl rfl hw); rotate_right 1; (· (repeat (first | exact Picks.nil | (apply Picks.cons; (· (repeat (first | exact Pick.here | apply Pick.there)))) | apply Picks.empty))))
        rintro ⟨sv', sl'⟩ ho'
        dsimp only at ho' ⊢
        refine op_assign rfl rfl ?_
        refine ops_nil ?_
        refine fin_code ?_
        refine run_seq ?_
        refine run_region rfl ?_
        refine op_fieldAddr rfl rfl ?_
        (apply op_load; (· exact rfl); (· exact rfl); (· apply cell_of_has; (· (repeat (first | exact Has.here | apply Has.there))); (· first | exact rfl | exact nats_get _ _ _ (by omega))))
        refine op_fieldAddr rfl rfl ?_
        (apply op_store; (· exact rfl); (· exact rfl); (· exact rfl); (· (repeat (first | exact Swap.here | apply Swap.there))); (· first | decide | (simp; done) | (simp; omega) | assumption))
        refine ops_nil ?_
        refine fin_code ?_
        refine run_seq ?_
        refine run_region rfl ?_
        refine op_fieldAddr rfl rfl ?_
        (apply op_load; (· exact rfl); (· exact rfl); (· apply cell_of_has; (· (repeat (first | exact Has.here | apply Has.there))); (· first | exact rfl | exact nats_get _ _ _ (by omega))))
        refine op_fieldAddr rfl rfl ?_
        (apply op_store; (· exact rfl); (· exact rfl); (· exact rfl); (· (repeat (first | exact Swap.here | apply Swap.there))); (· first | decide | (simp; done) | (simp; omega) | assumption))
        refine ops_nil ?_
        refine fin_code ?_
        refine run_exit ?_
        refine fin_exit_code ?_
        refine fin_exit_here ?_
        have hk := QOk.half hm hx rfl h1 h2 ho'
        refine fin_round ⟨G, L, (s, 55295) :: (57344, e) :: Q, v, l, sv', sl', a0, a1, a2, a3, b0, b1, b2, b3⟩ hk.2 (by (repeat (first | exact Sub.nil _ | (refine Sub.cons rfl ?_)))) (by (apply le_of_picks; (repeat (first | exact Picks.nil | (apply Picks.cons; (· (repeat (first | exact Pick.here | apply Pick.there)))) | apply Picks.empty)))) ⟨hk.1, by simp, ?_⟩
        have := hk.2
        dsimp only at this ⊢
        omega
      · refine run_block ?_
        refine run_seq ?_
        refine run_region rfl ?_
        ((first | (apply op_call; (· exact rfl)) | apply op_call0); (· exact rfl)); (case' hc => (refine fun w hG hw => split_no w q s e ?_ ?_ hsp)); (case hp => (repeat (first | exact Picks.nil | (apply Picks.cons; (· (repeat (first | exact Pick.here | apply Pick.there)))) | apply Picks.empty)))
        · exact hgl.nowC hG hL0 hBw
        · exact RdB.has hG.now (by (repeat (first | exact Has.here | apply Has.there)))
        intro _ _
        refine op_move rfl rfl ?_
        refine op_extract rfl rfl rfl ?_
        refine op_extract rfl rfl rfl ?_
        (refine op_alloc rfl ?_; intro _ _)
        (refine op_alloc rfl ?_; intro _ _)
        (apply op_storeAll; (· exact rfl); (· exact rfl); (· exact rfl); (· first | exact r2_one _ _ | exact u2_one _ _); (· (repeat (first | exact Swap.here | apply Swap.there))); (· exact rfl))
        (apply op_storeAll; (· exact rfl); (· exact rfl); (· exact rfl); (· first | exact r2_one _ _ | exact u2_one _ _); (· (repeat (first | exact Swap.here | apply Swap.there))); (· exact rfl))
        refine ops_nil ?_
        refine fin_code ?_
        refine run_seq ?_
        refine run_seq ?_
        refine run_region rfl ?_
        (apply op_loadAll; (· exact rfl); (· exact rfl); (· (repeat (first | exact Has.here | apply Has.there))); (· exact rfl))
        (apply op_loadA; (· exact rfl); (· exact rfl); (· exact (show (r2 (65535, 0)).length = 2 from rfl)); (· exact fun j v hv => by rw [Nat.zero_add]; exact RdB.cell hgl hL0 hv))
        (refine op_nes2 rfl rfl rfl (ne2_f (by omega) (by omega)) ?_)
        refine ops_nil ?_
        refine fin_code ?_
        refine run_cond_f rfl ?_
        refine run_skip ?_
        refine fin_code ?_
        refine run_seq ?_
        refine run_seq ?_
        refine run_region rfl ?_
        by_cases hse : s ≤ e
        rotate_left 1
        · ((first | (apply op_call; (· exact rfl)) | apply op_call0); (· exact rfl)); (case' hc => (refine fun w hG hw => valid_any w q s e false (by simp; omega) ?_)); (case hp => (repeat (first | exact Picks.nil | (apply Picks.cons; (· (repeat (first | exact Pick.here | apply Pick.there)))) | apply Picks.empty)))
          · exact RdB.has hG.now (by (repeat (first | exact Has.here | apply Has.there)))
          intro _ _
          refine op_not rfl rfl ?_
          refine ops_nil ?_
          refine fin_code ?_
          refine run_cond_t rfl ?_
          refine run_seq ?_
          refine run_region rfl ?_
          refine op_move rfl rfl ?_
          ((first | (apply op_call; (· exact rfl)) | apply op_call0); (· exact rfl)); (case' hc => (refine fun w hG hw => popQ_any w B sv Q sl ?_ ?_ hQl hstk hw)); (case hp => (repeat (first | exact Picks.nil | (apply Picks.cons; (· (repeat (first | exact Pick.here | apply Pick.there)))) | apply Picks.empty)))
          · exact hgl.nowD hG hL0 hBw
          · exact newC hG (by (repeat (first | exact Pick.here | apply Pick.there))) hL0 hBw
          intro sv' ho'
          refine op_move rfl rfl ?_
          refine op_extract rfl rfl rfl ?_
          refine op_extract rfl rfl rfl ?_
          refine op_assign rfl rfl ?_
          (apply op_storeAll; (· exact rfl); (· exact rfl); (· exact rfl); (· first | exact r2_one _ _ | exact u2_one _ _); (· (repeat (first | exact Swap.here | apply Swap.there))); (· exact rfl))
          refine ops_nil ?_
          refine fin_code ?_
          refine run_exit ?_
          refine fin_exit_code ?_
          refine fin_exit_past rfl ?_
          refine fin_exit_inv ?_
          refine fin_exit_past rfl ?_
          refine fin_exit_here ?_
          have hk := QOk.drop hx rfl (by omega) ho'
          refine fin_round ⟨G, L, Q, v, l, sv', sl, a0, a1, a2, a3, b0, b1, b2, b3⟩ ?_ (by (repeat (first | exact Sub.nil _ | (refine Sub.cons rfl ?_)))) (by (apply le_of_picks; (repeat (first | exact Picks.nil | (apply Picks.cons; (· (repeat (first | exact Pick.here | apply Pick.there)))) | apply Picks.empty)))) hk
          dsimp only
          omega
        ((first | (apply op_call; (· exact rfl)) | apply op_call0); (· exact rfl)); (case' hc => (refine fun w hG hw => valid_any w q s e true (by simp; omega) ?_)); (case hp => (repeat (first | exact Picks.nil | (apply Picks.cons; (· (repeat (first | exact Pick.here | apply Pick.there)))) | apply Picks.empty)))
        · exact RdB.has hG.now (by (repeat (first | exact Has.here | apply Has.there)))
        intro _ _
        refine op_not rfl rfl ?_
        refine ops_nil ?_
        refine fin_code ?_
        refine run_cond_f rfl ?_
        refine run_skip ?_
        refine fin_code ?_
        refine run_seq ?_
        refine run_seq ?_
        refine run_region rfl ?_
        refine op_assign rfl rfl ?_
        refine ops_nil ?_
        refine fin_code ?_
        refine run_block ?_
        refine run_join1 (α := Unit) (fun _ => qE q g1 g2 ⟨G, L, (s, e) :: Q, v, l, sv, sl, a0, a1, a2, a3, b0, b1, b2, b3⟩) (fun _ => qH q g1 g2 ⟨G, L, (s, e) :: Q, v, l, sv, sl, a0, a1, a2, a3, b0, b1, b2, b3⟩)
          (fun _ => (e ≤ 127 ∨ 127 < s) ∧ (e ≤ 2047 ∨ 2047 < s) ∧ (e ≤ 65535 ∨ 65535 < s)) ?_ ?_
        rotate_left 1
        · intro J
          refine run_loop (α := Nat) (fun i => (22, .int .i64 (i : Nat)) :: qE q g1 g2 ⟨G, L, (s, e) :: Q, v, l, sv, sl, a0, a1, a2, a3, b0, b1, b2, b3⟩) (fun _ => qH q g1 g2 ⟨G, L, (s, e) :: Q, v, l, sv, sl, a0, a1, a2, a3, b0, b1, b2, b3⟩)
            (fun i => 1 ≤ i ∧ i ≤ 4 ∧ ∀ j, 1 ≤ j → j < i → (e ≤ mxS j ∨ mxS j < s)) (fun i => 4 - i) 1 ⟨Nat.le_refl _, by omega, fun j h1 h2 => by omega⟩ (by (repeat (first | exact Sub.nil _ | (refine Sub.cons rfl ?_)))) (by (apply le_of_picks; (repeat (first | exact Picks.nil | (apply Picks.cons; (· (repeat (first | exact Pick.here | apply Pick.there)))) | apply Picks.empty)))) ?_
          rintro i ⟨h1, h4, hall⟩
          dsimp only [qE, qH, hdQ, r2]
          by_cases hi : i < 4
          · have hmx : mxS i ≤ 65535 := by unfold mxS; split <;> (try split) <;> omega
            refine run_seq ?_
            refine run_seq ?_
            refine run_region rfl ?_
            refine op_move rfl rfl ?_
            refine op_cmp_t rfl rfl rfl rfl (by first | (simp only [cmpP]; done) | (simp only [cmpP]; omega)) ?_
            refine ops_nil ?_
            refine fin_code ?_
            refine run_cond_t rfl ?_
            refine run_skip ?_
            refine fin_code ?_
            refine run_seq ?_
            refine run_block ?_
            refine run_seq ?_
            refine run_region rfl ?_
            refine op_move rfl rfl ?_
            ((first | (apply op_call; (· exact rfl)) | apply op_call0); (· exact rfl); rotate_left 1; (· exact fun w hG hw => maxS_any w i h1 (by omega)); rotate_right 1; (· (repeat (first | exact Picks.nil | (apply Picks.cons; (· (repeat (first | exact Pick.here | apply Pick.there)))) | apply Picks.empty))))
            intro _ _
            refine op_assign rfl rfl ?_
            refine ops_nil ?_
            refine fin_code ?_
            refine run_seq ?_
            refine run_region rfl ?_
            refine op_fieldAddr rfl rfl ?_
            (apply op_load; (· exact rfl); (· exact rfl); (· apply cell_of_has; (· (repeat (first | exact Has.here | apply Has.there))); (· first | exact rfl | exact nats_get _ _ _ (by omega))))
            refine op_move rfl rfl ?_
            by_cases hc1 : s ≤ mxS i
            · by_cases hc2 : mxS i < e
              · refine op_cmp_t rfl rfl rfl rfl (by first | (simp only [cmpP]; done) | (simp only [cmpP]; omega)) ?_
                refine op_move rfl rfl ?_
                refine ops_guard_yes rfl rfl rfl ?_
                refine op_move rfl rfl ?_
                refine ops_guard_yes rfl rfl rfl ?_
                refine op_fieldAddr rfl rfl ?_
                refine ops_guard_yes rfl rfl rfl ?_
                (apply op_load; (· exact rfl); (· exact rfl); (· apply cell_of_has; (· (repeat (first | exact Has.here | apply Has.there))); (· first | exact rfl | exact nats_get _ _ _ (by omega))))
                refine ops_guard_yes rfl rfl rfl ?_
                refine op_cmp_t rfl rfl rfl rfl (by first | (simp only [cmpP]; done) | (simp only [cmpP]; omega)) ?_
                refine op_pick_t rfl rfl rfl ?_
                refine ops_nil ?_
                refine fin_code ?_
                refine run_cond_t rfl ?_
                refine run_seq ?_
                refine run_region rfl ?_
                refine op_move rfl rfl ?_
                refine op_move rfl rfl ?_
                refine op_add rfl rfl rfl (by simp only [kLo, kHi]; omega) ?_
                refine op_fieldAddr rfl rfl ?_
                (apply op_load; (· exact rfl); (· exact rfl); (· apply cell_of_has; (· (repeat (first | exact Has.here | apply Has.there))); (· first | exact rfl | exact nats_get _ _ _ (by omega))))
                refine op_build rfl rfl rfl (by first | (intro v hv; simp at hv; done) | (intro v hv; simp at hv; rcases hv with rfl | rfl | rfl | rfl | rfl | rfl | rfl <;> rfl) | (intro v hv; simp at hv; rcases hv with rfl | rfl | rfl | rfl | rfl | rfl <;> rfl) | (intro v hv; simp at hv; rcases hv with rfl | rfl | rfl | rfl | rfl <;> rfl) | (intro v hv; simp at hv; rcases hv with rfl | rfl | rfl | rfl <;> rfl) | (intro v hv; simp at hv; rcases hv with rfl | rfl | rfl <;> rfl) | (intro v hv; simp at hv; rcases hv with rfl | rfl <;> rfl) | (intro v hv; simp at hv; rcases hv with rfl; rfl)) rfl ?_
                ((first | (apply op_call; (· exact rfl)) | apply op_call0); (· exact rfl); rotate_left 1; (· exact fun w hG hw => push_any w sv Q.length Q.reverse sl hstk hQl (mxS i + 1) e _ _ rfl rfl hw); rotate_right 1; (· (repeat (first | exact Picks.nil | (apply Picks.cons; (· (repeat (first | exact Pick.here | apply Pick.there)))) | apply Picks.empty))))
                rintro ⟨sv', sl'⟩ ho'
                dsimp only at ho' ⊢
                refine op_assign rfl rfl ?_
                refine ops_nil ?_
                refine fin_code ?_
                refine run_seq ?_
                refine run_region rfl ?_
                refine op_move rfl rfl ?_
                refine op_fieldAddr rfl rfl ?_
                (apply op_store; (· exact rfl); (· exact rfl); (· exact rfl); (· (repeat (first | exact Swap.here | apply Swap.there))); (· first | decide | (simp; done) | (simp; omega) | assumption))
                refine ops_nil ?_
                refine fin_code ?_
                refine run_exit ?_
                refine fin_exit_past rfl ?_
                refine fin_exit_code ?_
                refine fin_exit_inv ?_
                refine fin_exit_past rfl ?_
                refine fin_exit_code ?_
                refine fin_exit_here ?_
                have hk := QOk.cut hm hx rfl hc1 rfl hc2 (mxS_64 i) ho'
                refine fin_round ⟨G, L, (s, mxS i) :: (mxS i + 1, e) :: Q, v, l, sv', sl', a0, a1, a2, a3, b0, b1, b2, b3⟩ hk.2 (by (repeat (first | exact Sub.nil _ | (refine Sub.cons rfl ?_)))) (by (apply le_of_picks; (repeat (first | exact Picks.nil | (apply Picks.cons; (· (repeat (first | exact Pick.here | apply Pick.there)))) | apply Picks.empty)))) ⟨hk.1, by simp, ?_⟩
                have := hk.2
                dsimp only at this ⊢
                omega
              · refine op_cmp_t rfl rfl rfl rfl (by first | (simp only [cmpP]; done) | (simp only [cmpP]; omega)) ?_
                refine op_move rfl rfl ?_
                refine ops_guard_yes rfl rfl rfl ?_
                refine op_move rfl rfl ?_
                refine ops_guard_yes rfl rfl rfl ?_
                refine op_fieldAddr rfl rfl ?_
                refine ops_guard_yes rfl rfl rfl ?_
                (apply op_load; (· exact rfl); (· exact rfl); (· apply cell_of_has; (· (repeat (first | exact Has.here | apply Has.there))); (· first | exact rfl | exact nats_get _ _ _ (by omega))))
                refine ops_guard_yes rfl rfl rfl ?_
                refine op_cmp_f rfl rfl rfl rfl (by first | (simp only [cmpP]; done) | (simp only [cmpP]; omega)) ?_
                refine op_pick_t rfl rfl rfl ?_
                refine ops_nil ?_
                refine fin_code ?_
                refine run_cond_f rfl ?_
                refine run_skip ?_
                refine fin_block ?_
                refine fin_code ?_
                refine run_region rfl ?_
                refine op_move rfl rfl ?_
                refine op_add rfl rfl rfl (by simp only [kLo, kHi]; omega) ?_
                refine op_assign rfl rfl ?_
                refine ops_nil ?_
                refine fin_round (i + 1) (by omega) (by (repeat (first | exact Sub.nil _ | (refine Sub.cons rfl ?_)))) (by (apply le_of_picks; (repeat (first | exact Picks.nil | (apply Picks.cons; (· (repeat (first | exact Pick.here | apply Pick.there)))) | apply Picks.empty)))) ⟨by omega, by omega, fun j k1 k2 => ?_⟩
                rcases Nat.lt_or_ge j i with k3 | k3
                · exact hall j k1 k3
                · obtain rfl : j = i := by omega
                  exact .inl (by omega)
            · refine op_cmp_f rfl rfl rfl rfl (by first | (simp only [cmpP]; done) | (simp only [cmpP]; omega)) ?_
              refine op_move rfl rfl ?_
              refine ops_off1 rfl rfl ?_
              refine ops_off1 rfl rfl ?_
              refine ops_off1 rfl rfl ?_
              refine ops_off1 rfl rfl ?_
              refine op_pick_f rfl rfl rfl ?_
              refine ops_nil ?_
              refine fin_code ?_
              refine run_cond_f rfl ?_
              refine run_skip ?_
              refine fin_block ?_
              refine fin_code ?_
              refine run_region rfl ?_
              refine op_move rfl rfl ?_
              refine op_add rfl rfl rfl (by simp only [kLo, kHi]; omega) ?_
              refine op_assign rfl rfl ?_
              refine ops_nil ?_
              refine fin_round (i + 1) (by omega) (by (repeat (first | exact Sub.nil _ | (refine Sub.cons rfl ?_)))) (by (apply le_of_picks; (repeat (first | exact Picks.nil | (apply Picks.cons; (· (repeat (first | exact Pick.here | apply Pick.there)))) | apply Picks.empty)))) ⟨by omega, by omega, fun j k1 k2 => ?_⟩
              rcases Nat.lt_or_ge j i with k3 | k3
              · exact hall j k1 k3
              · obtain rfl : j = i := by omega
                exact .inr (by omega)
          · have J1 := J () ⟨hall 1 (by omega) (by omega), hall 2 (by omega) (by omega), hall 3 (by omega) (by omega)⟩
            refine run_seq ?_
            refine run_seq ?_
            refine run_region rfl ?_
            refine op_move rfl rfl ?_
            refine op_cmp_f rfl rfl rfl rfl (by first | (simp only [cmpP]; done) | (simp only [cmpP]; omega)) ?_
            refine ops_nil ?_
            refine fin_code ?_
            refine run_cond_f rfl ?_
            refine run_exit ?_
            refine fin_exit_code ?_
            refine fin_exit_inv ?_
            refine fin_exit_here ?_
            (apply J1)
            · (repeat (first | exact Sub.nil _ | (refine Sub.cons rfl ?_)))
            · (apply le_of_picks; (repeat (first | exact Picks.nil | (apply Picks.cons; (· (repeat (first | exact Pick.here | apply Pick.there)))) | apply Picks.empty)))
        rintro ⟨⟩ ⟨w1, w2, w3⟩
        dsimp only [qE, qH, hdQ, r2]
        by_cases h7 : e ≤ 127
        · have e1 : seqOf s e = [(s, e)] := by unfold seqOf; rw [encN1 (by omega), encN1 h7]; rfl
          have hal : Al s e := ⟨hse, by omega, .inl (by omega), .inl h7, fun h => by omega, fun h => by omega, fun h => by omega⟩
          refine fin_code ?_
          refine run_seq ?_
          refine run_region rfl ?_
          ((first | (apply op_call; (· exact rfl)) | apply op_call0); (· exact rfl)); (case' hc => (refine fun w hG hw => ascii_yes w q s e ?_ hse h7)); (case hp => (repeat (first | exact Picks.nil | (apply Picks.cons; (· (repeat (first | exact Pick.here | apply Pick.there)))) | apply Picks.empty)))
          · exact RdB.has hG.now (by (repeat (first | exact Has.here | apply Has.there)))
          intro _ _
          (refine op_alloc rfl ?_; intro _ _)
          (apply op_storeAll; (· exact rfl); (· exact rfl); (· exact rfl); (· first | exact r2_one _ _ | exact u2_one _ _); (· (repeat (first | exact Swap.here | apply Swap.there))); (· exact rfl))
          refine ops_nil ?_
          refine fin_code ?_
          refine run_seq ?_
          refine run_seq ?_
          refine run_region rfl ?_
          (apply op_loadAll; (· exact rfl); (· exact rfl); (· (repeat (first | exact Has.here | apply Has.there))); (· exact rfl))
          (apply op_loadA; (· exact rfl); (· exact rfl); (· exact (show ([.int .u8 255, .int .u8 0] : List Value).length = 2 from rfl)); (· exact fun j v hv => by rw [Nat.zero_add]; exact RdB.cell hgl6 hL0 hv))
          (refine op_nes2 rfl rfl rfl (ne2_t (by omega)) ?_)
          refine ops_nil ?_
          refine fin_code ?_
          refine run_cond_t rfl ?_
          refine run_seq ?_
          refine run_region rfl ?_
          refine op_move rfl rfl ?_
          (apply op_loadAll; (· exact rfl); (· exact rfl); (· (repeat (first | exact Has.here | apply Has.there))); (· exact rfl))
          (refine op_slice1 rfl rfl (by first | rfl | simp [Value.cells]) (by decide) ?_; intro _ _)
          (refine op_slice1 rfl rfl (by first | rfl | simp [Value.cells]) (by decide) ?_; intro _ _)
          (apply op_append1; (· exact rfl); (· exact rfl); (· exact rfl); (· exact hown); (· (repeat (first | exact Pick.here | apply Pick.there))); (· (repeat (first | exact Has.here | apply Has.there))); (· exact rfl); (· first | exact onesC rfl | (intro u hu; simp [Value.cells] at hu; rcases hu with rfl | rfl | rfl | rfl | rfl | rfl <;> rfl) | (intro u hu; simp [Value.cells] at hu; rcases hu with rfl | rfl | rfl <;> rfl) | (intro u hu; simp [Value.cells] at hu; rcases hu with rfl | rfl <;> rfl) | (intro u hu; simp [Value.cells] at hu; subst hu; rfl)); (· omega); (· omega); (· exact rfl))
          rename_i gs _ gl _
          intro v' l' hv
          refine op_assign rfl rfl ?_
          refine ops_nil ?_
          refine fin_code ?_
          refine run_seq ?_
          refine run_region rfl ?_
          refine op_move rfl rfl ?_
          ((first | (apply op_call; (· exact rfl)) | apply op_call0); (· exact rfl)); (case' hc => (refine fun w hG hw => popQ_any w B sv Q sl ?_ ?_ hQl hstk hw)); (case hp => (repeat (first | exact Picks.nil | (apply Picks.cons; (· (repeat (first | exact Pick.here | apply Pick.there)))) | apply Picks.empty)))
          · exact hgl.nowD hG hL0 hBw
          · exact newC hG (by (repeat (first | exact Pick.here | apply Pick.there))) hL0 hBw
          intro sv' ho'
          refine op_move rfl rfl ?_
          refine op_extract rfl rfl rfl ?_
          refine op_extract rfl rfl rfl ?_
          refine op_assign rfl rfl ?_
          (apply op_storeAll; (· exact rfl); (· exact rfl); (· exact rfl); (· first | exact r2_one _ _ | exact u2_one _ _); (· (repeat (first | exact Swap.here | apply Swap.there))); (· exact rfl))
          refine ops_nil ?_
          refine fin_code ?_
          refine run_exit ?_
          refine fin_exit_code ?_
          refine fin_exit_past rfl ?_
          refine fin_exit_inv ?_
          refine fin_exit_past rfl ?_
          refine fin_exit_here ?_
          have hk := QOk.emit (g := gs) hx rfl hal ho' (v := v') (l := l') (by rw [e1]; exact hv)
          refine fin_round _ ?_ (by (repeat (first | exact Sub.nil _ | (refine Sub.cons rfl ?_)))) ?_ hk
          · dsimp only; omega
          · show Le ([l', (G ++ [(gs, seqOf s e)]).map sqB, sl, _, _, _] : List Hp).flatten _
            rw [List.map_append, flat2, e1]
            (apply le_of_picks; (repeat (first | exact Picks.nil | (apply Picks.cons; (· (repeat (first | exact Pick.here | apply Pick.there)))) | apply Picks.empty)))
        refine fin_code ?_
        refine run_seq ?_
        refine run_region rfl ?_
        ((first | (apply op_call; (· exact rfl)) | apply op_call0); (· exact rfl)); (case' hc => (refine fun w hG hw => ascii_no w q s e ?_ ?_ hse h7)); (case hp => (repeat (first | exact Picks.nil | (apply Picks.cons; (· (repeat (first | exact Pick.here | apply Pick.there)))) | apply Picks.empty)))
        · exact hgl6.nowC hG hL0 hBw
        · exact RdB.has hG.now (by (repeat (first | exact Has.here | apply Has.there)))
        intro _ _
        (refine op_alloc rfl ?_; intro _ _)
        (apply op_storeAll; (· exact rfl); (· exact rfl); (· exact rfl); (· first | exact r2_one _ _ | exact u2_one _ _); (· (repeat (first | exact Swap.here | apply Swap.there))); (· exact rfl))
        refine ops_nil ?_
        refine fin_code ?_
        refine run_seq ?_
        refine run_seq ?_
        refine run_region rfl ?_
        (apply op_loadAll; (· exact rfl); (· exact rfl); (· (repeat (first | exact Has.here | apply Has.there))); (· exact rfl))
        (apply op_loadA; (· exact rfl); (· exact rfl); (· exact (show ([.int .u8 255, .int .u8 0] : List Value).length = 2 from rfl)); (· exact fun j v hv => by rw [Nat.zero_add]; exact RdB.cell hgl6 hL0 hv))
        (refine op_nes2 rfl rfl rfl (ne2_f (by omega) (by omega)) ?_)
        refine ops_nil ?_
        refine fin_code ?_
        refine run_cond_f rfl ?_
        refine run_skip ?_
        refine fin_code ?_
        refine run_seq ?_
        refine run_seq ?_
        refine run_region rfl ?_
        refine op_assign rfl rfl ?_
        refine ops_nil ?_
        refine fin_code ?_
        refine run_block ?_
        refine run_join1 (α := Unit) (fun _ => qE q g1 g2 ⟨G, L, (s, e) :: Q, v, l, sv, sl, a0, a1, a2, a3, b0, b1, b2, b3⟩) (fun _ => qH q g1 g2 ⟨G, L, (s, e) :: Q, v, l, sv, sl, a0, a1, a2, a3, b0, b1, b2, b3⟩)
          (fun _ => Ai 1 s e ∧ Ai 2 s e ∧ Ai 3 s e) ?_ ?_
        rotate_left 1
        · intro J
          refine run_loop (α := Nat) (fun i => (25, .int .u64 (i : Nat)) :: qE q g1 g2 ⟨G, L, (s, e) :: Q, v, l, sv, sl, a0, a1, a2, a3, b0, b1, b2, b3⟩) (fun _ => qH q g1 g2 ⟨G, L, (s, e) :: Q, v, l, sv, sl, a0, a1, a2, a3, b0, b1, b2, b3⟩)
            (fun i => 1 ≤ i ∧ i ≤ 4 ∧ ∀ j, 1 ≤ j → j < i → Ai j s e) (fun i => 4 - i) 1 ⟨Nat.le_refl _, by omega, fun j h1 h2 => by omega⟩ (by (repeat (first | exact Sub.nil _ | (refine Sub.cons rfl ?_)))) (by (apply le_of_picks; (repeat (first | exact Picks.nil | (apply Picks.cons; (· (repeat (first | exact Pick.here | apply Pick.there)))) | apply Picks.empty)))) ?_
          rintro i ⟨h1, h4, hall⟩
          dsimp only [qE, qH, hdQ, r2]
          by_cases hi : i < 4
          · obtain ⟨K, sh, eh, slo, elo, M⟩ := maskE h1 hi hse (show e ≤ 1114111 by omega)
            obtain ⟨m1, m2, m3, m4, m5, m6, m7, m8, m9, m10, m11, m12, m13, m14, m16, m15⟩ := M
            by_cases hd : sh = eh
            · refine run_seq ?_
              refine run_seq ?_
              refine run_region rfl ?_
              refine op_move rfl rfl ?_
              refine op_cmp_t rfl rfl rfl rfl (by first | (simp only [cmpP]; done) | (simp only [cmpP]; omega)) ?_
              refine ops_nil ?_
              refine fin_code ?_
              refine run_cond_t rfl ?_
              refine run_skip ?_
              refine fin_code ?_
              refine run_seq ?_
              refine run_block ?_
              refine run_seq ?_
              refine run_region rfl ?_
              refine op_move rfl rfl ?_
              (refine op_mul rfl rfl rfl (by simp only [kLo, kHi]; omega) ?_)
              (refine op_shlE rfl rfl rfl (by omega) (by assumption) ?_)
              refine op_sub rfl rfl rfl (by simp only [kLo, kHi]; omega) ?_
              refine op_assign rfl rfl ?_
              refine ops_nil ?_
              refine fin_code ?_
              refine run_seq ?_
              refine run_region rfl ?_
              refine op_fieldAddr rfl rfl ?_
              (apply op_load; (· exact rfl); (· exact rfl); (· apply cell_of_has; (· (repeat (first | exact Has.here | apply Has.there))); (· first | exact rfl | exact nats_get _ _ _ (by omega))))
              refine op_move rfl rfl ?_
              (refine op_compl rfl rfl (by assumption) ?_)
              (refine op_bitsE rfl rfl rfl rfl (by assumption) ?_)
              refine op_fieldAddr rfl rfl ?_
              (apply op_load; (· exact rfl); (· exact rfl); (· apply cell_of_has; (· (repeat (first | exact Has.here | apply Has.there))); (· first | exact rfl | exact nats_get _ _ _ (by omega))))
              refine op_move rfl rfl ?_
              (refine op_compl rfl rfl (by assumption) ?_)
              (refine op_bitsE rfl rfl rfl rfl (by assumption) ?_)
              refine op_cmp_f rfl rfl rfl rfl (by first | (simp only [cmpP]; done) | (simp only [cmpP]; omega)) ?_
              refine ops_nil ?_
              refine fin_code ?_
              refine run_cond_f rfl ?_
              refine run_skip ?_
              refine fin_block ?_
              refine fin_code ?_
              refine run_region rfl ?_
              refine op_move rfl rfl ?_
              refine op_add rfl rfl rfl (by simp only [kLo, kHi]; omega) ?_
              refine op_assign rfl rfl ?_
              refine ops_nil ?_
              refine fin_round (i + 1) (by omega) (by (repeat (first | exact Sub.nil _ | (refine Sub.cons rfl ?_)))) (by (apply le_of_picks; (repeat (first | exact Picks.nil | (apply Picks.cons; (· (repeat (first | exact Pick.here | apply Pick.there)))) | apply Picks.empty)))) ⟨by omega, by omega, fun j k1 k2 => ?_⟩
              rcases Nat.lt_or_ge j i with k3 | k3
              · exact hall j k1 k3
              · obtain rfl : j = i := by omega
                exact m15 (.inl hd)
            · by_cases hs0 : slo = 0
              · by_cases he0 : elo + 1 = K
                · refine run_seq ?_
                  refine run_seq ?_
                  refine run_region rfl ?_
                  refine op_move rfl rfl ?_
                  refine op_cmp_t rfl rfl rfl rfl (by first | (simp only [cmpP]; done) | (simp only [cmpP]; omega)) ?_
                  refine ops_nil ?_
                  refine fin_code ?_
                  refine run_cond_t rfl ?_
                  refine run_skip ?_
                  refine fin_code ?_
                  refine run_seq ?_
                  refine run_block ?_
                  refine run_seq ?_
                  refine run_region rfl ?_
                  refine op_move rfl rfl ?_
                  (refine op_mul rfl rfl rfl (by simp only [kLo, kHi]; omega) ?_)
                  (refine op_shlE rfl rfl rfl (by omega) (by assumption) ?_)
                  refine op_sub rfl rfl rfl (by simp only [kLo, kHi]; omega) ?_
                  refine op_assign rfl rfl ?_
                  refine ops_nil ?_
                  refine fin_code ?_
                  refine run_seq ?_
                  refine run_region rfl ?_
                  refine op_fieldAddr rfl rfl ?_
                  (apply op_load; (· exact rfl); (· exact rfl); (· apply cell_of_has; (· (repeat (first | exact Has.here | apply Has.there))); (· first | exact rfl | exact nats_get _ _ _ (by omega))))
                  refine op_move rfl rfl ?_
                  (refine op_compl rfl rfl (by assumption) ?_)
                  (refine op_bitsE rfl rfl rfl rfl (by assumption) ?_)
                  refine op_fieldAddr rfl rfl ?_
                  (apply op_load; (· exact rfl); (· exact rfl); (· apply cell_of_has; (· (repeat (first | exact Has.here | apply Has.there))); (· first | exact rfl | exact nats_get _ _ _ (by omega))))
                  refine op_move rfl rfl ?_
                  (refine op_compl rfl rfl (by assumption) ?_)
                  (refine op_bitsE rfl rfl rfl rfl (by assumption) ?_)
                  refine op_cmp_t rfl rfl rfl rfl (by first | (simp only [cmpP]; done) | (simp only [cmpP]; omega)) ?_
                  refine ops_nil ?_
                  refine fin_code ?_
                  refine run_cond_t rfl ?_
                  refine run_seq ?_
                  refine run_seq ?_
                  refine run_region rfl ?_
                  refine op_fieldAddr rfl rfl ?_
                  (apply op_load; (· exact rfl); (· exact rfl); (· apply cell_of_has; (· (repeat (first | exact Has.here | apply Has.there))); (· first | exact rfl | exact nats_get _ _ _ (by omega))))
                  refine op_move rfl rfl ?_
                  (refine op_bitsE rfl rfl rfl rfl (by assumption) ?_)
                  refine op_cmp_f rfl rfl rfl rfl (by first | (simp only [cmpP]; done) | (simp only [cmpP]; omega)) ?_
                  refine ops_nil ?_
                  refine fin_code ?_
                  refine run_cond_f rfl ?_
                  refine run_skip ?_
                  refine fin_code ?_
                  refine run_seq ?_
                  refine run_region rfl ?_
                  refine op_fieldAddr rfl rfl ?_
                  (apply op_load; (· exact rfl); (· exact rfl); (· apply cell_of_has; (· (repeat (first | exact Has.here | apply Has.there))); (· first | exact rfl | exact nats_get _ _ _ (by omega))))
                  refine op_move rfl rfl ?_
                  (refine op_bitsE rfl rfl rfl rfl (by assumption) ?_)
                  refine op_move rfl rfl ?_
                  refine op_cmp_f rfl rfl rfl rfl (by first | (simp only [cmpP]; done) | (simp only [cmpP]; omega)) ?_
                  refine ops_nil ?_
                  refine fin_code ?_
                  refine run_cond_f rfl ?_
                  refine run_skip ?_
                  refine fin_block ?_
                  refine fin_code ?_
                  refine run_region rfl ?_
                  refine op_move rfl rfl ?_
                  refine op_add rfl rfl rfl (by simp only [kLo, kHi]; omega) ?_
                  refine op_assign rfl rfl ?_
                  refine ops_nil ?_
                  refine fin_round (i + 1) (by omega) (by (repeat (first | exact Sub.nil _ | (refine Sub.cons rfl ?_)))) (by (apply le_of_picks; (repeat (first | exact Picks.nil | (apply Picks.cons; (· (repeat (first | exact Pick.here | apply Pick.there)))) | apply Picks.empty)))) ⟨by omega, by omega, fun j k1 k2 => ?_⟩
                  rcases Nat.lt_or_ge j i with k3 | k3
                  · exact hall j k1 k3
                  · obtain rfl : j = i := by omega
                    exact m15 (.inr ⟨hs0, he0⟩)
                · refine run_seq ?_
                  refine run_seq ?_
                  refine run_region rfl ?_
                  refine op_move rfl rfl ?_
                  refine op_cmp_t rfl rfl rfl rfl (by first | (simp only [cmpP]; done) | (simp only [cmpP]; omega)) ?_
                  refine ops_nil ?_
                  refine fin_code ?_
                  refine run_cond_t rfl ?_
                  refine run_skip ?_
                  refine fin_code ?_
                  refine run_seq ?_
                  refine run_block ?_
                  refine run_seq ?_
                  refine run_region rfl ?_
                  refine op_move rfl rfl ?_
                  (refine op_mul rfl rfl rfl (by simp only [kLo, kHi]; omega) ?_)
                  (refine op_shlE rfl rfl rfl (by omega) (by assumption) ?_)
                  refine op_sub rfl rfl rfl (by simp only [kLo, kHi]; omega) ?_
                  refine op_assign rfl rfl ?_
                  refine ops_nil ?_
                  refine fin_code ?_
                  refine run_seq ?_
                  refine run_region rfl ?_
                  refine op_fieldAddr rfl rfl ?_
                  (apply op_load; (· exact rfl); (· exact rfl); (· apply cell_of_has; (· (repeat (first | exact Has.here | apply Has.there))); (· first | exact rfl | exact nats_get _ _ _ (by omega))))
                  refine op_move rfl rfl ?_
                  (refine op_compl rfl rfl (by assumption) ?_)
                  (refine op_bitsE rfl rfl rfl rfl (by assumption) ?_)
                  refine op_fieldAddr rfl rfl ?_
                  (apply op_load; (· exact rfl); (· exact rfl); (· apply cell_of_has; (· (repeat (first | exact Has.here | apply Has.there))); (· first | exact rfl | exact nats_get _ _ _ (by omega))))
                  refine op_move rfl rfl ?_
                  (refine op_compl rfl rfl (by assumption) ?_)
                  (refine op_bitsE rfl rfl rfl rfl (by assumption) ?_)
                  refine op_cmp_t rfl rfl rfl rfl (by first | (simp only [cmpP]; done) | (simp only [cmpP]; omega)) ?_
                  refine ops_nil ?_
                  refine fin_code ?_
                  refine run_cond_t rfl ?_
                  refine run_seq ?_
                  refine run_seq ?_
                  refine run_region rfl ?_
                  refine op_fieldAddr rfl rfl ?_
                  (apply op_load; (· exact rfl); (· exact rfl); (· apply cell_of_has; (· (repeat (first | exact Has.here | apply Has.there))); (· first | exact rfl | exact nats_get _ _ _ (by omega))))
                  refine op_move rfl rfl ?_
                  (refine op_bitsE rfl rfl rfl rfl (by assumption) ?_)
                  refine op_cmp_f rfl rfl rfl rfl (by first | (simp only [cmpP]; done) | (simp only [cmpP]; omega)) ?_
                  refine ops_nil ?_
                  refine fin_code ?_
                  refine run_cond_f rfl ?_
                  refine run_skip ?_
                  refine fin_code ?_
                  refine run_seq ?_
                  refine run_region rfl ?_
                  refine op_fieldAddr rfl rfl ?_
                  (apply op_load; (· exact rfl); (· exact rfl); (· apply cell_of_has; (· (repeat (first | exact Has.here | apply Has.there))); (· first | exact rfl | exact nats_get _ _ _ (by omega))))
                  refine op_move rfl rfl ?_
                  (refine op_bitsE rfl rfl rfl rfl (by assumption) ?_)
                  refine op_move rfl rfl ?_
                  refine op_cmp_t rfl rfl rfl rfl (by first | (simp only [cmpP]; done) | (simp only [cmpP]; omega)) ?_
                  refine ops_nil ?_
                  refine fin_code ?_
                  refine run_cond_t rfl ?_
                  refine run_seq ?_
                  refine run_region rfl ?_
                  refine op_move rfl rfl ?_
                  refine op_fieldAddr rfl rfl ?_
                  (apply op_load; (· exact rfl); (· exact rfl); (· apply cell_of_has; (· (repeat (first | exact Has.here | apply Has.there))); (· first | exact rfl | exact nats_get _ _ _ (by omega))))
                  refine op_move rfl rfl ?_
                  (refine op_compl rfl rfl (by assumption) ?_)
                  (refine op_bitsE rfl rfl rfl rfl (by assumption) ?_)
                  refine op_fieldAddr rfl rfl ?_
                  (apply op_load; (· exact rfl); (· exact rfl); (· apply cell_of_has; (· (repeat (first | exact Has.here | apply Has.there))); (· first | exact rfl | exact nats_get _ _ _ (by omega))))
                  refine op_build rfl rfl rfl (by first | (intro v hv; simp at hv; done) | (intro v hv; simp at hv; rcases hv with rfl | rfl | rfl | rfl | rfl | rfl | rfl <;> rfl) | (intro v hv; simp at hv; rcases hv with rfl | rfl | rfl | rfl | rfl | rfl <;> rfl) | (intro v hv; simp at hv; rcases hv with rfl | rfl | rfl | rfl | rfl <;> rfl) | (intro v hv; simp at hv; rcases hv with rfl | rfl | rfl | rfl <;> rfl) | (intro v hv; simp at hv; rcases hv with rfl | rfl | rfl <;> rfl) | (intro v hv; simp at hv; rcases hv with rfl | rfl <;> rfl) | (intro v hv; simp at hv; rcases hv with rfl; rfl)) rfl ?_
                  ((first | (apply op_call; (· exact rfl)) | apply op_call0); (· exact rfl); rotate_left 1; (· exact fun w hG hw => push_any w sv Q.length Q.reverse sl hstk hQl eh e _ _ rfl rfl hw); rotate_right 1; (· (repeat (first | exact Picks.nil | (apply Picks.cons; (· (repeat (first | exact Pick.here | apply Pick.there)))) | apply Picks.empty))))
                  rintro ⟨sv', sl'⟩ ho'
                  dsimp only at ho' ⊢
                  refine op_assign rfl rfl ?_
                  refine ops_nil ?_
                  refine fin_code ?_
                  refine run_seq ?_
                  refine run_region rfl ?_
                  refine op_fieldAddr rfl rfl ?_
                  (apply op_load; (· exact rfl); (· exact rfl); (· apply cell_of_has; (· (repeat (first | exact Has.here | apply Has.there))); (· first | exact rfl | exact nats_get _ _ _ (by omega))))
                  refine op_move rfl rfl ?_
                  (refine op_compl rfl rfl (by assumption) ?_)
                  (refine op_bitsE rfl rfl rfl rfl (by assumption) ?_)
                  refine op_sub rfl rfl rfl (by simp only [kLo, kHi]; omega) ?_
                  refine op_fieldAddr rfl rfl ?_
                  (apply op_store; (· exact rfl); (· exact rfl); (· exact rfl); (· (repeat (first | exact Swap.here | apply Swap.there))); (· first | decide | (simp; done) | (simp; omega) | assumption))
                  refine ops_nil ?_
                  refine fin_code ?_
                  refine run_exit ?_
                  refine fin_exit_past rfl ?_
                  refine fin_exit_code ?_
                  refine fin_exit_inv ?_
                  refine fin_exit_past rfl ?_
                  refine fin_exit_code ?_
                  refine fin_exit_here ?_
                  have hk := QOk.cut (a := eh - 1) hm hx rfl (by omega) (by omega) (by omega) m16.1 ho'
                  rw [show ((eh : Nat) : Int) - 1 = ((eh - 1 : Nat) : Int) by omega]
                  refine fin_round ⟨G, L, (s, eh - 1) :: (eh, e) :: Q, v, l, sv', sl', a0, a1, a2, a3, b0, b1, b2, b3⟩ hk.2 (by (repeat (first | exact Sub.nil _ | (refine Sub.cons rfl ?_)))) (by (apply le_of_picks; (repeat (first | exact Picks.nil | (apply Picks.cons; (· (repeat (first | exact Pick.here | apply Pick.there)))) | apply Picks.empty)))) ⟨hk.1, by simp, ?_⟩
                  have := hk.2
                  dsimp only at this ⊢
                  omega
              · refine run_seq ?_
                refine run_seq ?_
                refine run_region rfl ?_
                refine op_move rfl rfl ?_
                refine op_cmp_t rfl rfl rfl rfl (by first | (simp only [cmpP]; done) | (simp only [cmpP]; omega)) ?_
                refine ops_nil ?_
                refine fin_code ?_
                refine run_cond_t rfl ?_
                refine run_skip ?_
                refine fin_code ?_
                refine run_seq ?_
                refine run_block ?_
                refine run_seq ?_
                refine run_region rfl ?_
                refine op_move rfl rfl ?_
                (refine op_mul rfl rfl rfl (by simp only [kLo, kHi]; omega) ?_)
                (refine op_shlE rfl rfl rfl (by omega) (by assumption) ?_)
                refine op_sub rfl rfl rfl (by simp only [kLo, kHi]; omega) ?_
                refine op_assign rfl rfl ?_
                refine ops_nil ?_
                refine fin_code ?_
                refine run_seq ?_
                refine run_region rfl ?_
                refine op_fieldAddr rfl rfl ?_
                (apply op_load; (· exact rfl); (· exact rfl); (· apply cell_of_has; (· (repeat (first | exact Has.here | apply Has.there))); (· first | exact rfl | exact nats_get _ _ _ (by omega))))
                refine op_move rfl rfl ?_
                (refine op_compl rfl rfl (by assumption) ?_)
                (refine op_bitsE rfl rfl rfl rfl (by assumption) ?_)
                refine op_fieldAddr rfl rfl ?_
                (apply op_load; (· exact rfl); (· exact rfl); (· apply cell_of_has; (· (repeat (first | exact Has.here | apply Has.there))); (· first | exact rfl | exact nats_get _ _ _ (by omega))))
                refine op_move rfl rfl ?_
                (refine op_compl rfl rfl (by assumption) ?_)
                (refine op_bitsE rfl rfl rfl rfl (by assumption) ?_)
                refine op_cmp_t rfl rfl rfl rfl (by first | (simp only [cmpP]; done) | (simp only [cmpP]; omega)) ?_
                refine ops_nil ?_
                refine fin_code ?_
                refine run_cond_t rfl ?_
                refine run_seq ?_
                refine run_seq ?_
                refine run_region rfl ?_
                refine op_fieldAddr rfl rfl ?_
                (apply op_load; (· exact rfl); (· exact rfl); (· apply cell_of_has; (· (repeat (first | exact Has.here | apply Has.there))); (· first | exact rfl | exact nats_get _ _ _ (by omega))))
                refine op_move rfl rfl ?_
                (refine op_bitsE rfl rfl rfl rfl (by assumption) ?_)
                refine op_cmp_t rfl rfl rfl rfl (by first | (simp only [cmpP]; done) | (simp only [cmpP]; omega)) ?_
                refine ops_nil ?_
                refine fin_code ?_
                refine run_cond_t rfl ?_
                refine run_seq ?_
                refine run_region rfl ?_
                refine op_move rfl rfl ?_
                refine op_fieldAddr rfl rfl ?_
                (apply op_load; (· exact rfl); (· exact rfl); (· apply cell_of_has; (· (repeat (first | exact Has.here | apply Has.there))); (· first | exact rfl | exact nats_get _ _ _ (by omega))))
                refine op_move rfl rfl ?_
                (refine op_bitsE rfl rfl rfl rfl (by assumption) ?_)
                refine op_add rfl rfl rfl (by simp only [kLo, kHi]; omega) ?_
                refine op_fieldAddr rfl rfl ?_
                (apply op_load; (· exact rfl); (· exact rfl); (· apply cell_of_has; (· (repeat (first | exact Has.here | apply Has.there))); (· first | exact rfl | exact nats_get _ _ _ (by omega))))
                refine op_build rfl rfl rfl (by first | (intro v hv; simp at hv; done) | (intro v hv; simp at hv; rcases hv with rfl | rfl | rfl | rfl | rfl | rfl | rfl <;> rfl) | (intro v hv; simp at hv; rcases hv with rfl | rfl | rfl | rfl | rfl | rfl <;> rfl) | (intro v hv; simp at hv; rcases hv with rfl | rfl | rfl | rfl | rfl <;> rfl) | (intro v hv; simp at hv; rcases hv with rfl | rfl | rfl | rfl <;> rfl) | (intro v hv; simp at hv; rcases hv with rfl | rfl | rfl <;> rfl) | (intro v hv; simp at hv; rcases hv with rfl | rfl <;> rfl) | (intro v hv; simp at hv; rcases hv with rfl; rfl)) rfl ?_
                ((first | (apply op_call; (· exact rfl)) | apply op_call0); (· exact rfl); rotate_left 1; (· exact fun w hG hw => push_any w sv Q.length Q.reverse sl hstk hQl (sh + K) e _ _ (by omega) rfl hw); rotate_right 1; (· (repeat (first | exact Picks.nil | (apply Picks.cons; (· (repeat (first | exact Pick.here | apply Pick.there)))) | apply Picks.empty))))
                rintro ⟨sv', sl'⟩ ho'
                dsimp only at ho' ⊢
                refine op_assign rfl rfl ?_
                refine ops_nil ?_
                refine fin_code ?_
                refine run_seq ?_
                refine run_region rfl ?_
                refine op_fieldAddr rfl rfl ?_
                (apply op_load; (· exact rfl); (· exact rfl); (· apply cell_of_has; (· (repeat (first | exact Has.here | apply Has.there))); (· first | exact rfl | exact nats_get _ _ _ (by omega))))
                refine op_move rfl rfl ?_
                (refine op_bitsE rfl rfl rfl rfl (by assumption) ?_)
                refine op_fieldAddr rfl rfl ?_
                (apply op_store; (· exact rfl); (· exact rfl); (· exact rfl); (· (repeat (first | exact Swap.here | apply Swap.there))); (· first | decide | (simp; done) | (simp; omega) | assumption))
                refine ops_nil ?_
                refine fin_code ?_
                refine run_exit ?_
                refine fin_exit_code ?_
                refine fin_exit_past rfl ?_
                refine fin_exit_code ?_
                refine fin_exit_inv ?_
                refine fin_exit_past rfl ?_
                refine fin_exit_code ?_
                refine fin_exit_here ?_
                have hk := QOk.cut (a := sh + (K - 1)) hm hx rfl (by omega) (by omega) (by omega) m16.2 ho'
                refine fin_round ⟨G, L, (s, sh + (K - 1)) :: (sh + K, e) :: Q, v, l, sv', sl', a0, a1, a2, a3, b0, b1, b2, b3⟩ hk.2 (by (repeat (first | exact Sub.nil _ | (refine Sub.cons rfl ?_)))) (by (apply le_of_picks; (repeat (first | exact Picks.nil | (apply Picks.cons; (· (repeat (first | exact Pick.here | apply Pick.there)))) | apply Picks.empty)))) ⟨hk.1, by simp, ?_⟩
                have := hk.2
                dsimp only at this ⊢
                omega
          · have J1 := J () ⟨hall 1 (by omega) (by omega), hall 2 (by omega) (by omega), hall 3 (by omega) (by omega)⟩
            refine run_seq ?_
            refine run_seq ?_
            refine run_region rfl ?_
            refine op_move rfl rfl ?_
            refine op_cmp_f rfl rfl rfl rfl (by first | (simp only [cmpP]; done) | (simp only [cmpP]; omega)) ?_
            refine ops_nil ?_
            refine fin_code ?_
            refine run_cond_f rfl ?_
            refine run_exit ?_
            refine fin_exit_code ?_
            refine fin_exit_inv ?_
            refine fin_exit_here ?_
            (apply J1)
            · (repeat (first | exact Sub.nil _ | (refine Sub.cons rfl ?_)))
            · (apply le_of_picks; (repeat (first | exact Picks.nil | (apply Picks.cons; (· (repeat (first | exact Pick.here | apply Pick.there)))) | apply Picks.empty)))
        rintro ⟨⟩ ⟨f1, f2, f3⟩
        have f1 := f1.1 rfl
        have f2 := f2.2.1 rfl
        have f3 := f3.2.2 rfl
        have hal : Al s e := ⟨hse, by omega, by omega, by omega, fun _ => f1, fun _ => f2, fun _ => f3⟩
        have hll : (encN e).length = (encN s).length := by
          rw [encN_len, encN_len, if_neg h7, if_neg (show ¬ s ≤ 127 by omega)]
          by_cases h8 : e ≤ 2047
          · rw [if_pos h8, if_pos (show s ≤ 2047 by omega)]
          · rw [if_neg h8, if_neg (show ¬ s ≤ 2047 by omega)]
            by_cases h9 : e ≤ 65535
            · rw [if_pos h9, if_pos (show s ≤ 65535 by omega)]
            · rw [if_neg h9, if_neg (show ¬ s ≤ 65535 by omega)]
        have hl4 := encN_len4 s
        dsimp only [qE, qH, hdQ, r2]
        refine fin_code ?_
        refine run_seq ?_
        refine run_region rfl ?_
        refine op_move rfl rfl ?_
        refine op_move rfl rfl ?_
        ((first | (apply op_call; (· exact rfl)) | apply op_call0); (· exact rfl); rotate_left 1; (· exact fun w hG hw => encode_any w q s e g1 g2 4 4 a0 a1 a2 a3 b0 b1 b2 b3 (hal.letter (Nat.le_refl _) hse) (hal.letter hse (Nat.le_refl _)) hw); rotate_right 1; (· (repeat (first | exact Picks.nil | (apply Picks.cons; (· (repeat (first | exact Pick.here | apply Pick.there)))) | apply Picks.empty))))
        intro _ _
        rw [hll]
        refine op_move rfl rfl ?_
        refine op_extract rfl rfl rfl ?_
        refine op_extract rfl rfl rfl ?_
        refine op_assign rfl rfl ?_
        refine op_assign rfl rfl ?_
        refine ops_nil ?_
        refine fin_code ?_
        refine run_seq ?_
        refine run_drawS [] (by kernel_rfl) ?_
        refine dr_stab 0 rfl rfl (Val.s (val_move rfl)) (by decide +kernel) rfl rfl ?_
        refine dr_stab 1 rfl rfl (Val.s (val_move rfl)) (by decide +kernel) rfl rfl ?_
        refine dr_stab 2 rfl rfl (Val.s (val_sliceLH 0 _ rfl rfl rfl (by first | rfl | omega) (by first | rfl | omega) (by omega))) (by decide +kernel) rfl rfl ?_
        refine dr_stab 3 rfl rfl (Val.s (val_move rfl)) (by decide +kernel) rfl rfl ?_
        refine dr_stab 4 rfl rfl (Val.s (val_move rfl)) (by decide +kernel) rfl rfl ?_
        refine dr_stab 5 rfl rfl (Val.s (val_sliceLH 0 _ rfl rfl rfl (by first | rfl | omega) (by first | rfl | omega) (by omega))) (by decide +kernel) rfl rfl ?_
        (refine dr_one 6 rfl (by decide +kernel) (by (apply le_of_picks; (repeat (first | exact Picks.nil | (apply Picks.cons; (· (repeat (first | exact Pick.here | apply Pick.there)))) | apply Picks.empty)))) ?_)
        ((first | (apply op_call; (· exact rfl)) | apply op_call0); (· exact rfl)); (case' hc => (refine fun w hG hw => seqF_any w g1 g2 _ _ s e ([a0, a1, a2, a3].drop (encN s).length) ([b0, b1, b2, b3].drop (encN e).length) (by omega) hse ?_ ?_)); (case hp => (repeat (first | exact Picks.nil | (apply Picks.cons; (· (repeat (first | exact Pick.here | apply Pick.there)))) | apply Picks.empty)))
        · exact RdB.has hG.now (by (repeat (first | exact Has.here | apply Has.there)))
        · exact RdB.has hG.now (by (repeat (first | exact Has.here | apply Has.there)))
        intro gs _
        obtain ⟨c0, c1, c2, c3, hb1⟩ := buf4 s a0 a1 a2 a3
        obtain ⟨d0, d1, d2, d3, hb2⟩ := buf4 e b0 b1 b2 b3
        rw [hb1, hb2]
        refine ops_nil ?_
        refine fin_draw ?_
        refine dr_stab 7 rfl rfl (Val.s (val_move rfl)) (by decide +kernel) rfl rfl ?_
        refine dr_stab 8 rfl rfl (Val.s (val_extract rfl rfl)) (by decide +kernel) rfl rfl ?_
        refine dr_stab 9 rfl rfl (Val.s (val_extract rfl rfl)) (by decide +kernel) rfl rfl ?_
        refine dr_stab 10 rfl rfl (Val.s (val_assign rfl)) (by decide +kernel) rfl rfl ?_
        refine dr_stab 11 rfl rfl (Val.s (val_assign rfl)) (by decide +kernel) rfl rfl ?_
        (refine dr_done (by decide +kernel) (by (apply le_of_picks; (repeat (first | exact Picks.nil | (apply Picks.cons; (· (repeat (first | exact Pick.here | apply Pick.there)))) | apply Picks.empty)))) ?_)
        refine fin_code ?_
        refine run_seq ?_
        refine run_seq ?_
        refine run_region rfl ?_
        refine op_move rfl rfl ?_
        (refine op_neIface rfl rfl ?_)
        refine ops_nil ?_
        refine fin_code ?_
        refine run_cond_f rfl ?_
        refine run_skip ?_
        refine fin_code ?_
        refine run_seq ?_
        refine run_region rfl ?_
        refine op_move rfl rfl ?_
        refine op_move rfl rfl ?_
        (refine op_slice1 rfl rfl (by first | rfl | simp [Value.cells]) (by decide) ?_; intro _ _)
        (apply op_append1; (· exact rfl); (· exact rfl); (· exact rfl); (· exact hown); (· (repeat (first | exact Pick.here | apply Pick.there))); (· (repeat (first | exact Has.here | apply Has.there))); (· exact rfl); (· first | exact onesC rfl | (intro u hu; simp [Value.cells] at hu; rcases hu with rfl | rfl | rfl | rfl | rfl | rfl <;> rfl) | (intro u hu; simp [Value.cells] at hu; rcases hu with rfl | rfl | rfl <;> rfl) | (intro u hu; simp [Value.cells] at hu; rcases hu with rfl | rfl <;> rfl) | (intro u hu; simp [Value.cells] at hu; subst hu; rfl)); (· omega); (· omega); (· exact rfl))
        intro v' l' hv
        refine op_assign rfl rfl ?_
        refine ops_nil ?_
        refine fin_code ?_
        refine run_seq ?_
        refine run_region rfl ?_
        refine op_move rfl rfl ?_
        ((first | (apply op_call; (· exact rfl)) | apply op_call0); (· exact rfl)); (case' hc => (refine fun w hG hw => popQ_any w B sv Q sl ?_ ?_ hQl hstk hw)); (case hp => (repeat (first | exact Picks.nil | (apply Picks.cons; (· (repeat (first | exact Pick.here | apply Pick.there)))) | apply Picks.empty)))
        · exact hgl.nowD hG hL0 hBw
        · exact newC hG (by (repeat (first | exact Pick.here | apply Pick.there))) hL0 hBw
        intro sv' ho'
        refine op_move rfl rfl ?_
        refine op_extract rfl rfl rfl ?_
        refine op_extract rfl rfl rfl ?_
        refine op_assign rfl rfl ?_
        (apply op_storeAll; (· exact rfl); (· exact rfl); (· exact rfl); (· first | exact r2_one _ _ | exact u2_one _ _); (· (repeat (first | exact Swap.here | apply Swap.there))); (· exact rfl))
        refine ops_nil ?_
        refine fin_code ?_
        refine run_exit ?_
        refine fin_exit_past rfl ?_
        refine fin_exit_inv ?_
        refine fin_exit_past rfl ?_
        refine fin_exit_here ?_
        have hk := QOk.emit (g := gs) hx rfl hal ho' (v := v') (l := l') hv
        refine fin_round ⟨G ++ [(gs, seqOf s e)], L ++ [(s, e)], Q, v', l', sv', sl, c0, c1, c2, c3, d0, d1, d2, d3⟩ ?_ (by (repeat (first | exact Sub.nil _ | (refine Sub.cons rfl ?_)))) ?_ hk.bufs
        · dsimp only; omega
        · show Le ([l', (G ++ [(gs, seqOf s e)]).map sqB, sl, _, _, _] : List Hp).flatten _
          rw [List.map_append, flat2]
          (apply le_of_picks; (repeat (first | exact Picks.nil | (apply Picks.cons; (· (repeat (first | exact Pick.here | apply Pick.there)))) | apply Picks.empty)))
end Go.Proofs.Eng
