/- A part of the proof: what functions of the program do, step by step. -/
import Derived.Test.YtjfpcckdelocpaaDoorZ9
set_option linter.unusedVariables false
set_option linter.unusedSimpArgs false
namespace Go.Proofs.Eng
open Go.RowKit
structure SeqR where
  v : Value
  l : Hp
  rs : List RowG
/-- What Sequences comes to. -/
structure SeqOk (lo hi : Nat) (x : SeqR) : Prop where
  own : Own 32 1 x.v x.rs.length (x.rs.map RowG.v) x.l
  row : ∀ r ∈ x.rs, r.Ok
  good : ∃ L, GoodL lo hi L ∧ x.rs.map RowG.q = L.map (fun p => seqOf p.1 p.2) ∧ L.length ≤ 4456448
theorem seqOf_len (s e : Nat) : (seqOf s e).length ≤ 4 := by
  unfold seqOf
  rw [List.length_zip]
  have := encN_len4 s
  omega
set_option maxRecDepth 100000 in
set_option maxHeartbeats 4000000 in
theorem sequences_any (w0 : World) (lo hi : Nat) (hle : lo ≤ hi) (hm : hi ≤ 1114111) (hgl : RdB w0 w0.heap.size 5 (r2 (65535, 0))) (hgl6 : RdB w0 w0.heap.size 6 [.int .u8 255, .int .u8 0]) :
    Calls Tryd.prog 8 #[.int .i32 lo, .int .i32 hi] w0 (Post w0 ([] : List Hp).flatten (fun x : SeqR => .tuple #[x.v, .bool true])
      (fun x => ([x.l, x.rs.flatMap RowG.l] : List Hp).flatten) (SeqOk lo hi)) := by
  refine enter [] Tryd.func8 rfl rfl (At.nil w0) (Le.refl _) ?_
  intro R hR
  refine run_seq ?_
  refine run_region rfl ?_
  refine op_assign rfl rfl ?_
  refine op_assign rfl rfl ?_
  refine ops_nil ?_
  refine fin_code ?_
  refine run_seq ?_
  refine run_region rfl ?_
  refine op_move rfl rfl ?_
  refine op_move rfl rfl ?_
  ((first | (apply op_call; (· exact rfl)) | apply op_call0); (· exact rfl)); (case' hc => (refine fun w hG hw => newSeq_any w lo hi hle hm ?_ ?_)); (case hp => (repeat (first | exact Picks.nil | (apply Picks.cons; (· (repeat (first | exact Pick.here | apply Pick.there)))) | apply Picks.empty)))
  · exact hgl.now hG
  · exact hgl6.now hG
  intro x hx
  obtain ⟨hgood, hsq, hown, hfew⟩ := hx
  obtain ⟨G, L, Q, v, l, sv, sl, a0, a1, a2, a3, b0, b1, b2, b3⟩ := x
  dsimp only at hgood hsq hown hfew ⊢
  obtain ⟨A, c, rfl⟩ := hown.isSlice
  have hGL : G.length = L.length := by simpa using congrArg List.length hsq
  have h4 : ∀ p ∈ G, p.2.length ≤ 4 := fun p hp => by
    have : p.2 ∈ G.map (·.2) := List.mem_map.2 ⟨p, hp, rfl⟩
    rw [hsq] at this
    obtain ⟨r, _, hr⟩ := List.mem_map.1 this
    rw [← hr]
    exact seqOf_len _ _
  refine op_move rfl rfl ?_
  refine op_extract rfl rfl rfl ?_
  refine op_extract rfl rfl rfl ?_
  refine op_assign rfl rfl ?_
  refine op_assign rfl rfl ?_
  refine ops_nil ?_
  refine fin_code ?_
  refine run_seq ?_
  refine run_seq ?_
  refine run_region rfl ?_
  refine op_move rfl rfl ?_
  refine op_len rfl rfl ?_
  refine op_move rfl rfl ?_
  refine ops_nil ?_
  refine fin_code ?_
  refine run_block ?_
  refine run_loop (α := Nat × Value × Hp × List RowG) (fun x => [(4, x.2.1), (7, .nilIface), (16, .slice A G.length c), (17, .int .i64 G.length), (18, .int .i64 (x.1 : Nat))]) (fun x => [l, G.map sqB, x.2.2.1, x.2.2.2.flatMap RowG.l])
    (fun x => x.1 ≤ G.length ∧ x.2.2.2.length = x.1 ∧ x.2.2.2.map RowG.q = (G.take x.1).map (·.2) ∧ (∀ r ∈ x.2.2.2, r.Ok) ∧ Own 32 1 x.2.1 x.1 (x.2.2.2.map RowG.v) x.2.2.1) (fun x => G.length - x.1)
    (0, .slice none 0 0, [], []) ⟨Nat.zero_le _, rfl, rfl, fun r hr => (by cases hr), Own.nil _ _⟩ (by (repeat (first | exact Sub.nil _ | (refine Sub.cons rfl ?_)))) (by (apply le_of_picks; (repeat (first | exact Picks.nil | (apply Picks.cons; (· (repeat (first | exact Pick.here | apply Pick.there)))) | apply Picks.empty)))) ?_
  rintro ⟨i, v2, l2, rs⟩ ⟨hi, hrl, hrq, hok, ho⟩
  dsimp only at hi hrl hrq hok ho ⊢
  by_cases h : i < G.length
  · obtain ⟨gl, cap, cur, hv, hl, _, _, _, hget0, _⟩ := hown.openN (by omega)
    simp only [Value.slice.injEq, true_and] at hv
    obtain ⟨rfl, rfl⟩ := hv
    subst hl
    have hget : aget cur i = some (.slice (some ⟨G[i].1, 0, none⟩) G[i].2.length G[i].2.length) := hget0 i _ (by simp [h]; rfl)
    have hmem : sqB G[i] ∈ G.map sqB := List.mem_map.2 ⟨_, List.getElem_mem h, rfl⟩
    have h4i := h4 _ (List.getElem_mem h)
    refine run_seq ?_
    refine run_region rfl ?_
    refine op_cmp_t rfl rfl rfl rfl (by first | (simp only [cmpP]; done) | (simp only [cmpP]; omega)) ?_
    refine ops_nil ?_
    refine fin_code ?_
    refine run_seq ?_
    refine run_cond_t rfl ?_
    refine run_skip ?_
    refine fin_code ?_
    refine run_seq ?_
    refine run_block ?_
    refine run_seq ?_
    refine run_region rfl ?_
    refine op_index rfl rfl rfl (by omega) (by first | (rw [Int.toNat_natCast, Nat.mul_one, Nat.zero_add]) | (rw [Int.toNat_natCast, Nat.mul_one]) | (rw [Int.toNat_natCast, Nat.zero_add]) | (rw [Int.toNat_natCast]) | exact rfl) ?_
    (apply op_load; (· exact rfl); (· exact rfl); (· apply cell_of_has; (· (repeat (first | exact Has.here | apply Has.there))); (· first | exact rfl | exact hget)))
    refine op_assign rfl rfl ?_
    refine ops_nil ?_
    refine fin_code ?_
    refine run_region rfl ?_
    refine op_move rfl rfl ?_
    refine op_move rfl rfl ?_
    ((first | (apply op_call; (· exact rfl)) | apply op_call0); (· exact rfl)); (case' hc => (refine fun w hG hw => bytesOf_any w G[i].1 G[i].2.length G[i].2 (by omega) ?_)); (case hp => (repeat (first | exact Picks.nil | (apply Picks.cons; (· (repeat (first | exact Pick.here | apply Pick.there)))) | apply Picks.empty)))
    · exact RdB.of (At.item hG.now (by (repeat (first | exact Pick.here | apply Pick.there)))) hmem
    rintro ⟨rv, rl⟩ hr
    dsimp only at hr ⊢
    obtain ⟨A', c', rfl⟩ := hr.isSlice
    (refine op_slice1 rfl rfl (by first | rfl | simp [Value.cells]) (by decide) ?_; intro _ _)
    (apply op_append1; (· exact rfl); (· exact rfl); (· exact rfl); (· exact ho); (· (repeat (first | exact Pick.here | apply Pick.there))); (· (repeat (first | exact Has.here | apply Has.there))); (· exact rfl); (· first | exact onesC rfl | (intro u hu; simp [Value.cells] at hu; rcases hu with rfl | rfl | rfl | rfl | rfl | rfl <;> rfl) | (intro u hu; simp [Value.cells] at hu; rcases hu with rfl | rfl | rfl <;> rfl) | (intro u hu; simp [Value.cells] at hu; rcases hu with rfl | rfl <;> rfl) | (intro u hu; simp [Value.cells] at hu; subst hu; rfl)); (· omega); (· omega); (· exact rfl))
    intro v' l' ho'
    refine op_assign rfl rfl ?_
    refine ops_nil ?_
    refine fin_block ?_
    refine fin_code ?_
    refine run_region rfl ?_
    refine op_add rfl rfl rfl (by simp only [kLo, kHi]; omega) ?_
    refine op_move rfl rfl ?_
    refine ops_nil ?_
    refine fin_round (i + 1, v', l', rs ++ [⟨.slice A' G[i].2.length c', rl, G[i].2⟩]) ?_ (by (repeat (first | exact Sub.nil _ | (refine Sub.cons rfl ?_)))) ?_ ⟨h, by simp [hrl], ?_, ?_, ?_⟩
    · dsimp only; omega
    · dsimp only
      rw [List.flatMap_append, flat4]
      show Le ([_, _, _, _, rl ++ []] : List Hp).flatten _
      rw [List.append_nil]
      (apply le_of_picks; (repeat (first | exact Picks.nil | (apply Picks.cons; (· (repeat (first | exact Pick.here | apply Pick.there)))) | apply Picks.empty)))
    · dsimp only
      rw [List.take_succ_eq_append_getElem h, List.map_append, List.map_append, hrq]; rfl
    · intro r hr'
      rcases List.mem_append.1 hr' with hr' | hr'
      · exact hok r hr'
      · simp at hr'; subst hr'; exact hr
    · dsimp only
      rw [List.map_append]
      exact ho'
  · obtain rfl : i = G.length := by omega
    rw [List.take_length] at hrq
    refine run_seq ?_
    refine run_region rfl ?_
    refine op_cmp_f rfl rfl rfl rfl (by first | (simp only [cmpP]; done) | (simp only [cmpP]; omega)) ?_
    refine ops_nil ?_
    refine fin_code ?_
    refine run_seq ?_
    refine run_cond_f rfl ?_
    refine run_exit ?_
    refine fin_exit_code ?_
    refine fin_exit_inv ?_
    refine fin_exit_here ?_
    refine fin_code ?_
    refine run_seq ?_
    refine run_drawS [] (by kernel_rfl) ?_
    refine dr_stab 0 rfl rfl (Val.s (val_move rfl)) (by decide +kernel) rfl rfl ?_
    refine dr_stab 1 rfl rfl (Val.s (val_move rfl)) (by decide +kernel) rfl rfl ?_
    (apply dr_stab 2; (· exact rfl); (· exact rfl); (· apply Val.s; exact val_eqIface rfl); (· decide +kernel); (· exact rfl); (· exact rfl))
    refine dr_stab 3 rfl rfl (Val.s (val_assign rfl)) (by decide +kernel) rfl rfl ?_
    refine dr_stab 4 rfl rfl (Val.s (val_assign rfl)) (by decide +kernel) rfl rfl ?_
    (refine dr_done (by decide +kernel) (by (apply le_of_picks; (repeat (first | exact Picks.nil | (apply Picks.cons; (· (repeat (first | exact Pick.here | apply Pick.there)))) | apply Picks.empty)))) ?_)
    refine fin_code ?_
    refine run_ret ?_
    refine fin_ret2 rfl rfl rfl ?_
    intro w' g'
    exact hR _ _ (post_of g' ⟨v2, l2, rs⟩ ⟨by dsimp only; rw [hrl]; exact ho, hok, L, hgood, by dsimp only; rw [hrq, hsq], hfew⟩ rfl (by (apply le_of_picks; (repeat (first | exact Picks.nil | (apply Picks.cons; (· (repeat (first | exact Pick.here | apply Pick.there)))) | apply Picks.empty)))))
end Go.Proofs.Eng
