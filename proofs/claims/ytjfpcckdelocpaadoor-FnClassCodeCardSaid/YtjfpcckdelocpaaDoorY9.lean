/- A part of the proof: what functions of the program do, step by step. -/
import Derived.Test.YtjfpcckdelocpaaDoorY8b
set_option linter.unusedVariables false
set_option linter.unusedSimpArgs false
namespace Go.Proofs.Eng
open Go.RowKit
section
variable (q sz : Nat) (g1 g2 : Nat)
theorem coOk0 : CoOk ⟨.slice none 0 0, [], [], 16⟩ [] := ⟨⟨by simp, Nat.le_refl _, by simp, rfl, fun _ => rfl⟩, Own.nil _ _⟩
structure ClS where
  y : CoS
  L : List (Nat × Nat)
  sq : Value
  sv : Value
set_option maxRecDepth 100000 in
set_option maxHeartbeats 16000000 in
theorem classR_any (w : World) (lo hi : Nat) (hle : lo ≤ hi) (hlo : isL lo) (hm : hi ≤ 1114111) (u0 u1 u2 u3 u4 u5 u6 u7 : Value) (B : Nat) (hBw : B ≤ w.heap.size) (hB0 : B ≤ q) (hB1 : B ≤ g1) (hB2 : B ≤ g2) (hgl : RdB w B 5 (r2 (65535, 0))) (hgl6 : RdB w B 6 [.int .u8 255, .int .u8 0])
    (hw : At w ([coB q sz (.slice none 0 0) (.slice none 0 0) (.slice none 0 0) (.slice none 0 0) g1 g2, [⟨g1, .cells #[u0, u1, u2, u3] 5 (0, 0)⟩], [⟨g2, .cells #[u4, u5, u6, u7] 5 (0, 0)⟩]] : List Hp).flatten) :
    Calls Tryd.prog 64 #[.pointer (some ⟨q, 0, none⟩), .int .i32 lo, .int .i32 hi] w (Post w ([coB q sz (.slice none 0 0) (.slice none 0 0) (.slice none 0 0) (.slice none 0 0) g1 g2, [⟨g1, .cells #[u0, u1, u2, u3] 5 (0, 0)⟩], [⟨g2, .cells #[u4, u5, u6, u7] 5 (0, 0)⟩]] : List Hp).flatten (fun _ : ClS => .nilIface)
      (fun z => (coH q sz z.sq z.sv g1 g2 z.y).flatten) (fun z => GoodL lo hi z.L ∧ z.L.length ≤ 17409 ∧ CoOk z.y (prC (prLen (z.L.map (fun p => seqOf p.1 p.2))) 0 (z.L.map (fun p => seqOf p.1 p.2))))) := by
  refine enter [coB q sz (.slice none 0 0) (.slice none 0 0) (.slice none 0 0) (.slice none 0 0) g1 g2, [⟨g1, .cells #[u0, u1, u2, u3] 5 (0, 0)⟩], [⟨g2, .cells #[u4, u5, u6, u7] 5 (0, 0)⟩]] Tryd.func64 rfl rfl hw (Le.refl _) ?_
  intro R hR
  have hL0 : ∀ k ∈ ids ([coB q sz (.slice none 0 0) (.slice none 0 0) (.slice none 0 0) (.slice none 0 0) g1 g2, [⟨g1, .cells #[u0, u1, u2, u3] 5 (0, 0)⟩], [⟨g2, .cells #[u4, u5, u6, u7] 5 (0, 0)⟩]] : List Hp).flatten, B ≤ k := by
    intro k hk
    simp [ids, coB] at hk
    rcases hk with rfl | rfl | rfl <;> assumption
  dsimp only [coB] at hR ⊢
  refine run_seq ?_
  refine run_region rfl ?_
  refine op_assign rfl rfl ?_
  refine ops_nil ?_
  refine fin_code ?_
  refine run_seq ?_
  refine run_drawS [] (by kernel_rfl) ?_
  refine dr_stab 0 rfl rfl (Val.s (val_move rfl)) (by decide +kernel) rfl rfl ?_
  refine dr_stab 1 rfl rfl (Val.s (val_move rfl)) (by decide +kernel) rfl rfl ?_
  refine dr_stab 2 rfl rfl (Val.s (val_move rfl)) (by decide +kernel) rfl rfl ?_
  refine dr_stab 3 rfl rfl (Val.s (val_move rfl)) (by decide +kernel) rfl rfl ?_
  refine dr_stab 4 rfl rfl (Val.s (val_move rfl)) (by decide +kernel) rfl rfl ?_
  refine dr_stab 5 rfl rfl (Val.s (val_nilCheck rfl)) (by decide +kernel) rfl rfl ?_
  refine dr_stab 6 rfl rfl (Val.s (val_fieldAddr rfl)) (by decide +kernel) rfl rfl ?_
  refine dr_stab 8 rfl rfl (Val.s (val_move rfl)) (by decide +kernel) rfl rfl ?_
  refine dr_stab 9 rfl rfl (Val.s (val_nilCheck rfl)) (by decide +kernel) rfl rfl ?_
  refine dr_stab 10 rfl rfl (Val.s (val_fieldAddr rfl)) (by decide +kernel) rfl rfl ?_
  refine dr_stab 12 rfl rfl (Val.s (val_move rfl)) (by decide +kernel) rfl rfl ?_
  refine dr_stab 13 rfl rfl (Val.s (val_nilCheck rfl)) (by decide +kernel) rfl rfl ?_
  refine dr_stab 14 rfl rfl (Val.s (val_fieldAddr rfl)) (by decide +kernel) rfl rfl ?_
  refine dr_stab 16 rfl rfl (Val.s (val_move rfl)) (by decide +kernel) rfl rfl ?_
  refine dr_stab 17 rfl rfl (Val.s (val_nilCheck rfl)) (by decide +kernel) rfl rfl ?_
  refine dr_stab 18 rfl rfl (Val.s (val_fieldAddr rfl)) (by decide +kernel) rfl rfl ?_
  (apply dr_read 7; (· exact rfl); (· exact rfl); (· (first | (apply val_load; (· exact rfl); (· apply cell_of_has; (· (repeat (first | exact Has.here | apply Has.there))); (· first | exact rfl | exact hgo | exact hgo2))) | fail)); (· decide +kernel); (· exact rfl); (· exact rfl))
  (apply dr_read 11; (· exact rfl); (· exact rfl); (· (first | (apply val_load; (· exact rfl); (· apply cell_of_has; (· (repeat (first | exact Has.here | apply Has.there))); (· first | exact rfl | exact hgo | exact hgo2))) | fail)); (· decide +kernel); (· exact rfl); (· exact rfl))
  (apply dr_read 15; (· exact rfl); (· exact rfl); (· (first | (apply val_load; (· exact rfl); (· apply cell_of_has; (· (repeat (first | exact Has.here | apply Has.there))); (· first | exact rfl | exact hgo | exact hgo2))) | fail)); (· decide +kernel); (· exact rfl); (· exact rfl))
  (apply dr_read 19; (· exact rfl); (· exact rfl); (· (first | (apply val_load; (· exact rfl); (· apply cell_of_has; (· (repeat (first | exact Has.here | apply Has.there))); (· first | exact rfl | exact hgo | exact hgo2))) | fail)); (· decide +kernel); (· exact rfl); (· exact rfl))
  (refine dr_one 20 rfl (by decide +kernel) (by (apply le_of_picks; (repeat (first | exact Picks.nil | (apply Picks.cons; (· (repeat (first | exact Pick.here | apply Pick.there)))) | apply Picks.empty)))) ?_)
  have PR := fun w hBw hgl hgl6 hw => prealloc2_any w lo hi hle hm g1 g2 u0 u1 u2 u3 u4 u5 u6 u7 B hBw hB1 hB2 hgl hgl6 hw
  ((first | (apply op_call; (· exact rfl)) | apply op_call0); (· exact rfl)); (case' hc => (refine fun w hG hw => PR w ?_ ?_ ?_ hw)); (case hp => (repeat (first | exact Picks.nil | (apply Picks.cons; (· (repeat (first | exact Pick.here | apply Pick.there)))) | apply Picks.empty)))
  · exact Nat.le_trans hBw hG.size
  · exact hgl.nowD hG hL0 hBw
  · exact hgl6.nowD hG hL0 hBw
  rintro ⟨G, L, Q, v, l, sv, sl, a0, a1, a2, a3, b0, b1, b2, b3⟩ ⟨hgood, hsq, hown, hfew, hsv1⟩
  dsimp only at hgood hsq hown hfew hsv1 ⊢
  obtain ⟨A, c, rfl⟩ := hown.isSlice
  refine ops_nil ?_
  refine fin_draw ?_
  refine dr_stab 21 rfl rfl (Val.s (val_move rfl)) (by decide +kernel) rfl rfl ?_
  refine dr_stab 22 rfl rfl (Val.s (val_extract rfl rfl)) (by decide +kernel) rfl rfl ?_
  refine dr_stab 23 rfl rfl (Val.s (val_extract rfl rfl)) (by decide +kernel) rfl rfl ?_
  refine dr_stab 24 rfl rfl (Val.s (val_extract rfl rfl)) (by decide +kernel) rfl rfl ?_
  refine dr_stab 25 rfl rfl (Val.s (val_nilCheck rfl)) (by decide +kernel) rfl rfl ?_
  refine dr_stab 26 rfl rfl (Val.s (val_fieldAddr rfl)) (by decide +kernel) rfl rfl ?_
  (refine dr_one 27 rfl (by decide +kernel) (by (apply le_of_picks; (repeat (first | exact Picks.nil | (apply Picks.cons; (· (repeat (first | exact Pick.here | apply Pick.there)))) | apply Picks.empty)))) ?_)
  (apply op_store; (· exact rfl); (· exact rfl); (· exact rfl); (· (repeat (first | exact Swap.here | apply Swap.there))); (· first | decide | (simp; done) | (simp; omega) | assumption))
  refine ops_nil ?_
  refine fin_draw ?_
  refine dr_stab 28 rfl rfl (Val.s (val_nilCheck rfl)) (by decide +kernel) rfl rfl ?_
  refine dr_stab 29 rfl rfl (Val.s (val_fieldAddr rfl)) (by decide +kernel) rfl rfl ?_
  (refine dr_one 30 rfl (by decide +kernel) (by (apply le_of_picks; (repeat (first | exact Picks.nil | (apply Picks.cons; (· (repeat (first | exact Pick.here | apply Pick.there)))) | apply Picks.empty)))) ?_)
  (apply op_store; (· exact rfl); (· exact rfl); (· exact hsv1); (· (repeat (first | exact Swap.here | apply Swap.there))); (· first | decide | (simp; done)))
  refine ops_nil ?_
  refine fin_draw ?_
  refine dr_stab 31 rfl rfl (Val.s (val_assign rfl)) (by decide +kernel) rfl rfl ?_
  (refine dr_done (by decide +kernel) (by (apply le_of_picks; (repeat (first | exact Picks.nil | (apply Picks.cons; (· (repeat (first | exact Pick.here | apply Pick.there)))) | apply Picks.empty)))) ?_)
  have hal := fun p (hp : p ∈ L) => (hgood.al p hp).1
  have hne : L ≠ [] := by
    obtain ⟨p, hp, _⟩ := hgood.all lo hlo (Nat.le_refl _) hle
    intro e
    rw [e] at hp
    cases hp
  have hS4 : ∀ s ∈ L.map (fun p => seqOf p.1 p.2), s.length ≤ 4 ∧ ∀ x ∈ s, x.1 ≤ 255 ∧ x.2 ≤ 255 := by
    intro s hs
    obtain ⟨p, hp, rfl⟩ := List.mem_map.1 hs
    have := hal p hp
    exact ⟨seqOf_len _ _, seqOf_255 (Nat.le_trans this.le this.most) this.most⟩
  have hSl : (L.map (fun p => seqOf p.1 p.2)).length = G.length := by rw [← hsq]; simp
  have hGl : G.length = L.length := by rw [← hSl]; simp
  have hLp : 0 < L.length := List.length_pos_iff.2 hne
  obtain ⟨m, hm1⟩ : ∃ m, G.length = m + 1 := ⟨G.length - 1, by omega⟩
  obtain ⟨S, hS⟩ : ∃ S, S = L.map (fun p => seqOf p.1 p.2) := ⟨_, rfl⟩
  rw [← hS] at hSl hS4 hsq
  clear hal hne
  refine fin_code ?_
  refine run_seq ?_
  refine run_seq ?_
  refine run_region rfl ?_
  refine op_move rfl rfl ?_
  (refine op_neIface rfl rfl ?_)
  refine ops_nil ?_
  refine fin_code ?_
  refine run_cond_f rfl ?_
  refine run_skip ?_
  refine fin_code ?_
  refine run_seq ?_
  refine run_region rfl ?_
  refine op_move rfl rfl ?_
  refine op_nilCheck rfl rfl ?_
  refine op_fieldAddr rfl rfl ?_
  (apply op_load; (· exact rfl); (· exact rfl); (· apply cell_of_has; (· (repeat (first | exact Has.here | apply Has.there))); (· first | exact rfl | exact hgo | exact hgo2)))
  refine op_len rfl rfl ?_
  refine op_sub rfl rfl rfl (by simp only [kLo, kHi]; omega) ?_
  (refine op_makeR 0 m rfl rfl rfl rfl (by omega) (Nat.zero_le _) (by omega) (by omega) ?_; intro _ _)
  refine op_assign rfl rfl ?_
  refine ops_nil ?_
  refine fin_code ?_
  refine run_seq ?_
  refine run_seq ?_
  refine run_region rfl ?_
  refine op_assign rfl rfl ?_
  refine ops_nil ?_
  refine fin_code ?_
  refine run_block ?_
  rename_i gj _
  obtain ⟨gA, capA, curA, hv1, hl1, _, _, hzA, hcurA, _⟩ := hown.openN (by omega)
  simp only [Value.slice.injEq] at hv1
  obtain ⟨rfl, _, rfl⟩ := hv1
  subst hl1
  have hGi : ∀ i (h : i < G.length), aget curA i = some (sqV G[i]) := fun i h => hcurA i _ (by simp [h])
  have hGS : ∀ i (h : i < G.length), G[i].2 = S[i]'(by omega) := fun i h => by
    subst hsq
    simp
  have hmax : (1000000 : Nat) ≤ maxLen := by decide
  have hjo00 : Own 46 1 (.slice (some ⟨gj, 0, none⟩) 0 m) 0 (u64L []) [⟨gj, .cells (List.replicate m (Value.int .u64 0)).toArray 46 (0, 0)⟩] :=
    ⟨rfl, .inr ⟨gj, m, _, rfl, rfl, Nat.zero_le _, by omega, by simp, rfl⟩⟩
  have hjc : (List.replicate m (Value.int .u64 0).cells.toList).flatten.toArray = (List.replicate m (Value.int .u64 0)).toArray := by
    congr 1
    simp [Value.cells]
  rw [hjc]
  refine run_loop (α := Nat × CoS × Value × Hp) (fun x => [(0, .pointer (some ⟨q, 0, none⟩)), (7, x.2.2.1), (8, .int .i64 (x.1 : Nat))])
    (fun x => [coB q sz x.2.1.v (restP x.2.1.M x.2.1.r) (.slice (some ⟨gA, 0, none⟩) G.length c) sv g1 g2, x.2.1.lr, x.2.1.M.map poB, [⟨gA, .cells curA 64 (0, 0)⟩], G.map sqB, x.2.2.2])
    (fun x => x.1 ≤ m ∧ CoOk x.2.1 (cblk 0 0 (S.take x.1)) ∧ Own 46 1 x.2.2.1 x.1 (u64L (jmpsOf 0 (S.take x.1))) x.2.2.2) (fun x => m - x.1)
    (0, ⟨.slice none 0 0, [], [], 16⟩, .slice (some ⟨gj, 0, none⟩) 0 m, [⟨gj, .cells (List.replicate m (Value.int .u64 0)).toArray 46 (0, 0)⟩])
    ⟨Nat.zero_le _, coOk0, hjo00⟩ (by (repeat (first | exact Sub.nil _ | (refine Sub.cons rfl ?_)))) (by dsimp only [coB, List.map]; (apply le_of_picks; (repeat (first | exact Picks.nil | (apply Picks.cons; (· (repeat (first | exact Pick.here | apply Pick.there)))) | apply Picks.empty)))) ?_
  clear hjo00
  rintro ⟨i, ⟨v, lr, M, r⟩, jv, jl⟩ ⟨hi, hco, hjo⟩
  dsimp only at hi hco hjo ⊢
  have hSle : (S.take i).length ≤ 17409 := by rw [List.length_take]; omega
  have hcle := cbLen_le (S := S.take i) (fun s hs => (hS4 s (List.mem_of_mem_take hs)).1)
  have hcl := cb_len 0 (S.take i) 0
  by_cases him : i < m
  · have hiG : i < G.length := by omega
    obtain ⟨G1, G2, hGe⟩ : ∃ G1 G2, G = G1 ++ G[i] :: G2 := ⟨G.take i, G.drop (i + 1), by rw [List.getElem_cons_drop, List.take_append_drop]⟩
    have hgo := hGi i hiG
    have hgs := hGS i hiG
    have hsi := hS4 _ (List.getElem_mem (show i < S.length by omega))
    have htk : S.take (i + 1) = S.take i ++ [S[i]'(by omega)] := List.take_succ_eq_append_getElem (by omega)
    generalize G[i] = x at hGe hgo hgs
    rw [← hgs] at hsi htk
    obtain ⟨gs, s⟩ := x
    dsimp only at hgs hsi htk
    clear hgs
    obtain ⟨A0, c0, rfl⟩ := hco.row.isSlice
    generalize hl0 : cblk 0 0 (S.take i) = l0 at *
    have SP := fun w hw => split_any q sz (.slice (some ⟨gA, 0, none⟩) G.length c) sv g1 g2 w ⟨.slice A0 l0.length c0, lr, M, r⟩ l0 hco (by omega) hw
    dsimp only [coH] at SP
    refine Run.weaken (Ls' := [coB q sz (.slice A0 l0.length c0) (restP M r) (.slice (some ⟨gA, 0, none⟩) G.length c) sv g1 g2, lr, M.map poB, [⟨gA, .cells curA 64 (0, 0)⟩], G1.map sqB, [sqB (gs, s)], G2.map sqB, jl]) ?_ (Sub.refl _) (by rw [hGe, flatG]; exact Le.refl _)
    dsimp only [coB] at SP ⊢
    refine run_seq ?_
    refine run_seq ?_
    refine run_region rfl ?_
    refine op_move rfl rfl ?_
    refine op_move rfl rfl ?_
    refine op_nilCheck rfl rfl ?_
    refine op_fieldAddr rfl rfl ?_
    (apply op_load; (· exact rfl); (· exact rfl); (· apply cell_of_has; (· (repeat (first | exact Has.here | apply Has.there))); (· first | exact rfl | exact hgo | exact hgo2)))
    refine op_len rfl rfl ?_
    refine op_sub rfl rfl rfl (by simp only [kLo, kHi]; omega) ?_
    refine op_cmp_t rfl rfl rfl rfl (by first | (simp only [cmpP]; done) | (simp only [cmpP]; omega)) ?_
    refine ops_nil ?_
    refine fin_code ?_
    refine run_cond_t rfl ?_
    refine run_skip ?_
    refine fin_code ?_
    refine run_seq ?_
    refine run_block ?_
    refine run_seq ?_
    refine run_region rfl ?_
    refine op_move rfl rfl ?_
    refine op_nilCheck rfl rfl ?_
    refine op_fieldAddr rfl rfl ?_
    (apply op_load; (· exact rfl); (· exact rfl); (· apply cell_of_has; (· (repeat (first | exact Has.here | apply Has.there))); (· first | exact rfl | exact hgo | exact hgo2)))
    refine op_move rfl rfl ?_
    refine op_index rfl rfl rfl (by omega) (by first | (rw [Int.toNat_natCast, Nat.mul_one, Nat.zero_add]) | (rw [Int.toNat_natCast, Nat.mul_one]) | (rw [Int.toNat_natCast, Nat.zero_add]) | (rw [Int.toNat_natCast]) | exact rfl) ?_
    (apply op_load; (· exact rfl); (· exact rfl); (· apply cell_of_has; (· (repeat (first | exact Has.here | apply Has.there))); (· first | exact rfl | exact hgo | exact hgo2)))
    refine op_assign rfl rfl ?_
    refine ops_nil ?_
    refine fin_code ?_
    refine run_seq ?_
    refine run_region rfl ?_
    refine op_move rfl rfl ?_
    ((first | (apply op_call; (· exact rfl)) | apply op_call0); (· exact rfl); rotate_left 1; (· exact fun w hG hw => SP w hw); rotate_right 1; (· (repeat (first | exact Picks.nil | (apply Picks.cons; (· (repeat (first | exact Pick.here | apply Pick.there)))) | apply Picks.empty))))
    rintro ⟨v1, lr1, M1, r1⟩ hco1
    dsimp only at hco1 ⊢
    obtain ⟨A1, c1, rfl⟩ := hco1.row.isSlice
    have hn1 : (l0 ++ [(⟨2, 0, 0, 0, 0, 0⟩ : In)]).length = cbLen (S.take i) + 1 := by rw [List.length_append, hcl]; rfl
    generalize hl1 : l0 ++ [(⟨2, 0, 0, 0, 0, 0⟩ : In)] = l1 at *
    have T1 := fun w hw => top_any q sz (.slice (some ⟨gA, 0, none⟩) G.length c) sv g1 g2 w A1 l1.length c1 (restP M1 r1) (by omega) hw
    have RG := fun w hw => ranges_any q sz (.slice (some ⟨gA, 0, none⟩) G.length c) sv g1 g2 w ⟨.slice A1 l1.length c1, lr1, M1, r1⟩ l1 gs s hco1 hsi.1 hsi.2 (by omega) hw
    dsimp only [coH, coB, sqV, List.cons_append, List.nil_append] at T1 RG
    dsimp only [sqV]
    refine op_assign rfl rfl ?_
    refine ops_nil ?_
    refine fin_code ?_
    refine run_seq ?_
    refine run_region rfl ?_
    refine op_move rfl rfl ?_
    ((first | (apply op_call; (· exact rfl)) | apply op_call0); (· exact rfl); rotate_left 1; (· exact fun w hG hw => T1 w hw); rotate_right 1; (· (repeat (first | exact Picks.nil | (apply Picks.cons; (· (repeat (first | exact Pick.here | apply Pick.there)))) | apply Picks.empty))))
    intro _ _
    refine op_assign rfl rfl ?_
    refine ops_nil ?_
    refine fin_code ?_
    refine run_seq ?_
    refine run_region rfl ?_
    refine op_move rfl rfl ?_
    refine op_move rfl rfl ?_
    ((first | (apply op_call; (· exact rfl)) | apply op_call0); (· exact rfl); rotate_left 1; (· exact fun w hG hw => RG w hw); rotate_right 1; (· (repeat (first | exact Picks.nil | (apply Picks.cons; (· (repeat (first | exact Pick.here | apply Pick.there)))) | apply Picks.empty))))
    rintro ⟨v2, lr2, M2, r2'⟩ hco2
    dsimp only at hco2 ⊢
    obtain ⟨A2, c2, rfl⟩ := hco2.row.isSlice
    have hn2 : (l1 ++ rng s).length = cbLen (S.take i) + 1 + s.length := by rw [List.length_append, hn1]; simp [rng]
    have hs4 := hsi.1
    generalize hl2 : l1 ++ rng s = l2 at *
    have JP := fun w hw => jump_any q sz (.slice (some ⟨gA, 0, none⟩) G.length c) sv g1 g2 w ⟨.slice A2 l2.length c2, lr2, M2, r2'⟩ l2 hco2 (by omega) hw
    dsimp only [coH, coB] at JP
    refine ops_nil ?_
    refine fin_code ?_
    refine run_seq ?_
    refine run_region rfl ?_
    refine op_move rfl rfl ?_
    refine op_move rfl rfl ?_
    ((first | (apply op_call; (· exact rfl)) | apply op_call0); (· exact rfl); rotate_left 1; (· exact fun w hG hw => JP w hw); rotate_right 1; (· (repeat (first | exact Picks.nil | (apply Picks.cons; (· (repeat (first | exact Pick.here | apply Pick.there)))) | apply Picks.empty))))
    rintro ⟨v3, lr3, M3, r3⟩ hco3
    dsimp only at hco3 ⊢
    obtain ⟨A3, c3, rfl⟩ := hco3.row.isSlice
    have hn3 : (l2 ++ [(⟨1, 0, 0, 0, 0, 0⟩ : In)]).length = cbLen (S.take i) + s.length + 2 := by rw [List.length_append, hn2, List.length_singleton]; omega
    generalize hl3 : l2 ++ [(⟨1, 0, 0, 0, 0, 0⟩ : In)] = l3 at *
    have T3 := fun w hw => top_any q sz (.slice (some ⟨gA, 0, none⟩) G.length c) sv g1 g2 w A3 l3.length c3 (restP M3 r3) (by omega) hw
    have hop : l3[l0.length]? = some ⟨2, 0, 0, 0, 0, 0⟩ := by
      rw [← hl3, ← hl2, ← hl1]
      simp
    have SS := fun w hw => setSplit_any q sz (.slice (some ⟨gA, 0, none⟩) G.length c) sv g1 g2 w ⟨.slice A3 l3.length c3, lr3, M3, r3⟩ l3 l0.length l1.length l3.length hco3 (by omega) hop (by omega) (by omega) (by omega) hw
    have hfin : l3.set l0.length ⟨2, 0, l1.length, l3.length, 0, 0⟩ = cblk 0 0 (S.take (i + 1)) := by
      rw [hn1, hn3, ← hl3, ← hl2, ← hl1, htk, cb_append, Nat.zero_add, hl0, hcl]
      exact cb_step l0 s _ hcl
    rw [hfin] at SS
    dsimp only [coH, coB] at T3 SS
    (refine op_slice1 rfl rfl (by first | rfl | simp [Value.cells]) (by decide) ?_; intro _ _)
    (apply op_append1; (· exact rfl); (· exact rfl); (· exact rfl); (· exact hjo); (· (repeat (first | exact Pick.here | apply Pick.there))); (· (repeat (first | exact Has.here | apply Has.there))); (· exact rfl); (· first | exact onesC rfl | (intro u hu; simp [Value.cells] at hu; rcases hu with rfl | rfl | rfl | rfl | rfl | rfl <;> rfl) | (intro u hu; simp [Value.cells] at hu; rcases hu with rfl | rfl | rfl <;> rfl) | (intro u hu; simp [Value.cells] at hu; rcases hu with rfl | rfl <;> rfl) | (intro u hu; simp [Value.cells] at hu; subst hu; rfl)); (· omega); (· omega); (· exact rfl))
    intro jv' jl' hjo'
    refine op_assign rfl rfl ?_
    refine ops_nil ?_
    refine fin_code ?_
    refine run_seq ?_
    refine run_region rfl ?_
    refine op_move rfl rfl ?_
    ((first | (apply op_call; (· exact rfl)) | apply op_call0); (· exact rfl); rotate_left 1; (· exact fun w hG hw => T3 w hw); rotate_right 1; (· (repeat (first | exact Picks.nil | (apply Picks.cons; (· (repeat (first | exact Pick.here | apply Pick.there)))) | apply Picks.empty))))
    intro _ _
    refine op_assign rfl rfl ?_
    refine ops_nil ?_
    refine fin_code ?_
    refine run_region rfl ?_
    refine op_move rfl rfl ?_
    refine op_move rfl rfl ?_
    refine op_move rfl rfl ?_
    refine op_move rfl rfl ?_
    ((first | (apply op_call; (· exact rfl)) | apply op_call0); (· exact rfl); rotate_left 1; (· exact fun w hG hw => SS w hw); rotate_right 1; (· (repeat (first | exact Picks.nil | (apply Picks.cons; (· (repeat (first | exact Pick.here | apply Pick.there)))) | apply Picks.empty))))
    rintro ⟨v4, lr4, M4, r4⟩ hco4
    dsimp only at hco4 ⊢
    refine ops_nil ?_
    refine fin_block ?_
    refine fin_code ?_
    refine run_region rfl ?_
    refine op_move rfl rfl ?_
    refine op_add rfl rfl rfl (by simp only [kLo, kHi]; omega) ?_
    refine op_assign rfl rfl ?_
    refine ops_nil ?_
    refine fin_round (i + 1, ⟨v4, lr4, M4, r4⟩, jv', jl') (by dsimp only; omega) (by (repeat (first | exact Sub.nil _ | (refine Sub.cons rfl ?_)))) (by dsimp only; rw [hGe, flatG]; (apply le_of_picks; (repeat (first | exact Picks.nil | (apply Picks.cons; (· (repeat (first | exact Pick.here | apply Pick.there)))) | apply Picks.empty)))) ⟨by dsimp only; omega, hco4, ?_⟩
    dsimp only
    rw [htk, jmpsOf_append, Nat.zero_add]
    have e : u64L (jmpsOf 0 (S.take i) ++ jmpsOf (cbLen (S.take i)) [s]) = u64L (jmpsOf 0 (S.take i)) ++ [Value.int .u64 l2.length] := by
      rw [hn2, show cbLen (S.take i) + 1 + s.length = cbLen (S.take i) + s.length + 1 by omega]
      simp [u64L, jmpsOf]
    rw [e]
    simpa [Value.cells] using hjo'
  · obtain rfl : i = m := by omega
    have hiG : i < G.length := by omega
    obtain ⟨G1, G2, hGe⟩ : ∃ G1 G2, G = G1 ++ G[i] :: G2 := ⟨G.take i, G.drop (i + 1), by rw [List.getElem_cons_drop, List.take_append_drop]⟩
    have hgo := hGi i hiG
    have hgs := hGS i hiG
    have hsi := hS4 _ (List.getElem_mem (show i < S.length by omega))
    have htk : S = S.take i ++ [S[i]'(by omega)] := by
      conv => lhs; rw [← List.take_append_drop i S]
      rw [List.drop_eq_getElem_cons (by omega), List.drop_of_length_le (by omega)]
    generalize G[i] = x at hGe hgo hgs
    rw [← hgs] at hsi htk
    obtain ⟨gs, s⟩ := x
    dsimp only at hgs hsi htk
    clear hgs
    obtain ⟨A0, c0, rfl⟩ := hco.row.isSlice
    generalize hl0 : cblk 0 0 (S.take i) = l0 at *
    refine Run.weaken (Ls' := [coB q sz (.slice A0 l0.length c0) (restP M r) (.slice (some ⟨gA, 0, none⟩) G.length c) sv g1 g2, lr, M.map poB, [⟨gA, .cells curA 64 (0, 0)⟩], G1.map sqB, [sqB (gs, s)], G2.map sqB, jl]) ?_ (Sub.refl _) (by rw [hGe, flatG]; exact Le.refl _)
    have RG := fun w hw => ranges_any q sz (.slice (some ⟨gA, 0, none⟩) G.length c) sv g1 g2 w ⟨.slice A0 l0.length c0, lr, M, r⟩ l0 gs s hco hsi.1 hsi.2 (by omega) hw
    dsimp only [coH, coB, sqV, List.cons_append, List.nil_append] at RG
    dsimp only [sqV] at hgo
    have hgo2 : aget curA (0 + ((G.length : Int) - 1).toNat * 1) = some (Value.slice (some ⟨gs, 0, none⟩) s.length s.length) := by
      rw [show 0 + ((G.length : Int) - 1).toNat * 1 = i by omega]
      exact hgo
    dsimp only [coB]
    refine run_seq ?_
    refine run_seq ?_
    refine run_region rfl ?_
    refine op_move rfl rfl ?_
    refine op_move rfl rfl ?_
    refine op_nilCheck rfl rfl ?_
    refine op_fieldAddr rfl rfl ?_
    (apply op_load; (· exact rfl); (· exact rfl); (· apply cell_of_has; (· (repeat (first | exact Has.here | apply Has.there))); (· first | exact rfl | exact hgo | exact hgo2)))
    refine op_len rfl rfl ?_
    refine op_sub rfl rfl rfl (by simp only [kLo, kHi]; omega) ?_
    refine op_cmp_f rfl rfl rfl rfl (by first | (simp only [cmpP]; done) | (simp only [cmpP]; omega)) ?_
    refine ops_nil ?_
    refine fin_code ?_
    refine run_cond_f rfl ?_
    refine run_exit ?_
    refine fin_exit_code ?_
    refine fin_exit_inv ?_
    refine fin_exit_here ?_
    refine fin_code ?_
    refine run_seq ?_
    refine run_drawS [] (by kernel_rfl) ?_
    refine dr_stab 0 rfl rfl (Val.s (val_move rfl)) (by decide +kernel) rfl rfl ?_
    refine dr_stab 1 rfl rfl (Val.s (val_move rfl)) (by decide +kernel) rfl rfl ?_
    refine dr_stab 2 rfl rfl (Val.s (val_nilCheck rfl)) (by decide +kernel) rfl rfl ?_
    refine dr_stab 3 rfl rfl (Val.s (val_fieldAddr rfl)) (by decide +kernel) rfl rfl ?_
    refine dr_stab 5 rfl rfl (Val.s (val_move rfl)) (by decide +kernel) rfl rfl ?_
    refine dr_stab 6 rfl rfl (Val.s (val_nilCheck rfl)) (by decide +kernel) rfl rfl ?_
    refine dr_stab 7 rfl rfl (Val.s (val_fieldAddr rfl)) (by decide +kernel) rfl rfl ?_
    (apply dr_read 8; (· exact rfl); (· exact rfl); (· (first | (apply val_load; (· exact rfl); (· apply cell_of_has; (· (repeat (first | exact Has.here | apply Has.there))); (· first | exact rfl | exact hgo | exact hgo2))) | fail)); (· decide +kernel); (· exact rfl); (· exact rfl))
    refine dr_stab 9 rfl rfl (Val.s (val_len rfl)) (by decide +kernel) rfl rfl ?_
    refine dr_stab 10 rfl rfl (Val.s (val_sub rfl rfl (by simp only [kLo, kHi]; omega))) (by decide +kernel) rfl rfl ?_
    (apply dr_read 4; (· exact rfl); (· exact rfl); (· (first | (apply val_load; (· exact rfl); (· apply cell_of_has; (· (repeat (first | exact Has.here | apply Has.there))); (· first | exact rfl | exact hgo | exact hgo2))) | fail)); (· decide +kernel); (· exact rfl); (· exact rfl))
    refine dr_stab 11 rfl rfl (Val.s (val_index rfl rfl (by omega) (by first | (rw [Int.toNat_natCast, Nat.mul_one, Nat.zero_add]) | (rw [Int.toNat_natCast, Nat.mul_one]) | (rw [Int.toNat_natCast, Nat.zero_add]) | (rw [Int.toNat_natCast]) | exact rfl))) (by decide +kernel) rfl rfl ?_
    (apply dr_read 12; (· exact rfl); (· exact rfl); (· (first | (apply val_load; (· exact rfl); (· apply cell_of_has; (· (repeat (first | exact Has.here | apply Has.there))); (· first | exact rfl | exact hgo | exact hgo2))) | fail)); (· decide +kernel); (· exact rfl); (· exact rfl))
    (refine dr_one 13 rfl (by decide +kernel) (by (apply le_of_picks; (repeat (first | exact Picks.nil | (apply Picks.cons; (· (repeat (first | exact Pick.here | apply Pick.there)))) | apply Picks.empty)))) ?_)
    ((first | (apply op_call; (· exact rfl)) | apply op_call0); (· exact rfl); rotate_left 1; (· exact fun w hG hw => RG w hw); rotate_right 1; (· (repeat (first | exact Picks.nil | (apply Picks.cons; (· (repeat (first | exact Pick.here | apply Pick.there)))) | apply Picks.empty))))
    rintro ⟨v2, lr2, M2, r2'⟩ hco2
    dsimp only at hco2 ⊢
    obtain ⟨A2, c2, rfl⟩ := hco2.row.isSlice
    refine ops_nil ?_
    refine fin_draw ?_
    have hn2 : (l0 ++ rng s).length = prLen S := by
      conv => rhs; rw [htk]
      rw [prLen_cb, List.length_append, hcl]
      simp [rng]
    have hs4 := hsi.1
    have hE := hn2
    rw [List.length_append, hcl, show (rng s).length = s.length by simp [rng]] at hE
    generalize hl2 : l0 ++ rng s = l2 at *
    have T2 := fun w hw => top_any q sz (.slice (some ⟨gA, 0, none⟩) G.length c) sv g1 g2 w A2 l2.length c2 (restP M2 r2') (by omega) hw
    dsimp only [coB] at T2
    (refine dr_done (by decide +kernel) (by (apply le_of_picks; (repeat (first | exact Picks.nil | (apply Picks.cons; (· (repeat (first | exact Pick.here | apply Pick.there)))) | apply Picks.empty)))) ?_)
    refine fin_code ?_
    refine run_seq ?_
    refine run_region rfl ?_
    refine op_move rfl rfl ?_
    ((first | (apply op_call; (· exact rfl)) | apply op_call0); (· exact rfl); rotate_left 1; (· exact fun w hG hw => T2 w hw); rotate_right 1; (· (repeat (first | exact Picks.nil | (apply Picks.cons; (· (repeat (first | exact Pick.here | apply Pick.there)))) | apply Picks.empty))))
    intro _ _
    obtain ⟨Aj, cj, rfl⟩ := hjo.isSlice
    refine op_assign rfl rfl ?_
    refine ops_nil ?_
    refine fin_code ?_
    refine run_seq ?_
    refine run_seq ?_
    refine run_region rfl ?_
    refine op_move rfl rfl ?_
    refine op_len rfl rfl ?_
    refine op_move rfl rfl ?_
    refine ops_nil ?_
    refine fin_code ?_
    refine run_block ?_
    have hTl : (S.take i).length = i := by rw [List.length_take]; omega
    have hl2' : l2 = cblk (prLen S) 0 ((S.take i).take 0) ++ cblk 0 (cbLen ((S.take i).take 0)) ((S.take i).drop 0) ++ rng s := by
      rw [← hl2, ← hl0]
      simp [cblk, cbLen]
    rw [hn2]
    generalize hEq : prLen S = E at *
    have hSd : prC E 0 S = cblk E 0 (S.take i) ++ rng s := by
      conv => lhs; rw [htk]
      exact prC_cb E s (S.take i) 0
    have hlS : cbLen (S.take i) + s.length = E := hE
    obtain ⟨T, hT⟩ : ∃ T, T = S.take i := ⟨_, rfl⟩
    rw [← hT] at hTl hl2' hSd hlS hjo hcle
    have hjg : ∀ k (h : k < T.length), (jmpsOf 0 T)[k]? = some (cbLen (T.take k) + T[k].length + 1) := fun k h => jmps_get h
    have hn2' := hn2
    refine run_loop (α := Nat × CoS) (fun x => [(0, .pointer (some ⟨q, 0, none⟩)), (13, .int .u64 E), (107, .slice Aj i cj), (108, .int .i64 i), (109, .int .i64 (x.1 : Nat))])
      (fun x => [coB q sz x.2.v (restP x.2.M x.2.r) (.slice (some ⟨gA, 0, none⟩) G.length c) sv g1 g2, x.2.lr, x.2.M.map poB, jl])
      (fun x => x.1 ≤ i ∧ CoOk x.2 (cblk E 0 (T.take x.1) ++ cblk 0 (cbLen (T.take x.1)) (T.drop x.1) ++ rng s)) (fun x => i - x.1) (0, ⟨.slice A2 l2.length c2, lr2, M2, r2'⟩) ⟨Nat.zero_le _, by dsimp only; rw [← hl2']; exact hco2⟩ (by (repeat (first | exact Sub.nil _ | (refine Sub.cons rfl ?_)))) (by dsimp only [coB]; rw [hn2]; (apply le_of_picks; (repeat (first | exact Picks.nil | (apply Picks.cons; (· (repeat (first | exact Pick.here | apply Pick.there)))) | apply Picks.empty)))) ?_
    clear hco2
    rintro ⟨k, ⟨v3, lr3, M3, r3⟩⟩ ⟨hk, hco3⟩
    dsimp only at hk hco3 ⊢
    have hcl3 : (cblk E 0 (T.take k) ++ cblk 0 (cbLen (T.take k)) (T.drop k) ++ rng s).length = E := by
      have h1 := cbLen_append (T.take k) (T.drop k)
      rw [List.take_append_drop] at h1
      rw [List.length_append, List.length_append, cb_len, cb_len]
      simp only [rng, List.length_map]
      omega
    by_cases hki : k < i
    · obtain ⟨gj2, capj, curj, hvj, hlj, _, _, hzj, hcurj, _⟩ := hjo.openN (by omega)
      simp only [Value.slice.injEq] at hvj
      obtain ⟨rfl, _, rfl⟩ := hvj
      subst hlj
      have hgo := hcurj k _ (by unfold u64L; rw [List.getElem?_map, hjg k (by omega)]; rfl)
      have hTk : T.drop k = T[k]'(by omega) :: T.drop (k + 1) := List.drop_eq_getElem_cons (by omega)
      have htk1 : T.take (k + 1) = T.take k ++ [T[k]'(by omega)] := List.take_succ_eq_append_getElem (by omega)
      have hlk := cb_len E (T.take k) 0
      have hcs := cb_set E (T[k]'(by omega)) (T.drop (k + 1)) (cblk E 0 (T.take k)) (rng s)
      rw [hlk, ← hTk] at hcs
      have hnx : cblk E 0 (T.take k) ++ cblk E (cbLen (T.take k)) [T[k]'(by omega)] ++ cblk 0 (cbLen (T.take k) + (T[k]'(by omega)).length + 2) (T.drop (k + 1)) ++ rng s = cblk E 0 (T.take (k + 1)) ++ cblk 0 (cbLen (T.take (k + 1))) (T.drop (k + 1)) ++ rng s := by
        rw [htk1, cb_append, cbLen_append, Nat.zero_add]
        simp [cbLen, Nat.add_assoc]
      rw [hnx] at hcs
      have hop := cb_get (T[k]'(by omega)) (T.drop (k + 1)) (cblk E 0 (T.take k)) (rng s)
      rw [hlk, ← hTk] at hop
      have hsum := cbLen_append (T.take k) (T.drop k)
      rw [List.take_append_drop, hTk] at hsum
      simp only [cbLen] at hsum
      have SJ := fun w hw => setJump_any q sz (.slice (some ⟨gA, 0, none⟩) G.length c) sv g1 g2 w ⟨v3, lr3, M3, r3⟩ _ (cbLen (T.take k) + (T[k]'(by omega)).length + 1) E hco3 (by rw [hcl3]; omega) hop (by rw [hcl3]; omega) (by omega) hw
      rw [hcs] at SJ
      dsimp only [coH, coB] at SJ ⊢
      refine run_seq ?_
      refine run_region rfl ?_
      refine op_cmp_t rfl rfl rfl rfl (by first | (simp only [cmpP]; done) | (simp only [cmpP]; omega)) ?_
      refine ops_nil ?_
      refine fin_code ?_
      refine run_seq ?_
      refine run_cond_t rfl ?_
      refine run_skip ?_
      refine fin_code ?_
      refine run_seq ?_
      refine run_block ?_
      refine run_seq ?_
      refine run_region rfl ?_
      refine op_index rfl rfl rfl (by omega) (by first | (rw [Int.toNat_natCast, Nat.mul_one, Nat.zero_add]) | (rw [Int.toNat_natCast, Nat.mul_one]) | (rw [Int.toNat_natCast, Nat.zero_add]) | (rw [Int.toNat_natCast]) | exact rfl) ?_
      (apply op_load; (· exact rfl); (· exact rfl); (· apply cell_of_has; (· (repeat (first | exact Has.here | apply Has.there))); (· first | exact rfl | exact hgo | exact hgo2)))
      refine op_assign rfl rfl ?_
      refine ops_nil ?_
      refine fin_code ?_
      refine run_region rfl ?_
      refine op_move rfl rfl ?_
      refine op_move rfl rfl ?_
      refine op_move rfl rfl ?_
      ((first | (apply op_call; (· exact rfl)) | apply op_call0); (· exact rfl); rotate_left 1; (· exact fun w hG hw => SJ w hw); rotate_right 1; (· (repeat (first | exact Picks.nil | (apply Picks.cons; (· (repeat (first | exact Pick.here | apply Pick.there)))) | apply Picks.empty))))
      rintro ⟨v4, lr4, M4, r4⟩ hco4
      dsimp only at hco4 ⊢
      refine ops_nil ?_
      refine fin_block ?_
      refine fin_code ?_
      refine run_region rfl ?_
      refine op_add rfl rfl rfl (by simp only [kLo, kHi]; omega) ?_
      refine op_move rfl rfl ?_
      refine ops_nil ?_
      refine fin_round (k + 1, ⟨v4, lr4, M4, r4⟩) (by dsimp only; omega) (by (repeat (first | exact Sub.nil _ | (refine Sub.cons rfl ?_)))) (by (apply le_of_picks; (repeat (first | exact Picks.nil | (apply Picks.cons; (· (repeat (first | exact Pick.here | apply Pick.there)))) | apply Picks.empty)))) ⟨by dsimp only; omega, hco4⟩
    · obtain rfl : k = i := by omega
      rw [List.take_of_length_le (by omega), List.drop_of_length_le (by omega)] at hco3
      simp only [cblk, List.append_nil] at hco3
      rw [← hSd] at hco3
      refine run_seq ?_
      refine run_region rfl ?_
      refine op_cmp_f rfl rfl rfl rfl (by first | (simp only [cmpP]; done) | (simp only [cmpP]; omega)) ?_
      refine ops_nil ?_
      refine fin_code ?_
      refine run_seq ?_
      refine run_cond_f rfl ?_
      refine run_exit ?_
      refine fin_exit_code ?_
      refine fin_exit_inv ?_
      refine fin_exit_here ?_
      refine fin_code ?_
      refine run_seq ?_
      refine run_region rfl ?_
      refine op_assign rfl rfl ?_
      refine ops_nil ?_
      refine fin_code ?_
      refine run_ret ?_
      refine fin_ret1 rfl rfl ?_
      intro w' g'
      refine hR _ _ (post_of g' ⟨⟨v3, lr3, M3, r3⟩, L, _, sv⟩ ⟨hgood, hfew, ?_⟩ rfl (by dsimp only [coH, coB]; (apply le_of_picks; (repeat (first | exact Picks.nil | (apply Picks.cons; (· (repeat (first | exact Pick.here | apply Pick.there)))) | apply Picks.empty)))))
      dsimp only
      rw [← hS, hEq]
      exact hco3
end
end Go.Proofs.Eng
