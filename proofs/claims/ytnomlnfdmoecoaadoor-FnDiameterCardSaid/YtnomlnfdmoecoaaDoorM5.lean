/- A part of the proof: what functions of the program do, step by step. -/
import Derived.Test.YtnomlnfdmoecoaaDoorM4
set_option linter.unusedVariables false
set_option linter.unusedSimpArgs false
namespace Go.Proofs.Eng
open Go.RowKit
set_option maxRecDepth 100000 in
set_option maxHeartbeats 16000000 in
theorem nfa_any (w : World) (p md : Nat) (dam : Bool) (hmd : md ≤ 2) (K : Nat → Int) (kv : List Value) (B : Nat) (hBw : B ≤ w.heap.size) (hBp : B ≤ p)
    (hK : RdB w B 1 kv) (hkv : ∀ i, i < 64 → kv[i]? = some (.int .u32 (K i)))
    (hw : At w ([laB p md dam] : List Hp).flatten) :
    Calls Tryd.prog 19 #[.pointer (some ⟨p, 0, none⟩)] w (Post w ([laB p md dam] : List Hp).flatten (fun x : Nat × Value × Value × Hp × Nat => .tuple #[.pointer (some ⟨x.1, 0, none⟩), .nilIface])
      (fun x => ([[⟨x.1, .cells #[x.2.1, x.2.2.1, .int .u8 md, .int .u32 (nChi md : Nat), .int .u32 (2 * md + 1 : Nat)] 55 (0, 0)⟩], x.2.2.2.1] : List Hp).flatten)
      (fun x => EndS (hashF K) md dam x.2.2.2.2 ∧ Own 58 2 x.2.2.1 (x.2.2.2.2 * nChi md) ((runFS (hashF K) md dam (x.2.2.2.2 * nChi md)).tr.flatMap trV) x.2.2.2.1)) := by
  refine enter [laB p md dam] Tryd.func19 rfl rfl hw (Le.refl _) ?_
  intro R hR
  have hL0 : ∀ k ∈ ids ([laB p md dam] : List Hp).flatten, B ≤ k := by
    intro k hk
    simp [ids, laB] at hk
    subst hk
    exact hBp
  obtain ⟨W, hW⟩ : ∃ W, W = nChi md := ⟨_, rfl⟩
  obtain ⟨D, hD⟩ : ∃ D, D = 2 * md + 1 := ⟨_, rfl⟩
  obtain ⟨hW2, hW32⟩ := nChi_le hmd
  have hshl := nChi_shl hmd
  rw [← hW] at hW2 hW32 hshl hR
  rw [← hD] at hR
  have hDi : (2 * (md : Int) + 1) = ((D : Nat) : Int) := by omega
  rw [hDi] at hshl
  have hWD : W * D ≤ 32 * 5 := Nat.mul_le_mul hW32 (by omega)
  have hso := start_ok (hashF K) (dam := dam) hmd
  refine run_seq ?_
  refine run_region rfl ?_
  refine op_assign rfl rfl ?_
  refine op_assign rfl rfl ?_
  refine ops_nil ?_
  refine fin_code ?_
  refine run_seq ?_
  refine run_region rfl ?_
  ((first | (apply op_call; (· exact rfl)) | apply op_call0); (· exact rfl); rotate_left 1; (· exact fun w hG hw => newHash_any w K); rotate_right 1; (· (repeat (first | exact Picks.nil | (apply Picks.cons; (· (repeat (first | exact Pick.here | apply Pick.there)))) | apply Picks.empty))))
  rintro ⟨q, mb, vI, lI⟩ hI
  dsimp only at hI ⊢
  refine op_assign rfl rfl ?_
  refine ops_nil ?_
  refine fin_code ?_
  refine run_seq ?_
  refine run_region rfl ?_
  refine op_move rfl rfl ?_
  ((first | (apply op_call; (· exact rfl)) | apply op_call0); (· exact rfl); rotate_left 1; (· exact fun w hG hw => newMS_any w); rotate_right 1; (· (repeat (first | exact Picks.nil | (apply Picks.cons; (· (repeat (first | exact Pick.here | apply Pick.there)))) | apply Picks.empty))))
  rintro ⟨q1, A1, c1, l1⟩ h1
  dsimp only [msB] at h1 ⊢
  refine op_nilCheck rfl rfl ?_
  (apply op_loadAll; (· exact rfl); (· exact rfl); (· (repeat (first | exact Has.here | apply Has.there))); (· exact rfl))
  ((first | (apply op_call; (· exact rfl)) | apply op_call0); (· exact rfl)); (case' hc => (refine fun w hG hw => goa_any w q mb vI lI [] [] (.slice A1 0 c1) l1 K kv B ?_ hI h1 (by decide) (by simp) (by rw [hsK_len]; decide) ?_ hkv ?_ hw)); (case hp => (repeat (first | exact Picks.nil | (apply Picks.cons; (· (repeat (first | exact Pick.here | apply Pick.there)))) | apply Picks.empty)))
  · exact Nat.le_trans hBw hG.size
  · exact RdB.nowD hK hG hL0 hBw
  · exact Goes.lowB hG hL0 hBw
  rintro ⟨vI2, lI2⟩ hI2
  dsimp only at hI2 ⊢
  refine ops_nil ?_
  refine fin_code ?_
  refine run_seq ?_
  refine run_region rfl ?_
  refine op_move rfl rfl ?_
  ((first | (apply op_call; (· exact rfl)) | apply op_call0); (· exact rfl); rotate_left 1; (· exact fun w hG hw => initS_any w p); rotate_right 1; (· (repeat (first | exact Picks.nil | (apply Picks.cons; (· (repeat (first | exact Pick.here | apply Pick.there)))) | apply Picks.empty))))
  rintro ⟨q2, v2, l2⟩ h2
  dsimp only [msB] at h2 ⊢
  have g1 := gT_goa K [] ([], .slice A1 0 c1, l1)
  have g2 := gT_len K [] ([], .slice A1 0 c1, l1)
  have g3 : ItOk (gT K [] ([], .slice A1 0 c1, l1)) := ItOk.nil.add h1
  generalize gT K [] ([], .slice A1 0 c1, l1) = its1 at *
  dsimp only [List.map_nil, List.length_nil] at g1 g2
  refine op_assign rfl rfl ?_
  refine ops_nil ?_
  refine fin_code ?_
  refine run_seq ?_
  refine run_region rfl ?_
  refine op_move rfl rfl ?_
  refine op_move rfl rfl ?_
  refine op_nilCheck rfl rfl ?_
  (apply op_loadAll; (· exact rfl); (· exact rfl); (· (repeat (first | exact Has.here | apply Has.there))); (· exact rfl))
  ((first | (apply op_call; (· exact rfl)) | apply op_call0); (· exact rfl)); (case' hc => (refine fun w hG hw => goa_any w q mb vI2 lI2 its1 initP v2 l2 K kv B ?_ hI2 h2 (by decide) (by decide) (by rw [hsK_len]; omega) ?_ hkv ?_ hw)); (case hp => (repeat (first | exact Picks.nil | (apply Picks.cons; (· (repeat (first | exact Pick.here | apply Pick.there)))) | apply Picks.empty)))
  · exact Nat.le_trans hBw hG.size
  · exact RdB.nowD hK hG hL0 hBw
  · exact Goes.lowB hG hL0 hBw
  rintro ⟨vI3, lI3⟩ hI3
  dsimp only at hI3 ⊢
  have k1 := gT_goa K its1 (initP, v2, l2)
  have k3 : ItOk (gT K its1 (initP, v2, l2)) := g3.add h2
  generalize gT K its1 (initP, v2, l2) = its2 at *
  rw [g1] at k1
  dsimp only at k1
  have k4 : its2.map (·.1) = (runFS (hashF K) md dam 0).items := by
    rw [run_zero]
    exact k1
  clear g1 g2 g3 h1 h2 hI hI2 k1
  refine ops_nil ?_
  refine fin_code ?_
  refine run_seq ?_
  refine run_region rfl ?_
  refine op_move rfl rfl ?_
  ((first | (apply op_call; (· exact rfl)) | apply op_call0); (· exact rfl); rotate_left 1; (· exact fun w hG hw => maxD_any w p md dam hw); rotate_right 1; (· (repeat (first | exact Picks.nil | (apply Picks.cons; (· (repeat (first | exact Pick.here | apply Pick.there)))) | apply Picks.empty))))
  intro _ _
  refine op_assign rfl rfl ?_
  refine ops_nil ?_
  refine fin_code ?_
  refine run_seq ?_
  refine run_region rfl ?_
  refine op_move rfl rfl ?_
  ((first | (apply op_call; (· exact rfl)) | apply op_call0); (· exact rfl); rotate_left 1; (· exact fun w hG hw => diam_any w p md dam (by omega) hw); rotate_right 1; (· (repeat (first | exact Picks.nil | (apply Picks.cons; (· (repeat (first | exact Pick.here | apply Pick.there)))) | apply Picks.empty))))
  intro _ _
  rw [hDi]
  refine op_assign rfl rfl ?_
  refine ops_nil ?_
  refine fin_code ?_
  refine run_seq ?_
  refine run_region rfl ?_
  refine op_move rfl rfl ?_
  (refine op_shlE rfl rfl rfl (by omega) hshl ?_)
  refine op_assign rfl rfl ?_
  refine ops_nil ?_
  refine fin_code ?_
  refine run_seq ?_
  refine run_region rfl ?_
  refine op_move rfl rfl ?_
  refine op_makeR W W rfl rfl rfl rfl rfl (Nat.le_refl _) (by omega) (by omega) ?_
  intro gc hgc
  rw [chiV_zero]
  refine op_assign rfl rfl ?_
  refine ops_nil ?_
  refine fin_code ?_
  refine run_seq ?_
  refine run_seq ?_
  refine run_region rfl ?_
  refine op_assign rfl rfl ?_
  refine ops_nil ?_
  refine fin_code ?_
  refine run_block ?_
  refine run_loop (α := Nat) (fun i => [(0, .pointer (some ⟨p, 0, none⟩)), (4, .pointer (some ⟨q, 0, none⟩)), (6, .int .u8 md), (7, .int .u8 (D : Nat)), (8, .int .i64 (W : Nat)), (9, .slice (some ⟨gc, 0, none⟩) W W), (10, .int .i64 (i : Nat))])
    (fun i => [laB p md dam, [⟨q, .cells #[.map (some mb), vI3] 74 (0, 0)⟩], [⟨mb, .map (entsF 0 (hsK K its2)).toArray (hsK K its2).length⟩], lI3, itB its2, [⟨gc, .cells (chiV W i).toArray 27 (0, 0)⟩]]) (fun i => i ≤ W) (fun i => W - i) 0 (Nat.zero_le _) (by (repeat (first | exact Sub.nil _ | (refine Sub.cons rfl ?_)))) (by (apply le_of_picks; (repeat (first | exact Picks.nil | (apply Picks.cons; (· (repeat (first | exact Pick.here | apply Pick.there)))) | apply Picks.empty)))) ?_
  intro i hi
  by_cases hiW : i < W
  · have hst := chiV_set W i hiW
    have hsz : True → i < (chiV W i).toArray.size := fun _ => by
      have := chiV_len W i hi
      simp only [List.size_toArray]
      omega
    refine run_seq ?_
    refine run_seq ?_
    refine run_region rfl ?_
    refine op_move rfl rfl ?_
    refine op_move rfl rfl ?_
    refine op_cmp_t rfl rfl rfl rfl (by first | (simp only [cmpP]; done) | (simp only [cmpP]; omega)) ?_
    refine ops_nil ?_
    refine fin_code ?_
    refine run_cond_t rfl ?_
    refine run_skip ?_
    refine fin_code ?_
    refine run_seq ?_
    refine run_block ?_
    refine run_region rfl ?_
    refine op_move rfl rfl ?_
    refine op_move rfl rfl ?_
    refine op_move rfl rfl ?_
    refine op_conv rfl rfl (by simp only [kLo, kHi]; omega) ?_
    refine op_index rfl rfl rfl (by omega) (by first | (rw [Int.toNat_natCast, Nat.mul_one, Nat.zero_add]) | (rw [Int.toNat_natCast, Nat.mul_one]) | (rw [Int.toNat_natCast, Nat.zero_add]) | (rw [Int.toNat_natCast]) | exact rfl) ?_
    (refine op_storeX hst rfl rfl rfl (by (repeat (first | exact Swap.here | apply Swap.there))) (hsz trivial) ?_)
    refine ops_nil ?_
    refine fin_block ?_
    refine fin_code ?_
    refine run_region rfl ?_
    refine op_move rfl rfl ?_
    refine op_add rfl rfl rfl (by simp only [kLo, kHi]; omega) ?_
    refine op_assign rfl rfl ?_
    refine ops_nil ?_
    refine fin_round (i + 1) (by omega) (by (repeat (first | exact Sub.nil _ | (refine Sub.cons rfl ?_)))) (by (apply le_of_picks; (repeat (first | exact Picks.nil | (apply Picks.cons; (· (repeat (first | exact Pick.here | apply Pick.there)))) | apply Picks.empty)))) hiW
  obtain rfl : W = i := by omega
  clear hi hiW
  refine run_seq ?_
  refine run_seq ?_
  refine run_region rfl ?_
  refine op_move rfl rfl ?_
  refine op_move rfl rfl ?_
  refine op_cmp_f rfl rfl rfl rfl (by first | (simp only [cmpP]; done) | (simp only [cmpP]; omega)) ?_
  refine ops_nil ?_
  refine fin_code ?_
  refine run_cond_f rfl ?_
  refine run_exit ?_
  refine fin_exit_code ?_
  refine fin_exit_inv ?_
  refine fin_exit_here ?_
  refine fin_code ?_
  refine run_seq ?_
  refine run_region rfl ?_
  refine op_move rfl rfl ?_
  refine op_move rfl rfl ?_
  refine op_conv rfl rfl (by simp only [kLo, kHi]; omega) ?_
  (refine op_mulN rfl rfl rfl (by simp only [kHi]; omega) ?_)
  refine op_makeR 0 (W * D) rfl rfl rfl rfl rfl (Nat.zero_le _) (by omega) (by omega) ?_
  intro gt hgt
  have hT0 : Own 58 2 (.slice (some ⟨gt, 0, none⟩) 0 (W * D)) (0 * W) ((runFS (hashF K) md dam (0 * W)).tr.flatMap trV) [⟨gt, .cells ((List.replicate (W * D) (Value.agg #[.int .u32 0, .int .u32 0]).cells.toList).flatten).toArray 58 (0, 0)⟩] := by
    rw [Nat.zero_mul]
    exact ⟨rfl, .inr ⟨gt, W * D, _, rfl, rfl, Nat.zero_le _, by simp only [maxLen]; omega, by simp [Value.cells], by simp [runFS, startFS]⟩⟩
  refine op_assign rfl rfl ?_
  refine ops_nil ?_
  refine fin_code ?_
  refine run_seq ?_
  refine run_region rfl ?_
  refine op_assign rfl rfl ?_
  refine ops_nil ?_
  refine fin_code ?_
  refine run_seq ?_
  refine run_seq ?_
  refine run_region rfl ?_
  refine op_assign rfl rfl ?_
  refine ops_nil ?_
  refine fin_code ?_
  refine run_block ?_
  refine run_loop (α := Nat × List It × Value × Hp × Value × Hp) (fun x => [(0, .pointer (some ⟨p, 0, none⟩)), (4, .pointer (some ⟨q, 0, none⟩)), (6, .int .u8 md), (7, .int .u8 (D : Nat)), (8, .int .i64 (W : Nat)), (9, .slice (some ⟨gc, 0, none⟩) W W), (11, x.2.2.2.2.1), (12, .int .i64 (x.1 : Nat))])
    (fun x => [laB p md dam, [⟨q, .cells #[.map (some mb), x.2.2.1] 74 (0, 0)⟩], [⟨mb, .map (entsF 0 (hsK K x.2.1)).toArray (hsK K x.2.1).length⟩], x.2.2.2.1, itB x.2.1, [⟨gc, .cells (chiV W W).toArray 27 (0, 0)⟩], x.2.2.2.2.2])
    (fun x => x.1 ≤ x.2.1.length ∧ (∀ m, m < x.1 → (runFS (hashF K) md dam (m * W)).items.length ≠ m) ∧ x.2.1.map (·.1) = (runFS (hashF K) md dam (x.1 * W)).items ∧ ItOk x.2.1 ∧ Own 67 1 x.2.2.1 (hsK K x.2.1).length (itV x.2.1) x.2.2.2.1 ∧ Own 58 2 x.2.2.2.2.1 (x.1 * W) ((runFS (hashF K) md dam (x.1 * W)).tr.flatMap trV) x.2.2.2.2.2)
    (fun x => 10000 - x.1) (0, its2, vI3, lI3, _, _) ⟨Nat.zero_le _, (fun m hm => by omega), (by rw [Nat.zero_mul]; exact k4), k3, hI3, hT0⟩ (by (repeat (first | exact Sub.nil _ | (refine Sub.cons rfl ?_)))) (by (apply le_of_picks; (repeat (first | exact Picks.nil | (apply Picks.cons; (· (repeat (first | exact Pick.here | apply Pick.there)))) | apply Picks.empty)))) ?_
  clear hT0 hI3 k3 k4 hso
  rintro ⟨s, its, vI, lI, vT, lT⟩ ⟨hs1, hs2, hs3, hs4, hs5, hs6⟩
  dsimp only at hs1 hs2 hs3 hs4 hs5 hs6 ⊢
  obtain ⟨hn1, hn2, hn3⟩ := items_len K hmd (s * W) its hs3
  have hh := hsK_len K its
  obtain ⟨AI, cI, rfl⟩ := hs5.isSlice
  by_cases hse : s = its.length
  · obtain ⟨AT, cT, rfl⟩ := hs6.isSlice
    have hend : EndS (hashF K) md dam s := ⟨by rw [← hW, ← hn1, hse], by rw [← hW]; exact hs2⟩
    have hDL : D * (hsK K its).length ≤ 5 * 68 := Nat.mul_le_mul (by omega) (by omega)
    refine run_seq ?_
    refine run_seq ?_
    refine run_region rfl ?_
    refine op_move rfl rfl ?_
    refine op_cmp_t rfl rfl rfl rfl (by first | (simp only [cmpP]; done) | (simp only [cmpP]; omega)) ?_
    refine ops_nil ?_
    refine fin_code ?_
    refine run_cond_t rfl ?_
    refine run_skip ?_
    refine fin_code ?_
    refine run_seq ?_
    refine run_block ?_
    refine run_seq ?_
    refine run_seq ?_
    refine run_region rfl ?_
    refine op_move rfl rfl ?_
    refine op_move rfl rfl ?_
    refine op_nilCheck rfl rfl ?_
    refine op_fieldAddr rfl rfl ?_
    (apply op_load; (· exact rfl); (· exact rfl); (· apply cell_of_has; (· (repeat (first | exact Has.here | apply Has.there))); (· first | exact rfl | exact hgo)))
    refine op_len rfl rfl ?_
    refine op_cmp_t rfl rfl rfl rfl (by first | (simp only [cmpP]; done) | (simp only [cmpP]; omega)) ?_
    refine ops_nil ?_
    refine fin_code ?_
    refine run_cond_t rfl ?_
    refine run_exit ?_
    refine fin_exit_code ?_
    refine fin_exit_past rfl ?_
    refine fin_exit_code ?_
    refine fin_exit_inv ?_
    refine fin_exit_here ?_
    refine fin_code ?_
    refine run_seq ?_
    refine run_seq ?_
    refine run_region rfl ?_
    refine op_move rfl rfl ?_
    refine op_cmp_f rfl rfl rfl rfl (by first | (simp only [cmpP]; done) | (simp only [cmpP]; omega)) ?_
    refine ops_nil ?_
    refine fin_code ?_
    refine run_cond_f rfl ?_
    refine run_skip ?_
    refine fin_code ?_
    refine run_seq ?_
    refine run_region rfl ?_
    refine op_move rfl rfl ?_
    refine op_nilCheck rfl rfl ?_
    refine op_fieldAddr rfl rfl ?_
    (apply op_load; (· exact rfl); (· exact rfl); (· apply cell_of_has; (· (repeat (first | exact Has.here | apply Has.there))); (· first | exact rfl | exact hgo)))
    refine op_len rfl rfl ?_
    refine op_assign rfl rfl ?_
    refine ops_nil ?_
    refine fin_code ?_
    refine run_seq ?_
    refine run_region rfl ?_
    refine op_move rfl rfl ?_
    refine op_conv rfl rfl (by simp only [kLo, kHi]; omega) ?_
    refine op_assign rfl rfl ?_
    refine ops_nil ?_
    refine fin_code ?_
    refine run_seq ?_
    refine run_region rfl ?_
    refine op_move rfl rfl ?_
    refine op_move rfl rfl ?_
    (refine op_mulN rfl rfl rfl (by simp only [kHi]; omega) ?_)
    refine op_makeR 0 (D * (hsK K its).length) rfl rfl rfl rfl rfl (Nat.zero_le _) (by omega) (by omega) ?_
    intro gd hgd
    have hD0 : Own 5 1 (.slice (some ⟨gd, 0, none⟩) 0 (D * (hsK K its).length)) (0 * D) [] [⟨gd, .cells ((List.replicate (D * (hsK K its).length) (Value.int .u8 0).cells.toList).flatten).toArray 5 (0, 0)⟩] := by
      rw [Nat.zero_mul]
      exact ⟨rfl, .inr ⟨gd, D * (hsK K its).length, _, rfl, rfl, Nat.zero_le _, by simp only [maxLen]; omega, by simp [Value.cells], by simp⟩⟩
    refine op_assign rfl rfl ?_
    refine ops_nil ?_
    refine fin_code ?_
    refine run_seq ?_
    refine run_seq ?_
    refine run_region rfl ?_
    refine op_assign rfl rfl ?_
    refine ops_nil ?_
    refine fin_code ?_
    refine run_block ?_
    refine run_loop (α := Nat × Value × Hp × List Value) (fun x => [(0, .pointer (some ⟨p, 0, none⟩)), (4, .pointer (some ⟨q, 0, none⟩)), (6, .int .u8 md), (7, .int .u8 (D : Nat)), (8, .int .i64 (W : Nat)), (11, .slice AT (s * W) cT), (19, .int .i64 ((hsK K its).length : Nat)), (20, .int .i64 (D : Nat)), (21, x.2.1), (22, .int .i64 (x.1 : Nat))])
      (fun x => itB its :: [laB p md dam, [⟨q, .cells #[.map (some mb), .slice AI (hsK K its).length cI] 74 (0, 0)⟩], lI, lT, x.2.2.1])
      (fun x => x.1 ≤ its.length ∧ Own 5 1 x.2.1 (x.1 * D) x.2.2.2 x.2.2.1) (fun x => its.length - x.1) (0, _, _, []) ⟨Nat.zero_le _, hD0⟩ (by (repeat (first | exact Sub.nil _ | (refine Sub.cons rfl ?_)))) (by (apply le_of_picks; (repeat (first | exact Picks.nil | (apply Picks.cons; (· (repeat (first | exact Pick.here | apply Pick.there)))) | apply Picks.empty)))) ?_
    clear hD0
    rintro ⟨i, vD, lD, xs⟩ ⟨hi1, hi2⟩
    dsimp only at hi1 hi2 ⊢
    by_cases hil : i < its.length
    · obtain ⟨gI, cI', spI, hvI, rfl, _, _, _, _⟩ := hs5.open (by omega)
      cases hvI
      have hcc : aget (itV its ++ spI).toArray i = some its[i].2.1 := aget_pre (itV_get its i hil)
      have hbn := set_bn hmd (hn3 its[i] (List.getElem_mem hil))
      have hown := hs4 its[i] (List.getElem_mem hil)
      have hiD : i * D ≤ 68 * 5 := Nat.mul_le_mul (by omega) (by omega)
      refine run_seq ?_
      refine run_seq ?_
      refine run_region rfl ?_
      refine op_move rfl rfl ?_
      refine op_move rfl rfl ?_
      refine op_cmp_t rfl rfl rfl rfl (by first | (simp only [cmpP]; done) | (simp only [cmpP]; omega)) ?_
      refine ops_nil ?_
      refine fin_code ?_
      refine run_cond_t rfl ?_
      refine run_skip ?_
      refine fin_code ?_
      refine run_seq ?_
      refine run_block ?_
      refine run_seq ?_
      refine run_region rfl ?_
      refine op_move rfl rfl ?_
      refine op_move rfl rfl ?_
      ((first | (apply op_call; (· exact rfl)) | apply op_call0); (· exact rfl); rotate_left 1; (· exact fun w hG hw => getID_any w q (.map (some mb)) gI (hsK K its).length cI i (by omega) (by omega) hw); rotate_right 1; (· (repeat (first | exact Picks.nil | (apply Picks.cons; (· (repeat (first | exact Pick.here | apply Pick.there)))) | apply Picks.empty))))
      intro _ _
      refine op_assign rfl rfl ?_
      refine ops_nil ?_
      refine fin_code ?_
      refine run_seq ?_
      refine run_region rfl ?_
      refine op_assign rfl rfl ?_
      refine ops_nil ?_
      refine fin_code ?_
      refine run_block ?_
      refine run_loop (α := Nat × Value × Hp × List Value) (fun x => [(0, .pointer (some ⟨p, 0, none⟩)), (4, .pointer (some ⟨q, 0, none⟩)), (6, .int .u8 md), (7, .int .u8 (D : Nat)), (8, .int .i64 (W : Nat)), (11, .slice AT (s * W) cT), (19, .int .i64 ((hsK K its).length : Nat)), (20, .int .i64 (D : Nat)), (21, x.2.1), (22, .int .i64 (i : Nat)), (23, .pointer (some ⟨gI, i, none⟩)), (24, .int .i64 (x.1 : Nat))])
        (fun x => itB (its.take i) :: its[i].2.2 :: itB (its.drop (i + 1)) :: [laB p md dam, [⟨q, .cells #[.map (some mb), .slice (some ⟨gI, 0, none⟩) (hsK K its).length cI] 74 (0, 0)⟩], [⟨gI, .cells (itV its ++ spI).toArray 67 (0, 0)⟩], lT, x.2.2.1])
        (fun x => x.1 ≤ D ∧ Own 5 1 x.2.1 (i * D + x.1) x.2.2.2 x.2.2.1) (fun x => D - x.1) (0, vD, lD, xs) ⟨Nat.zero_le _, hi2⟩ (by (repeat (first | exact Sub.nil _ | (refine Sub.cons rfl ?_)))) (by dsimp only; rw [flat3, ← itB_split its i hil]; (apply le_of_picks; (repeat (first | exact Picks.nil | (apply Picks.cons; (· (repeat (first | exact Pick.here | apply Pick.there)))) | apply Picks.empty)))) ?_
      clear hi2 vD lD xs
      rintro ⟨o, vD, lD, xs⟩ ⟨ho1, ho2⟩
      dsimp only at ho1 ho2 ⊢
      by_cases hoD : o < D
      · refine run_seq ?_
        refine run_seq ?_
        refine run_region rfl ?_
        refine op_move rfl rfl ?_
        refine op_move rfl rfl ?_
        refine op_cmp_t rfl rfl rfl rfl (by first | (simp only [cmpP]; done) | (simp only [cmpP]; omega)) ?_
        refine ops_nil ?_
        refine fin_code ?_
        refine run_cond_t rfl ?_
        refine run_skip ?_
        refine fin_code ?_
        refine run_seq ?_
        refine run_block ?_
        refine run_seq ?_
        refine run_region rfl ?_
        refine op_move rfl rfl ?_
        refine op_move rfl rfl ?_
        refine op_move rfl rfl ?_
        refine op_conv rfl rfl (by simp only [kLo, kHi]; omega) ?_
        ((first | (apply op_call; (· exact rfl)) | apply op_call0); (· exact rfl); rotate_left 1; (· exact fun w hG hw => msd_any w p md dam gI i (itV its ++ spI).toArray its[i].2.1 hcc its[i].1 its[i].2.2 o hown (by omega) (by omega) (fun x hx => by have := hbn.2 x hx; unfold ad; omega) (by omega) hw); rotate_right 1; (· (repeat (first | exact Picks.nil | (apply Picks.cons; (· (repeat (first | exact Pick.here | apply Pick.there)))) | apply Picks.empty))))
        intro _ _
        refine op_assign rfl rfl ?_
        refine ops_nil ?_
        refine fin_code ?_
        refine run_region rfl ?_
        refine op_move rfl rfl ?_
        refine op_move rfl rfl ?_
        ((first | (apply op_invE 93 37; (· infer_instance); (· infer_instance); (· exact rfl)) | (apply op_inv0E 93 37; (· infer_instance); (· infer_instance))); (· exact rfl); (· exact rfl); rotate_left 1; (· exact fun w hG hw => atl_any w _); rotate_right 1; (· (repeat (first | exact Picks.nil | (apply Picks.cons; (· (repeat (first | exact Pick.here | apply Pick.there)))) | apply Picks.empty))))
        intro _ _
        (refine op_slice1 rfl rfl (by first | rfl | simp [Value.cells]) (by decide) ?_; intro _ _)
        (apply op_append1; (· exact rfl); (· exact rfl); (· exact rfl); (· exact ho2); (· (repeat (first | exact Pick.here | apply Pick.there))); (· (repeat (first | exact Has.here | apply Has.there))); (· exact rfl); (· first | exact onesC rfl | (intro u hu; simp [Value.cells] at hu; rcases hu with rfl | rfl | rfl | rfl | rfl | rfl <;> rfl) | (intro u hu; simp [Value.cells] at hu; rcases hu with rfl | rfl | rfl <;> rfl) | (intro u hu; simp [Value.cells] at hu; rcases hu with rfl | rfl <;> rfl) | (intro u hu; simp [Value.cells] at hu; subst hu; rfl)); (· omega); (· omega); (· exact rfl))
        intro vD2 lD2 ho3
        refine op_assign rfl rfl ?_
        refine ops_nil ?_
        refine fin_block ?_
        refine fin_code ?_
        refine run_region rfl ?_
        refine op_move rfl rfl ?_
        refine op_add rfl rfl rfl (by simp only [kLo, kHi]; omega) ?_
        refine op_assign rfl rfl ?_
        refine ops_nil ?_
        refine fin_round (o + 1, vD2, lD2, _) (by dsimp only; omega) (by (repeat (first | exact Sub.nil _ | (refine Sub.cons rfl ?_)))) (by (apply le_of_picks; (repeat (first | exact Picks.nil | (apply Picks.cons; (· (repeat (first | exact Pick.here | apply Pick.there)))) | apply Picks.empty)))) ⟨hoD, ho3⟩
      · obtain rfl : o = D := by omega
        refine run_seq ?_
        refine run_seq ?_
        refine run_region rfl ?_
        refine op_move rfl rfl ?_
        refine op_move rfl rfl ?_
        refine op_cmp_f rfl rfl rfl rfl (by first | (simp only [cmpP]; done) | (simp only [cmpP]; omega)) ?_
        refine ops_nil ?_
        refine fin_code ?_
        refine run_cond_f rfl ?_
        refine run_exit ?_
        refine fin_exit_code ?_
        refine fin_exit_inv ?_
        refine fin_exit_here ?_
        refine fin_block ?_
        refine fin_code ?_
        refine run_region rfl ?_
        refine op_move rfl rfl ?_
        refine op_add rfl rfl rfl (by simp only [kLo, kHi]; omega) ?_
        refine op_assign rfl rfl ?_
        refine ops_nil ?_
        refine fin_round (i + 1, vD, lD, xs) (by dsimp only; omega) (by (repeat (first | exact Sub.nil _ | (refine Sub.cons rfl ?_)))) (by dsimp only; rw [itB_split its i hil, ← flat3]; (apply le_of_picks; (repeat (first | exact Picks.nil | (apply Picks.cons; (· (repeat (first | exact Pick.here | apply Pick.there)))) | apply Picks.empty)))) ⟨hil, ?_⟩
        dsimp only
        rw [Nat.add_mul, Nat.one_mul]
        exact ho2
    · obtain rfl : i = its.length := by omega
      obtain ⟨AD, cD, rfl⟩ := hi2.isSlice
      refine run_seq ?_
      refine run_seq ?_
      refine run_region rfl ?_
      refine op_move rfl rfl ?_
      refine op_move rfl rfl ?_
      refine op_cmp_f rfl rfl rfl rfl (by first | (simp only [cmpP]; done) | (simp only [cmpP]; omega)) ?_
      refine ops_nil ?_
      refine fin_code ?_
      refine run_cond_f rfl ?_
      refine run_exit ?_
      refine fin_exit_code ?_
      refine fin_exit_inv ?_
      refine fin_exit_here ?_
      refine fin_code ?_
      refine run_seq ?_
      refine run_region rfl ?_
      refine op_move rfl rfl ?_
      refine op_conv rfl rfl (by simp only [kLo, kHi]; omega) ?_
      refine op_move rfl rfl ?_
      refine op_move rfl rfl ?_
      refine op_move rfl rfl ?_
      refine op_conv rfl rfl (by simp only [kLo, kHi]; omega) ?_
      refine op_move rfl rfl ?_
      refine op_build rfl rfl rfl (by first | (intro v hv; simp at hv; done) | (intro v hv; simp at hv; rcases hv with rfl | rfl | rfl | rfl | rfl | rfl | rfl <;> rfl) | (intro v hv; simp at hv; rcases hv with rfl | rfl | rfl | rfl | rfl | rfl <;> rfl) | (intro v hv; simp at hv; rcases hv with rfl | rfl | rfl | rfl | rfl <;> rfl) | (intro v hv; simp at hv; rcases hv with rfl | rfl | rfl | rfl <;> rfl) | (intro v hv; simp at hv; rcases hv with rfl | rfl | rfl <;> rfl) | (intro v hv; simp at hv; rcases hv with rfl | rfl <;> rfl) | (intro v hv; simp at hv; rcases hv with rfl; rfl)) rfl ?_
      (refine op_box rfl rfl ?_; intro _ _)
      refine op_assign rfl rfl ?_
      refine op_assign rfl rfl ?_
      refine ops_nil ?_
      refine fin_code ?_
      refine run_ret ?_
      refine fin_ret2 rfl rfl rfl ?_
      intro w' g'
      exact hR _ _ (post_of g' (_, _, _, lT, s) ⟨hend, hs6⟩ rfl (by (apply le_of_picks; (repeat (first | exact Picks.nil | (apply Picks.cons; (· (repeat (first | exact Pick.here | apply Pick.there)))) | apply Picks.empty)))))
  · have hslt : s < its.length := by omega
    refine run_seq ?_
    refine run_seq ?_
    refine run_region rfl ?_
    refine op_move rfl rfl ?_
    refine op_cmp_t rfl rfl rfl rfl (by first | (simp only [cmpP]; done) | (simp only [cmpP]; omega)) ?_
    refine ops_nil ?_
    refine fin_code ?_
    refine run_cond_t rfl ?_
    refine run_skip ?_
    refine fin_code ?_
    refine run_seq ?_
    refine run_block ?_
    refine run_seq ?_
    refine run_seq ?_
    refine run_region rfl ?_
    refine op_move rfl rfl ?_
    refine op_move rfl rfl ?_
    refine op_nilCheck rfl rfl ?_
    refine op_fieldAddr rfl rfl ?_
    (apply op_load; (· exact rfl); (· exact rfl); (· apply cell_of_has; (· (repeat (first | exact Has.here | apply Has.there))); (· first | exact rfl | exact hgo)))
    refine op_len rfl rfl ?_
    refine op_cmp_f rfl rfl rfl rfl (by first | (simp only [cmpP]; done) | (simp only [cmpP]; omega)) ?_
    refine ops_nil ?_
    refine fin_code ?_
    refine run_cond_f rfl ?_
    refine run_skip ?_
    refine fin_code ?_
    refine run_seq ?_
    refine run_region rfl ?_
    refine op_move rfl rfl ?_
    refine op_len rfl rfl ?_
    refine op_move rfl rfl ?_
    refine ops_nil ?_
    refine fin_code ?_
    refine run_block ?_
    refine run_loop (α := Nat × List It × Value × Hp × Value × Hp) (fun x => [(0, .pointer (some ⟨p, 0, none⟩)), (4, .pointer (some ⟨q, 0, none⟩)), (6, .int .u8 md), (7, .int .u8 (D : Nat)), (8, .int .i64 (W : Nat)), (9, .slice (some ⟨gc, 0, none⟩) W W), (11, x.2.2.2.2.1), (12, .int .i64 (s : Nat)), (73, .slice (some ⟨gc, 0, none⟩) W W), (74, .int .i64 (W : Nat)), (75, .int .i64 (x.1 : Nat))])
      (fun x => [laB p md dam, [⟨q, .cells #[.map (some mb), x.2.2.1] 74 (0, 0)⟩], [⟨mb, .map (entsF 0 (hsK K x.2.1)).toArray (hsK K x.2.1).length⟩], x.2.2.2.1, itB x.2.1, [⟨gc, .cells (chiV W W).toArray 27 (0, 0)⟩], x.2.2.2.2.2])
      (fun x => x.1 ≤ W ∧ x.2.1.map (·.1) = (runFS (hashF K) md dam (s * W + x.1)).items ∧ ItOk x.2.1 ∧ Own 67 1 x.2.2.1 (hsK K x.2.1).length (itV x.2.1) x.2.2.2.1 ∧ Own 58 2 x.2.2.2.2.1 (s * W + x.1) ((runFS (hashF K) md dam (s * W + x.1)).tr.flatMap trV) x.2.2.2.2.2)
      (fun x => W - x.1) (0, its, _, lI, vT, lT) ⟨Nat.zero_le _, hs3, hs4, hs5, hs6⟩ (by (repeat (first | exact Sub.nil _ | (refine Sub.cons rfl ?_)))) (by (apply le_of_picks; (repeat (first | exact Picks.nil | (apply Picks.cons; (· (repeat (first | exact Pick.here | apply Pick.there)))) | apply Picks.empty)))) ?_
    clear hs4 hs5 hs6 hn3 lI vT lT cI AI
    rintro ⟨j, its', vI, lI, vT, lT⟩ ⟨hj1, hj3, hj4, hj5, hj6⟩
    dsimp only at hj1 hj3 hj4 hj5 hj6 ⊢
    have hmono := run_mono' (hashF K) md dam (s * W) j
    obtain ⟨hm1, hm2, hm3⟩ := items_len K hmd (s * W + j) its' hj3
    rw [← hm1, ← hn1] at hmono
    have hh' := hsK_len K its'
    have hsl' : s < its'.length := by omega
    have hsW : s * W ≤ 68 * 32 := Nat.mul_le_mul (by omega) hW32
    by_cases hjW : j < W
    · obtain ⟨gI, cI, spI, rfl, rfl, _, _, _, _⟩ := hj5.open (by omega)
      have hgo := chiV_get W j hjW
      have hcc : aget (itV its' ++ spI).toArray s = some its'[s].2.1 := aget_pre (itV_get its' s hsl')
      have hmem := hm3 its'[s] (List.getElem_mem hsl')
      have hbn := set_bn hmd hmem
      have hown := hj4 its'[s] (List.getElem_mem hsl')
      refine run_seq ?_
      refine run_region rfl ?_
      refine op_cmp_t rfl rfl rfl rfl (by first | (simp only [cmpP]; done) | (simp only [cmpP]; omega)) ?_
      refine ops_nil ?_
      refine fin_code ?_
      refine run_seq ?_
      refine run_cond_t rfl ?_
      refine run_skip ?_
      refine fin_code ?_
      refine run_seq ?_
      refine run_block ?_
      refine run_seq ?_
      refine run_region rfl ?_
      refine op_index rfl rfl rfl (by omega) (by first | (rw [Int.toNat_natCast, Nat.mul_one, Nat.zero_add]) | (rw [Int.toNat_natCast, Nat.mul_one]) | (rw [Int.toNat_natCast, Nat.zero_add]) | (rw [Int.toNat_natCast]) | exact rfl) ?_
      (apply op_load; (· exact rfl); (· exact rfl); (· apply cell_of_has; (· (repeat (first | exact Has.here | apply Has.there))); (· first | exact rfl | exact hgo)))
      refine op_assign rfl rfl ?_
      refine ops_nil ?_
      refine fin_code ?_
      refine run_seq ?_
      refine run_region rfl ?_
      ((first | (apply op_call; (· exact rfl)) | apply op_call0); (· exact rfl); rotate_left 1; (· exact fun w hG hw => newMS_any w); rotate_right 1; (· (repeat (first | exact Picks.nil | (apply Picks.cons; (· (repeat (first | exact Pick.here | apply Pick.there)))) | apply Picks.empty))))
      rintro ⟨q2, A2, c2, lv2⟩ h2
      dsimp only [msB] at h2 ⊢
      refine op_assign rfl rfl ?_
      refine ops_nil ?_
      refine fin_code ?_
      refine run_seq ?_
      refine run_region rfl ?_
      refine op_move rfl rfl ?_
      refine op_move rfl rfl ?_
      ((first | (apply op_call; (· exact rfl)) | apply op_call0); (· exact rfl); rotate_left 1; (· exact fun w hG hw => getID_any w q (.map (some mb)) gI (hsK K its').length cI s (by omega) (by omega) hw); rotate_right 1; (· (repeat (first | exact Picks.nil | (apply Picks.cons; (· (repeat (first | exact Pick.here | apply Pick.there)))) | apply Picks.empty))))
      intro _ _
      refine op_assign rfl rfl ?_
      refine ops_nil ?_
      refine fin_code ?_
      refine run_seq ?_
      refine run_region rfl ?_
      refine op_move rfl rfl ?_
      refine op_move rfl rfl ?_
      refine op_move rfl rfl ?_
      refine op_move rfl rfl ?_
      refine Ops.perm (L' := itB (its'.take s) :: its'[s].2.2 :: itB (its'.drop (s + 1)) :: [laB p md dam, [⟨q, .cells #[.map (some mb), .slice (some ⟨gI, 0, none⟩) (hsK K its').length cI] 74 (0, 0)⟩], [⟨mb, .map (entsF 0 (hsK K its')).toArray (hsK K its').length⟩], [⟨gI, .cells (itV its' ++ spI).toArray 67 (0, 0)⟩], [⟨gc, .cells (chiV W W).toArray 27 (0, 0)⟩], lT, [⟨q2, .cells #[.slice A2 0 c2] 67 (0, 0)⟩], lv2]) ?_ (by rw [flat3, ← itB_split its' s hsl']; (apply le_of_picks; (repeat (first | exact Picks.nil | (apply Picks.cons; (· (repeat (first | exact Pick.here | apply Pick.there)))) | apply Picks.empty))))
      ((first | (apply op_call; (· exact rfl)) | apply op_call0); (· exact rfl); rotate_left 1; (· exact fun w hG hw => trans_any w p md dam gI s q2 (itV its' ++ spI).toArray its'[s].2.1 hcc its'[s].1 its'[s].2.2 A2 c2 lv2 j 8 hown h2 hbn.2 (by decide) (by omega) (by omega) (by omega) hw); rotate_right 1; (· (repeat (first | exact Picks.nil | (apply Picks.cons; (· (repeat (first | exact Pick.here | apply Pick.there)))) | apply Picks.empty))))
      rintro ⟨v3, lv3⟩ ⟨h3, hb3, hd3⟩
      dsimp only [msB] at h3 hb3 hd3 ⊢
      have hl3 := bn_len hd3 hb3
      have hl3' : (8 + 1) * (md + 1) * 2 ≤ 9 * 3 * 2 := Nat.mul_le_mul_right _ (Nat.mul_le_mul (Nat.le_refl _) (by omega))
      obtain ⟨hds, hdh⟩ := step_dest md dam j its'[s].1
      have hdl : (stepP md dam j its'[s].1).length = (destI md dam j its'[s].1).length := by rw [← hds, nsIns_len, moveB_len]
      have hdm : destI md dam j its'[s].1 ∈ setC md dam := dest_mem hmd hmem (by rw [← show nChi md = 2 ^ (2 * md + 1) from rfl, ← hW]; exact hjW)
      have hdb := set_bn hmd hdm
      refine ops_nil ?_
      refine fin_code ?_
      refine run_seq ?_
      refine run_region rfl ?_
      refine op_move rfl rfl ?_
      ((first | (apply op_call; (· exact rfl)) | apply op_call0); (· exact rfl); rotate_left 1; (· exact fun w hG hw => norm_any w q2 v3 (stepP md dam j its'[s].1) lv3 h3 (fun x hx => ⟨Nat.le_trans (hb3 x hx).1 (by omega), Nat.le_trans (hb3 x hx).2 (by omega)⟩) (by omega) hw); rotate_right 1; (· (repeat (first | exact Picks.nil | (apply Picks.cons; (· (repeat (first | exact Pick.here | apply Pick.there)))) | apply Picks.empty))))
      intro lv4 h4
      rw [hds, hdl] at h4
      rw [hdh]
      dsimp only [msB]
      refine op_assign rfl rfl ?_
      refine ops_nil ?_
      refine fin_code ?_
      refine run_seq ?_
      refine run_region rfl ?_
      refine op_move rfl rfl ?_
      refine op_move rfl rfl ?_
      refine op_nilCheck rfl rfl ?_
      (apply op_loadAll; (· exact rfl); (· exact rfl); (· (repeat (first | exact Has.here | apply Has.there))); (· exact rfl))
      refine Ops.perm (L' := itB its' :: [laB p md dam, [⟨q, .cells #[.map (some mb), .slice (some ⟨gI, 0, none⟩) (hsK K its').length cI] 74 (0, 0)⟩], [⟨mb, .map (entsF 0 (hsK K its')).toArray (hsK K its').length⟩], [⟨gI, .cells (itV its' ++ spI).toArray 67 (0, 0)⟩], [⟨gc, .cells (chiV W W).toArray 27 (0, 0)⟩], lT, lv4]) ?_ (by rw [itB_split its' s hsl', ← flat3]; (apply le_of_picks; (repeat (first | exact Picks.nil | (apply Picks.cons; (· (repeat (first | exact Pick.here | apply Pick.there)))) | apply Picks.empty))))
      have hnx := step_next K md dam W s j hW hjW its' hsl' hj3 v3 lv4
      have hok := hj4.add (K := K) (x := (destI md dam j its'[s].1, v3, lv4)) h4
      have hgN := gN_le K its' (destI md dam j its'[s].1)
      have hdsh := destSh_le (md := md) (dam := dam) (j := j) (l := its'[s].1)
      clear h3 hb3 hd3 hds hdh hdl hown h2 hcc
      generalize destI md dam j its'[s].1 = ld at *
      generalize destSh md dam j its'[s].1 = sd at *
      ((first | (apply op_call; (· exact rfl)) | apply op_call0); (· exact rfl)); (case' hc => (refine fun w hG hw => goa_any w q mb (.slice (some ⟨gI, 0, none⟩) (hsK K its').length cI) [⟨gI, .cells (itV its' ++ spI).toArray 67 (0, 0)⟩] its' ld v3 lv4 K kv B ?_ hj5 h4 (by omega) (fun x hx => by have := hdb.2 x hx; omega) (by omega) ?_ hkv ?_ hw)); (case hp => (repeat (first | exact Picks.nil | (apply Picks.cons; (· (repeat (first | exact Pick.here | apply Pick.there)))) | apply Picks.empty)))
      · exact Nat.le_trans hBw hG.size
      · exact RdB.nowD hK hG hL0 hBw
      · exact Goes.lowB hG hL0 hBw
      rintro ⟨vI4, lI4⟩ hI4
      dsimp only at hI4 ⊢
      generalize gT K its' (ld, v3, lv4) = its4 at *
      generalize gN K its' ld = n4 at *
      refine op_assign rfl rfl ?_
      refine ops_nil ?_
      refine fin_code ?_
      refine run_region rfl ?_
      refine op_move rfl rfl ?_
      refine op_move rfl rfl ?_
      refine op_conv rfl rfl (by simp only [kLo, kHi]; omega) ?_
      refine op_move rfl rfl ?_
      refine op_build rfl rfl rfl (by first | (intro v hv; simp at hv; done) | (intro v hv; simp at hv; rcases hv with rfl | rfl | rfl | rfl | rfl | rfl | rfl <;> rfl) | (intro v hv; simp at hv; rcases hv with rfl | rfl | rfl | rfl | rfl | rfl <;> rfl) | (intro v hv; simp at hv; rcases hv with rfl | rfl | rfl | rfl | rfl <;> rfl) | (intro v hv; simp at hv; rcases hv with rfl | rfl | rfl | rfl <;> rfl) | (intro v hv; simp at hv; rcases hv with rfl | rfl | rfl <;> rfl) | (intro v hv; simp at hv; rcases hv with rfl | rfl <;> rfl) | (intro v hv; simp at hv; rcases hv with rfl; rfl)) rfl ?_
      (refine op_slice1 rfl rfl (by first | rfl | simp [Value.cells]) (by decide) ?_; intro _ _)
      (apply op_append1; (· exact rfl); (· exact rfl); (· exact rfl); (· exact hj6); (· (repeat (first | exact Pick.here | apply Pick.there))); (· (repeat (first | exact Has.here | apply Has.there))); (· exact rfl); (· first | exact onesC rfl | (intro u hu; simp [Value.cells] at hu; rcases hu with rfl | rfl | rfl | rfl | rfl | rfl <;> rfl) | (intro u hu; simp [Value.cells] at hu; rcases hu with rfl | rfl | rfl <;> rfl) | (intro u hu; simp [Value.cells] at hu; rcases hu with rfl | rfl <;> rfl) | (intro u hu; simp [Value.cells] at hu; subst hu; rfl)); (· omega); (· omega); (· exact rfl))
      intro v5 l5 ho5
      refine op_assign rfl rfl ?_
      refine ops_nil ?_
      refine fin_block ?_
      refine fin_code ?_
      refine run_region rfl ?_
      refine op_add rfl rfl rfl (by simp only [kLo, kHi]; omega) ?_
      refine op_move rfl rfl ?_
      refine ops_nil ?_
      refine fin_round (j + 1, its4, vI4, lI4, v5, l5) (by dsimp only; omega) (by (repeat (first | exact Sub.nil _ | (refine Sub.cons rfl ?_)))) (by (apply le_of_picks; (repeat (first | exact Picks.nil | (apply Picks.cons; (· (repeat (first | exact Pick.here | apply Pick.there)))) | apply Picks.empty)))) ⟨hjW, hnx.1, hok, hI4, ?_⟩
      dsimp only
      rw [hnx.2, List.flatMap_append]
      exact ho5
    · obtain rfl : j = W := by omega
      refine run_seq ?_
      refine run_region rfl ?_
      refine op_cmp_f rfl rfl rfl rfl (by first | (simp only [cmpP]; done) | (simp only [cmpP]; omega)) ?_
      refine ops_nil ?_
      refine fin_code ?_
      refine run_seq ?_
      refine run_cond_f rfl ?_
      refine run_exit ?_
      refine fin_exit_code ?_
      refine fin_exit_inv ?_
      refine fin_exit_here ?_
      refine fin_block ?_
      refine fin_code ?_
      refine run_region rfl ?_
      refine op_move rfl rfl ?_
      refine op_add rfl rfl rfl (by simp only [kLo, kHi]; omega) ?_
      refine op_assign rfl rfl ?_
      refine ops_nil ?_
      refine fin_round (s + 1, its', vI, lI, vT, lT) (by dsimp only; omega) (by (repeat (first | exact Sub.nil _ | (refine Sub.cons rfl ?_)))) (by (apply le_of_picks; (repeat (first | exact Picks.nil | (apply Picks.cons; (· (repeat (first | exact Pick.here | apply Pick.there)))) | apply Picks.empty)))) ⟨hsl', ?_, ?_, hj4, hj5, ?_⟩
      · intro m hm
        rcases Nat.lt_or_ge m s with h | h
        · exact hs2 m h
        · rw [show m = s by omega, ← hn1]
          omega
      · rw [Nat.add_mul, Nat.one_mul]
        exact hj3
      · dsimp only
        rw [Nat.add_mul, Nat.one_mul]
        exact hj6
end Go.Proofs.Eng
