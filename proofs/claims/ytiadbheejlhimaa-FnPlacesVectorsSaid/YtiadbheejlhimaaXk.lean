/- A part of the proof: what functions of the program do, step by step. -/
import Derived.Test.YtiadbheejlhimaaXj
import Derived.Test.YtiadbheejlhimaaXh
set_option linter.unusedVariables false
set_option linter.unusedSimpArgs false
namespace Go.Proofs.Eng
open Go.RowKit
set_option maxRecDepth 100000 in
theorem dist_u (w : World) (a b : Nat) (ha : a < 4294967296) (hb : b < 4294967296) : Calls Try.prog 58 #[.int .u32 a, .int .u32 b] w (Post w ([] : List Hp).flatten (fun _ : Unit => .int .u32 (ad a b : Nat)) (fun _ => ([] : List Hp).flatten) (fun _ => True)) := by
  refine enter [] Try.func58 rfl rfl (At.nil w) (Le.refl _) ?_
  intro R hR
  by_cases h : b < a
  · have e : ((ad a b : Nat) : Int) = (a : Int) - b := by unfold ad; omega
    refine run_seq ?_
    refine run_region rfl ?_
    refine op_assign rfl rfl ?_
    refine ops_nil ?_
    refine fin_code ?_
    refine run_seq ?_
    refine run_seq ?_
    refine run_region rfl ?_
    refine op_move rfl rfl ?_
    refine op_move rfl rfl ?_
    refine op_cmp_t rfl rfl rfl rfl (by first | (simp only [cmpP]; done) | (simp only [cmpP]; omega)) ?_
    refine ops_nil ?_
    refine fin_code ?_
    refine run_cond_t rfl ?_
    refine run_seq ?_
    refine run_region rfl ?_
    refine op_move rfl rfl ?_
    refine op_move rfl rfl ?_
    refine op_sub rfl rfl rfl (by simp only [kLo, kHi]; omega) ?_
    refine op_assign rfl rfl ?_
    refine ops_nil ?_
    refine fin_code ?_
    refine run_ret ?_
    refine fin_ret_code ?_
    refine fin_ret1 rfl rfl ?_
    intro w' g
    exact hR _ _ (post_of g () trivial (by rw [e]) (by (apply le_of_picks; (repeat (first | exact Picks.nil | (apply Picks.cons; (· (repeat (first | exact Pick.here | apply Pick.there)))) | apply Picks.empty)))))
  · have e : ((ad a b : Nat) : Int) = (b : Int) - a := by unfold ad; omega
    refine run_seq ?_
    refine run_region rfl ?_
    refine op_assign rfl rfl ?_
    refine ops_nil ?_
    refine fin_code ?_
    refine run_seq ?_
    refine run_seq ?_
    refine run_region rfl ?_
    refine op_move rfl rfl ?_
    refine op_move rfl rfl ?_
    refine op_cmp_f rfl rfl rfl rfl (by first | (simp only [cmpP]; done) | (simp only [cmpP]; omega)) ?_
    refine ops_nil ?_
    refine fin_code ?_
    refine run_cond_f rfl ?_
    refine run_skip ?_
    refine fin_code ?_
    refine run_seq ?_
    refine run_region rfl ?_
    refine op_move rfl rfl ?_
    refine op_move rfl rfl ?_
    refine op_sub rfl rfl rfl (by simp only [kLo, kHi]; omega) ?_
    refine op_assign rfl rfl ?_
    refine ops_nil ?_
    refine fin_code ?_
    refine run_ret ?_
    refine fin_ret1 rfl rfl ?_
    intro w' g
    exact hR _ _ (post_of g () trivial (by rw [e]) (by (apply le_of_picks; (repeat (first | exact Picks.nil | (apply Picks.cons; (· (repeat (first | exact Pick.here | apply Pick.there)))) | apply Picks.empty)))))
set_option maxRecDepth 100000 in
theorem atl_any (w : World) (k : Nat) : Calls Try.prog 59 #[.agg #[.int .u8 k]] w (Post w ([] : List Hp).flatten (fun _ : Unit => .int .u8 k) (fun _ => ([] : List Hp).flatten) (fun _ => True)) := by
  refine enter [] Try.func59 rfl rfl (At.nil w) (Le.refl _) ?_
  intro R hR
  refine run_seq ?_
  refine run_region rfl ?_
  (refine op_box rfl rfl ?_; intro _ _)
  refine op_assign rfl rfl ?_
  refine ops_nil ?_
  refine fin_code ?_
  refine run_seq ?_
  refine run_region rfl ?_
  refine op_fieldAddr rfl rfl ?_
  (apply op_load; (· exact rfl); (· exact rfl); (· apply cell_of_has; (· (repeat (first | exact Has.here | apply Has.there))); (· first | exact rfl)))
  refine op_assign rfl rfl ?_
  refine ops_nil ?_
  refine fin_code ?_
  refine run_ret ?_
  refine fin_ret1 rfl rfl ?_
  intro w' g
  exact hR _ _ (post_of g () trivial rfl (by (apply le_of_picks; (repeat (first | exact Picks.nil | (apply Picks.cons; (· (repeat (first | exact Pick.here | apply Pick.there)))) | apply Picks.empty)))))
theorem leastP_snoc (m len : Nat) {l : List NS} {i : Nat} (h : i < l.length) : leastP m len (l.take (i + 1)) = min (leastP m len (l.take i)) (l[i].d + ad l[i].o len) := by
  unfold leastP
  rw [List.take_succ_eq_append_getElem h, List.foldl_append]
  rfl
theorem ad_comm (a b : Nat) : ad a b = ad b a := by unfold ad; omega
set_option maxRecDepth 100000 in
set_option maxHeartbeats 8000000 in
theorem msd_any (w : World) (p md : Nat) (dam : Bool) (c : Nat) (v1 : Value) (l : List NS) (lv1 : Hp) (len : Nat) (ho : Own 82 3 v1 l.length (l.flatMap nsV) lv1) (hmd : md ≤ 100) (hlen : len < 4294967296) (hl : ∀ s ∈ l, s.o < 4294967296 ∧ s.d + ad s.o len ≤ 255) (hn : l.length ≤ 60000)
    (hw : At w ([laB p md dam, msB c v1, lv1] : List Hp).flatten) :
    Calls Try.prog 47 #[.pointer (some ⟨p, 0, none⟩), .pointer (some ⟨c, 0, none⟩), .int .u32 len] w (Post w ([laB p md dam, msB c v1, lv1] : List Hp).flatten (fun _ : Unit => .iface 117 (.agg #[.int .u8 (leastP (md + 1) len l : Nat)])) (fun _ => ([laB p md dam, msB c v1, lv1] : List Hp).flatten) (fun _ => True)) := by
  refine enter [laB p md dam, msB c v1, lv1] Try.func47 rfl rfl hw (Le.refl _) ?_
  intro R hR
  obtain ⟨A, cp, rfl⟩ := ho.isSlice
  dsimp only [laB, msB] at hR ⊢
  refine run_seq ?_
  refine run_region rfl ?_
  refine op_assign rfl rfl ?_
  refine ops_nil ?_
  refine fin_code ?_
  refine run_seq ?_
  refine run_region rfl ?_
  refine op_move rfl rfl ?_
  refine op_nilCheck rfl rfl ?_
  refine op_fieldAddr rfl rfl ?_
  (apply op_load; (· exact rfl); (· exact rfl); (· apply cell_of_has; (· (repeat (first | exact Has.here | apply Has.there))); (· first | exact rfl)))
  refine op_add rfl rfl rfl (by simp only [kLo, kHi]; omega) ?_
  refine op_build rfl rfl rfl (by first | (intro v hv; simp at hv; done) | (intro v hv; simp at hv; rcases hv with rfl | rfl | rfl | rfl | rfl | rfl | rfl <;> rfl) | (intro v hv; simp at hv; rcases hv with rfl | rfl | rfl | rfl | rfl | rfl <;> rfl) | (intro v hv; simp at hv; rcases hv with rfl | rfl | rfl | rfl | rfl <;> rfl) | (intro v hv; simp at hv; rcases hv with rfl | rfl | rfl | rfl <;> rfl) | (intro v hv; simp at hv; rcases hv with rfl | rfl | rfl <;> rfl) | (intro v hv; simp at hv; rcases hv with rfl | rfl <;> rfl) | (intro v hv; simp at hv; rcases hv with rfl; rfl)) rfl ?_
  (refine op_alloc rfl ?_; intro _ _)
  (apply op_storeAll; (· exact rfl); (· exact rfl); (· exact rfl); (· first | exact nsV_one _ | exact onesC rfl); (· (repeat (first | exact Swap.here | apply Swap.there))); (· exact rfl))
  refine ops_nil ?_
  refine fin_code ?_
  refine run_seq ?_
  refine run_seq ?_
  refine run_region rfl ?_
  refine op_move rfl rfl ?_
  refine op_nilCheck rfl rfl ?_
  refine op_fieldAddr rfl rfl ?_
  (apply op_load; (· exact rfl); (· exact rfl); (· apply cell_of_has; (· (repeat (first | exact Has.here | apply Has.there))); (· first | exact rfl)))
  refine op_len rfl rfl ?_
  refine op_move rfl rfl ?_
  refine ops_nil ?_
  refine fin_code ?_
  refine run_block ?_
  rename_i q _
  refine run_loop (α := Nat) (fun x => [(0, .pointer (some ⟨p, 0, none⟩)), (2, .int .u32 len), (7, .pointer (some ⟨q, 0, none⟩)), (20, .slice A l.length cp), (21, .int .i64 l.length), (22, .int .i64 (x : Nat))])
    (fun x => [[⟨q, .cells #[.int .u8 (leastP (md + 1) len (l.take x) : Nat)] 117 (0, 0)⟩], [⟨p, .cells #[.int .u8 md, .bool dam] 113 (0, 0)⟩], [⟨c, .cells #[.slice A l.length cp] 87 (0, 0)⟩], lv1]) (fun x => x ≤ l.length) (fun x => l.length - x) 0 (Nat.zero_le _) (by (repeat (first | exact Sub.nil _ | (refine Sub.cons rfl ?_)))) (by (apply le_of_picks; (repeat (first | exact Picks.nil | (apply Picks.cons; (· (repeat (first | exact Pick.here | apply Pick.there)))) | apply Picks.empty)))) ?_
  rintro i hi
  by_cases hil : i < l.length
  · obtain ⟨g, cap, cur, hv, hl1, _, _, hz, hcur, _⟩ := ho.openN (by omega)
    simp only [Value.slice.injEq] at hv
    obtain ⟨rfl, _, rfl⟩ := hv
    subst hl1
    have hls := leastP_snoc (md + 1) len hil
    obtain ⟨hso, hsd⟩ := hl _ (List.getElem_mem hil)
    have hac := ad_comm l[i].o len
    have hmin := (leastP_le len (l.take i) (md + 1)).1
    refine run_seq ?_
    refine run_region rfl ?_
    refine op_cmp_t rfl rfl rfl rfl (by first | (simp only [cmpP]; done) | (simp only [cmpP]; omega)) ?_
    refine ops_nil ?_
    refine fin_code ?_
    refine run_seq ?_
    refine run_cond_t rfl ?_
    refine run_skip ?_
    refine fin_code ?_
    refine run_seq ?_
    refine run_block ?_
    refine run_seq ?_
    refine run_region rfl ?_
    refine op_index rfl rfl rfl (by omega) (by first | (rw [Int.toNat_natCast, Nat.mul_one, Nat.zero_add]) | (rw [Int.toNat_natCast, Nat.mul_one]) | (rw [Int.toNat_natCast, Nat.zero_add]) | (rw [Int.toNat_natCast]) | exact rfl) ?_
    (refine op_loadA (vs := nsV l[i]) rfl rfl rfl (fun k u hu => cell_of_has (by (repeat (first | exact Has.here | apply Has.there))) (hcur _ _ (flat_get nsV 3 (fun _ => rfl) l i hil k u hu))) ?_)
    (refine op_alloc rfl ?_; intro _ _)
    (apply op_storeAll; (· exact rfl); (· exact rfl); (· exact rfl); (· first | exact nsV_one _ | exact onesC rfl); (· (repeat (first | exact Swap.here | apply Swap.there))); (· exact rfl))
    refine ops_nil ?_
    refine fin_code ?_
    refine run_seq ?_
    rename_i q2 _
    generalize l[i] = s at *
    obtain ⟨so, sd, st⟩ := s
    dsimp only at hls hso hsd hac
    rw [hac] at hls hsd
    refine run_drawS [[⟨q2, .cells (nsV ⟨so, sd, st⟩).toArray 82 (0, 0)⟩]] (by kernel_rfl) ?_
    refine dr_stab 0 rfl rfl (Val.s (val_fieldAddr rfl)) (by decide +kernel) rfl rfl ?_
    (apply dr_stab 1; (· exact rfl); (· exact rfl); (· apply ValAt.s; (first | (apply val_load; (· exact rfl); (· apply cell_of_has; (· (repeat (first | exact Has.here | apply Has.there))); (· first | exact rfl))) | (apply val_loadAll; (· exact rfl); (· (repeat (first | exact Has.here | apply Has.there))); (· exact rfl)))); (· decide +kernel); (· exact rfl); (· exact rfl))
    refine dr_stab 2 rfl rfl (Val.s (val_move rfl)) (by decide +kernel) rfl rfl ?_
    refine dr_stab 3 rfl rfl (Val.s (val_fieldAddr rfl)) (by decide +kernel) rfl rfl ?_
    (apply dr_stab 4; (· exact rfl); (· exact rfl); (· apply ValAt.s; (first | (apply val_load; (· exact rfl); (· apply cell_of_has; (· (repeat (first | exact Has.here | apply Has.there))); (· first | exact rfl))) | (apply val_loadAll; (· exact rfl); (· (repeat (first | exact Has.here | apply Has.there))); (· exact rfl)))); (· decide +kernel); (· exact rfl); (· exact rfl))
    (refine dr_one 5 rfl (by decide +kernel) (by (apply le_of_picks; (repeat (first | exact Picks.nil | (apply Picks.cons; (· (repeat (first | exact Pick.here | apply Pick.there)))) | apply Picks.empty)))) ?_)
    ((first | (apply op_call; (· exact rfl)) | apply op_call0); (· exact rfl); rotate_left 1; (· exact fun w hG hw => dist_u w len so (by omega) (by omega)); rotate_right 1; (· (repeat (first | exact Picks.nil | (apply Picks.cons; (· (repeat (first | exact Pick.here | apply Pick.there)))) | apply Picks.empty))))
    intro _ _
    refine ops_nil ?_
    refine fin_draw ?_
    refine dr_stab 6 rfl rfl (Val.s (val_conv rfl (by simp only [kLo, kHi]; omega))) (by decide +kernel) rfl rfl ?_
    refine dr_stab 7 rfl rfl (Val.s (val_add rfl rfl (by simp only [kLo, kHi]; omega))) (by decide +kernel) rfl rfl ?_
    refine dr_stab 8 rfl rfl (Val.s (val_assign rfl)) (by decide +kernel) rfl rfl ?_
    (refine dr_done (by decide +kernel) (by (apply le_of_picks; (repeat (first | exact Picks.nil | (apply Picks.cons; (· (repeat (first | exact Pick.here | apply Pick.there)))) | apply Picks.empty)))) ?_)
    generalize leastP (md + 1) len (l.take i) = a at *
    generalize ad len so = t at *
    by_cases h1 : sd + t ≤ md
    · refine fin_code ?_
      refine run_seq ?_
      refine run_region rfl ?_
      refine op_move rfl rfl ?_
      refine op_move rfl rfl ?_
      refine op_nilCheck rfl rfl ?_
      refine op_fieldAddr rfl rfl ?_
      (apply op_load; (· exact rfl); (· exact rfl); (· apply cell_of_has; (· (repeat (first | exact Has.here | apply Has.there))); (· first | exact rfl)))
      refine op_cmp_t rfl rfl rfl rfl (by first | (simp only [cmpP]; done) | (simp only [cmpP]; omega)) ?_
      refine ops_nil ?_
      refine fin_code ?_
      refine run_cond_t rfl ?_
      refine run_seq ?_
      refine run_region rfl ?_
      (apply op_loadAll; (· exact rfl); (· exact rfl); (· (repeat (first | exact Has.here | apply Has.there))); (· exact rfl))
      ((first | (apply op_call; (· exact rfl)) | apply op_call0); (· exact rfl); rotate_left 1; (· exact fun w hG hw => atl_any w a); rotate_right 1; (· (repeat (first | exact Picks.nil | (apply Picks.cons; (· (repeat (first | exact Pick.here | apply Pick.there)))) | apply Picks.empty))))
      intro _ _
      by_cases h2 : sd + t < a
      · have e : ((leastP (md + 1) len (l.take (i + 1)) : Nat) : Int) = (sd : Int) + t := by omega
        refine op_move rfl rfl ?_
        refine op_cmp_t rfl rfl rfl rfl (by first | (simp only [cmpP]; done) | (simp only [cmpP]; omega)) ?_
        refine ops_nil ?_
        refine fin_code ?_
        refine run_cond_t rfl ?_
        refine run_region rfl ?_
        refine op_move rfl rfl ?_
        refine op_fieldAddr rfl rfl ?_
        (apply op_store; (· exact rfl); (· exact rfl); (· exact rfl); (· (repeat (first | exact Swap.here | apply Swap.there))); (· first | decide | (simp; done) | (simp; omega) | assumption))
        refine ops_nil ?_
        refine fin_block ?_
        refine fin_code ?_
        refine run_region rfl ?_
        refine op_add rfl rfl rfl (by simp only [kLo, kHi]; omega) ?_
        refine op_move rfl rfl ?_
        refine ops_nil ?_
        refine fin_round (i + 1) (by omega) (by (repeat (first | exact Sub.nil _ | (refine Sub.cons rfl ?_)))) (by rw [e]; (apply le_of_picks; (repeat (first | exact Picks.nil | (apply Picks.cons; (· (repeat (first | exact Pick.here | apply Pick.there)))) | apply Picks.empty)))) (by omega)
      · have e : leastP (md + 1) len (l.take (i + 1)) = a := by omega
        refine op_move rfl rfl ?_
        refine op_cmp_f rfl rfl rfl rfl (by first | (simp only [cmpP]; done) | (simp only [cmpP]; omega)) ?_
        refine ops_nil ?_
        refine fin_code ?_
        refine run_cond_f rfl ?_
        refine run_skip ?_
        refine fin_block ?_
        refine fin_code ?_
        refine run_region rfl ?_
        refine op_add rfl rfl rfl (by simp only [kLo, kHi]; omega) ?_
        refine op_move rfl rfl ?_
        refine ops_nil ?_
        refine fin_round (i + 1) (by omega) (by (repeat (first | exact Sub.nil _ | (refine Sub.cons rfl ?_)))) (by rw [e]; (apply le_of_picks; (repeat (first | exact Picks.nil | (apply Picks.cons; (· (repeat (first | exact Pick.here | apply Pick.there)))) | apply Picks.empty)))) (by omega)
    · have e : leastP (md + 1) len (l.take (i + 1)) = a := by omega
      refine fin_code ?_
      refine run_seq ?_
      refine run_region rfl ?_
      refine op_move rfl rfl ?_
      refine op_move rfl rfl ?_
      refine op_nilCheck rfl rfl ?_
      refine op_fieldAddr rfl rfl ?_
      (apply op_load; (· exact rfl); (· exact rfl); (· apply cell_of_has; (· (repeat (first | exact Has.here | apply Has.there))); (· first | exact rfl)))
      refine op_cmp_f rfl rfl rfl rfl (by first | (simp only [cmpP]; done) | (simp only [cmpP]; omega)) ?_
      refine ops_nil ?_
      refine fin_code ?_
      refine run_cond_f rfl ?_
      refine run_skip ?_
      refine fin_block ?_
      refine fin_code ?_
      refine run_region rfl ?_
      refine op_add rfl rfl rfl (by simp only [kLo, kHi]; omega) ?_
      refine op_move rfl rfl ?_
      refine ops_nil ?_
      refine fin_round (i + 1) (by omega) (by (repeat (first | exact Sub.nil _ | (refine Sub.cons rfl ?_)))) (by rw [e]; (apply le_of_picks; (repeat (first | exact Picks.nil | (apply Picks.cons; (· (repeat (first | exact Pick.here | apply Pick.there)))) | apply Picks.empty)))) (by omega)
  obtain rfl : i = l.length := by omega
  rw [List.take_length]
  have hmin := (leastP_le len l (md + 1)).1
  generalize leastP (md + 1) len l = a at *
  refine run_seq ?_
  refine run_region rfl ?_
  refine op_cmp_f rfl rfl rfl rfl (by first | (simp only [cmpP]; done) | (simp only [cmpP]; omega)) ?_
  refine ops_nil ?_
  refine fin_code ?_
  refine run_seq ?_
  refine run_cond_f rfl ?_
  refine run_exit ?_
  refine fin_exit_code ?_
  refine fin_exit_inv ?_
  refine fin_exit_here ?_
  refine fin_code ?_
  refine run_seq ?_
  refine run_seq ?_
  refine run_drawS [[⟨q, .cells #[.int .u8 a] 117 (0, 0)⟩], [⟨p, .cells #[.int .u8 md, .bool dam] 113 (0, 0)⟩]] (by kernel_rfl) ?_
  (apply dr_stab 0; (· exact rfl); (· exact rfl); (· apply ValAt.s; (first | (apply val_load; (· exact rfl); (· apply cell_of_has; (· (repeat (first | exact Has.here | apply Has.there))); (· first | exact rfl))) | (apply val_loadAll; (· exact rfl); (· (repeat (first | exact Has.here | apply Has.there))); (· exact rfl)))); (· decide +kernel); (· exact rfl); (· exact rfl))
  refine dr_stab 2 rfl rfl (Val.s (val_move rfl)) (by decide +kernel) rfl rfl ?_
  refine dr_stab 3 rfl rfl (Val.s (val_nilCheck rfl)) (by decide +kernel) rfl rfl ?_
  refine dr_stab 4 rfl rfl (Val.s (val_fieldAddr rfl)) (by decide +kernel) rfl rfl ?_
  (apply dr_stab 5; (· exact rfl); (· exact rfl); (· apply ValAt.s; (first | (apply val_load; (· exact rfl); (· apply cell_of_has; (· (repeat (first | exact Has.here | apply Has.there))); (· first | exact rfl))) | (apply val_loadAll; (· exact rfl); (· (repeat (first | exact Has.here | apply Has.there))); (· exact rfl)))); (· decide +kernel); (· exact rfl); (· exact rfl))
  refine dr_stab 6 rfl rfl (Val.s (val_add rfl rfl (by simp only [kLo, kHi]; omega))) (by decide +kernel) rfl rfl ?_
  (refine dr_one 1 rfl (by decide +kernel) (by (apply le_of_picks; (repeat (first | exact Picks.nil | (apply Picks.cons; (· (repeat (first | exact Pick.here | apply Pick.there)))) | apply Picks.empty)))) ?_)
  ((first | (apply op_call; (· exact rfl)) | apply op_call0); (· exact rfl); rotate_left 1; (· exact fun w hG hw => atl_any w a); rotate_right 1; (· (repeat (first | exact Picks.nil | (apply Picks.cons; (· (repeat (first | exact Pick.here | apply Pick.there)))) | apply Picks.empty))))
  intro _ _
  refine ops_nil ?_
  refine fin_draw ?_
  by_cases h1 : a = md + 1
  · subst h1
    refine dr_stab 7 rfl rfl (Val.s (val_cmp_t rfl rfl rfl (by first | (simp only [cmpP]; done) | (simp only [cmpP]; omega)))) (by decide +kernel) rfl rfl ?_
    (refine dr_done (by decide +kernel) (by (apply le_of_picks; (repeat (first | exact Picks.nil | (apply Picks.cons; (· (repeat (first | exact Pick.here | apply Pick.there)))) | apply Picks.empty)))) ?_)
    refine fin_code ?_
    refine run_cond_t rfl ?_
    refine run_seq ?_
    refine run_region rfl ?_
    refine op_move rfl rfl ?_
    refine op_nilCheck rfl rfl ?_
    refine op_fieldAddr rfl rfl ?_
    (apply op_load; (· exact rfl); (· exact rfl); (· apply cell_of_has; (· (repeat (first | exact Has.here | apply Has.there))); (· first | exact rfl)))
    refine op_add rfl rfl rfl (by simp only [kLo, kHi]; omega) ?_
    refine op_build rfl rfl rfl (by first | (intro v hv; simp at hv; done) | (intro v hv; simp at hv; rcases hv with rfl | rfl | rfl | rfl | rfl | rfl | rfl <;> rfl) | (intro v hv; simp at hv; rcases hv with rfl | rfl | rfl | rfl | rfl | rfl <;> rfl) | (intro v hv; simp at hv; rcases hv with rfl | rfl | rfl | rfl | rfl <;> rfl) | (intro v hv; simp at hv; rcases hv with rfl | rfl | rfl | rfl <;> rfl) | (intro v hv; simp at hv; rcases hv with rfl | rfl | rfl <;> rfl) | (intro v hv; simp at hv; rcases hv with rfl | rfl <;> rfl) | (intro v hv; simp at hv; rcases hv with rfl; rfl)) rfl ?_
    (refine op_val rfl (val_iface rfl) ?_)
    refine op_assign rfl rfl ?_
    refine ops_nil ?_
    refine fin_code ?_
    refine run_ret ?_
    refine fin_ret_code ?_
    refine fin_ret1 rfl rfl ?_
    intro w' g
    exact hR _ _ (post_of g () trivial (by simp) (by (apply le_of_picks; (repeat (first | exact Picks.nil | (apply Picks.cons; (· (repeat (first | exact Pick.here | apply Pick.there)))) | apply Picks.empty)))))
  · skip
    refine dr_stab 7 rfl rfl (Val.s (val_cmp_f rfl rfl rfl (by first | (simp only [cmpP]; done) | (simp only [cmpP]; omega)))) (by decide +kernel) rfl rfl ?_
    (refine dr_done (by decide +kernel) (by (apply le_of_picks; (repeat (first | exact Picks.nil | (apply Picks.cons; (· (repeat (first | exact Pick.here | apply Pick.there)))) | apply Picks.empty)))) ?_)
    refine fin_code ?_
    refine run_cond_f rfl ?_
    refine run_skip ?_
    refine fin_code ?_
    refine run_seq ?_
    refine run_region rfl ?_
    (apply op_loadAll; (· exact rfl); (· exact rfl); (· (repeat (first | exact Has.here | apply Has.there))); (· exact rfl))
    (refine op_val rfl (val_iface rfl) ?_)
    refine op_assign rfl rfl ?_
    refine ops_nil ?_
    refine fin_code ?_
    refine run_ret ?_
    refine fin_ret1 rfl rfl ?_
    intro w' g
    exact hR _ _ (post_of g () trivial rfl (by (apply le_of_picks; (repeat (first | exact Picks.nil | (apply Picks.cons; (· (repeat (first | exact Pick.here | apply Pick.there)))) | apply Picks.empty)))))
set_option maxRecDepth 100000 in
set_option maxHeartbeats 8000000 in
theorem zzSD_any (w : World) (p md : Nat) (dam : Bool) (v1 : Value) (l : List NS) (lv1 : Hp) (len : Nat) (ho : Own 82 3 v1 l.length (l.flatMap nsV) lv1) (hmd : md ≤ 100) (hlen : len < 4294967296) (hl : ∀ s ∈ l, s.o < 4294967296 ∧ s.d + ad s.o len ≤ 255) (hn : l.length ≤ 60000)
    (hw : At w ([laB p md dam, lv1] : List Hp).flatten) :
    Calls Try.prog 32 #[.pointer (some ⟨p, 0, none⟩), v1, .int .u32 len] w (Post w ([laB p md dam, lv1] : List Hp).flatten (fun _ : Unit => .iface 117 (.agg #[.int .u8 (leastP (md + 1) len l : Nat)])) (fun _ => ([laB p md dam, lv1] : List Hp).flatten) (fun _ => True)) := by
  refine enter [laB p md dam, lv1] Try.func32 rfl rfl hw (Le.refl _) ?_
  intro R hR
  obtain ⟨A1, c1, rfl⟩ := ho.isSlice
  have TR := fun (c : Nat) (w : World) hw => msd_any w p md dam c (.slice A1 l.length c1) l lv1 len ho hmd hlen hl hn hw
  dsimp only [laB, msB] at TR ⊢
  refine run_seq ?_
  refine run_region rfl ?_
  refine op_assign rfl rfl ?_
  refine ops_nil ?_
  refine fin_code ?_
  refine run_seq ?_
  refine run_region rfl ?_
  refine op_move rfl rfl ?_
  refine op_move rfl rfl ?_
  refine op_build rfl rfl rfl (by first | (intro v hv; simp at hv; done) | (intro v hv; simp at hv; rcases hv with rfl | rfl | rfl | rfl | rfl | rfl | rfl <;> rfl) | (intro v hv; simp at hv; rcases hv with rfl | rfl | rfl | rfl | rfl | rfl <;> rfl) | (intro v hv; simp at hv; rcases hv with rfl | rfl | rfl | rfl | rfl <;> rfl) | (intro v hv; simp at hv; rcases hv with rfl | rfl | rfl | rfl <;> rfl) | (intro v hv; simp at hv; rcases hv with rfl | rfl | rfl <;> rfl) | (intro v hv; simp at hv; rcases hv with rfl | rfl <;> rfl) | (intro v hv; simp at hv; rcases hv with rfl; rfl)) rfl ?_
  refine op_boxE (cs := #[.slice A1 l.length c1]) rfl rfl (by simp [Value.cells]) ?_
  intro c _
  refine op_move rfl rfl ?_
  ((first | (apply op_call; (· exact rfl)) | apply op_call0); (· exact rfl); rotate_left 1; (· exact fun w hG hw => TR c w hw); rotate_right 1; (· (repeat (first | exact Picks.nil | (apply Picks.cons; (· (repeat (first | exact Pick.here | apply Pick.there)))) | apply Picks.empty))))
  intro _ _
  refine op_assign rfl rfl ?_
  refine ops_nil ?_
  refine fin_code ?_
  refine run_ret ?_
  refine fin_ret1 rfl rfl ?_
  intro w' g
  exact hR _ _ (post_of g () trivial rfl (by dsimp only [laB]; (apply le_of_picks; (repeat (first | exact Picks.nil | (apply Picks.cons; (· (repeat (first | exact Pick.here | apply Pick.there)))) | apply Picks.empty)))))
set_option maxRecDepth 100000 in
theorem zzKind_any (w : World) (k : Nat) : Calls Try.prog 46 #[.iface 117 (.agg #[.int .u8 k])] w (Post w ([] : List Hp).flatten (fun _ : Unit => .tuple #[.bool false, .int .u8 k]) (fun _ => ([] : List Hp).flatten) (fun _ => True)) := by
  refine enter [] Try.func46 rfl rfl (At.nil w) (Le.refl _) ?_
  intro R hR
  refine run_seq ?_
  refine run_region rfl ?_
  refine op_assign rfl rfl ?_
  refine op_assign rfl rfl ?_
  refine ops_nil ?_
  refine fin_code ?_
  refine run_seq ?_
  refine run_region rfl ?_
  refine op_move rfl rfl ?_
  (refine op_val rfl (val_assert_no rfl rfl) ?_)
  refine op_move rfl rfl ?_
  refine op_extract rfl rfl rfl ?_
  refine op_extract rfl rfl rfl ?_
  (refine op_alloc rfl ?_; intro _ _)
  (apply op_storeAll; (· exact rfl); (· exact rfl); (· exact rfl); (· first | exact nsV_one _ | exact onesC rfl); (· (repeat (first | exact Swap.here | apply Swap.there))); (· exact rfl))
  refine op_assign rfl rfl ?_
  refine ops_nil ?_
  refine fin_code ?_
  refine run_seq ?_
  refine run_region rfl ?_
  refine op_move rfl rfl ?_
  refine op_move rfl rfl ?_
  ((first | (apply op_invE 117 59; (· infer_instance); (· infer_instance); (· exact rfl)) | (apply op_inv0E 117 59; (· infer_instance); (· infer_instance))); (· exact rfl); (· exact rfl); rotate_left 1; (· exact fun w hG hw => atl_any w k); rotate_right 1; (· (repeat (first | exact Picks.nil | (apply Picks.cons; (· (repeat (first | exact Pick.here | apply Pick.there)))) | apply Picks.empty))))
  intro _ _
  refine op_assign rfl rfl ?_
  refine op_assign rfl rfl ?_
  refine ops_nil ?_
  refine fin_code ?_
  refine run_ret ?_
  refine fin_ret2 rfl rfl rfl ?_
  intro w' g
  exact hR _ _ (post_of g () trivial rfl (by (apply le_of_picks; (repeat (first | exact Picks.nil | (apply Picks.cons; (· (repeat (first | exact Pick.here | apply Pick.there)))) | apply Picks.empty)))))
set_option maxRecDepth 100000 in
theorem kind_any (w : World) (k : Nat) : Calls Try.prog 31 #[.iface 117 (.agg #[.int .u8 k])] w (Post w ([] : List Hp).flatten (fun _ : Unit => .tuple #[.bool false, .int .u8 k]) (fun _ => ([] : List Hp).flatten) (fun _ => True)) := by
  refine enter [] Try.func31 rfl rfl (At.nil w) (Le.refl _) ?_
  intro R hR
  refine run_seq ?_
  refine run_region rfl ?_
  refine op_assign rfl rfl ?_
  refine op_assign rfl rfl ?_
  refine ops_nil ?_
  refine fin_code ?_
  refine run_seq ?_
  refine run_region rfl ?_
  refine op_move rfl rfl ?_
  ((first | (apply op_call; (· exact rfl)) | apply op_call0); (· exact rfl); rotate_left 1; (· exact fun w hG hw => zzKind_any w k); rotate_right 1; (· (repeat (first | exact Picks.nil | (apply Picks.cons; (· (repeat (first | exact Pick.here | apply Pick.there)))) | apply Picks.empty))))
  intro _ _
  refine op_extract rfl rfl rfl ?_
  refine op_extract rfl rfl rfl ?_
  refine op_assign rfl rfl ?_
  refine op_assign rfl rfl ?_
  refine ops_nil ?_
  refine fin_code ?_
  refine run_ret ?_
  refine fin_ret2 rfl rfl rfl ?_
  intro w' g
  exact hR _ _ (post_of g () trivial rfl (by (apply le_of_picks; (repeat (first | exact Picks.nil | (apply Picks.cons; (· (repeat (first | exact Pick.here | apply Pick.there)))) | apply Picks.empty)))))
set_option maxRecDepth 100000 in
set_option maxHeartbeats 8000000 in
theorem pdist_any (w : World) (A : Option Addr) (n c len md : Nat) (l : List NS) (hln : l.length = n) (hr : Rd w w.heap.size A (l.flatMap nsV)) (hmd : md ≤ 100) (hlen : len < 4294967296) (hl : ∀ s ∈ l, s.o < 4294967296 ∧ s.d + ad s.o len ≤ 255) (hn : n ≤ 60000) :
    Calls Try.prog 16 #[.slice A n c, .int .u32 len, .int .u8 md] w (Post w ([] : List Hp).flatten (fun _ : Unit => .tuple #[.bool false, .int .u8 (leastP (md + 1) len l : Nat)]) (fun _ => ([] : List Hp).flatten) (fun _ => True)) := by
  subst hln
  refine enter [] Try.func16 rfl rfl (At.nil w) (Le.refl _) ?_
  intro R hR
  refine run_seq ?_
  refine run_region rfl ?_
  refine op_assign rfl rfl ?_
  refine op_assign rfl rfl ?_
  refine ops_nil ?_
  refine fin_code ?_
  refine run_seq ?_
  refine run_region rfl ?_
  refine op_move rfl rfl ?_
  ((first | (apply op_call; (· exact rfl)) | apply op_call0); (· exact rfl); rotate_left 1; (· exact fun w hG hw => zzNfa_any w md false); rotate_right 1; (· (repeat (first | exact Picks.nil | (apply Picks.cons; (· (repeat (first | exact Pick.here | apply Pick.there)))) | apply Picks.empty))))
  intro p _
  refine op_move rfl rfl ?_
  ((first | (apply op_call; (· exact rfl)) | apply op_call0); (· exact rfl)); (case' hc => (refine fun w hG hw => in_any w A l.length c l rfl hn ?_)); (case hp => (repeat (first | exact Picks.nil | (apply Picks.cons; (· (repeat (first | exact Pick.here | apply Pick.there)))) | apply Picks.empty)))
  · exact hr.now hG
  rintro ⟨v1, lv1⟩ ho1
  dsimp only at ho1 ⊢
  refine op_move rfl rfl ?_
  ((first | (apply op_call; (· exact rfl)) | apply op_call0); (· exact rfl); rotate_left 1; (· exact fun w hG hw => zzSD_any w p md false v1 l lv1 len ho1 hmd hlen hl hn hw); rotate_right 1; (· (repeat (first | exact Picks.nil | (apply Picks.cons; (· (repeat (first | exact Pick.here | apply Pick.there)))) | apply Picks.empty))))
  intro _ _
  skip
  ((first | (apply op_call; (· exact rfl)) | apply op_call0); (· exact rfl); rotate_left 1; (· exact fun w hG hw => kind_any w (leastP (md + 1) len l)); rotate_right 1; (· (repeat (first | exact Picks.nil | (apply Picks.cons; (· (repeat (first | exact Pick.here | apply Pick.there)))) | apply Picks.empty))))
  intro _ _
  refine op_extract rfl rfl rfl ?_
  refine op_extract rfl rfl rfl ?_
  refine op_assign rfl rfl ?_
  refine op_assign rfl rfl ?_
  refine ops_nil ?_
  refine fin_code ?_
  refine run_ret ?_
  refine fin_ret2 rfl rfl rfl ?_
  intro w' g
  exact hR _ _ (post_of g () trivial rfl (by (apply le_of_picks; (repeat (first | exact Picks.nil | (apply Picks.cons; (· (repeat (first | exact Pick.here | apply Pick.there)))) | apply Picks.empty)))))
set_option maxRecDepth 100000 in
theorem told_any (w : World) (d md want : Nat) (hd : d ≤ 255) (hmd : md ≤ 255) (hw : want ≤ 1000000) : Calls Try.prog 17 #[.int .u8 d, .int .u8 md, .int .i64 want] w (Post w ([] : List Hp).flatten (fun _ : Unit => .bool (decide (d = min want (md + 1)))) (fun _ => ([] : List Hp).flatten) (fun _ => True)) := by
  refine enter [] Try.func17 rfl rfl (At.nil w) (Le.refl _) ?_
  intro R hR
  by_cases h1 : (md : Int) + 1 < want
  · rw [show min want (md + 1) = md + 1 by omega] at hR
    have hif : (if (md : Int) + 1 < want then (md : Int) + 1 else (want : Int)) = (md : Int) + 1 := if_pos h1
    by_cases h : d = md + 1
    · rw [decide_eq_true h] at hR
      refine run_seq ?_
      refine run_region rfl ?_
      refine op_assign rfl rfl ?_
      refine ops_nil ?_
      refine fin_code ?_
      refine run_seq ?_
      refine run_region rfl ?_
      refine op_move rfl rfl ?_
      refine op_conv rfl rfl (by simp only [kLo, kHi]; omega) ?_
      refine op_move rfl rfl ?_
      refine op_move rfl rfl ?_
      refine op_conv rfl rfl (by simp only [kLo, kHi]; omega) ?_
      refine op_add rfl rfl rfl (by simp only [kLo, kHi]; omega) ?_
      refine op_min rfl rfl rfl ?_
      refine op_cmp_t rfl rfl rfl rfl (by first | (simp only [cmpP]; done) | (simp only [cmpP]; omega)) ?_
      refine op_assign rfl rfl ?_
      refine ops_nil ?_
      refine fin_code ?_
      refine run_ret ?_
      rw [hif]
      skip
      refine fin_ret1 rfl rfl ?_
      intro w' g
      exact hR _ _ (post_of g () trivial rfl (by (apply le_of_picks; (repeat (first | exact Picks.nil | (apply Picks.cons; (· (repeat (first | exact Pick.here | apply Pick.there)))) | apply Picks.empty)))))
    · rw [decide_eq_false h] at hR
      refine run_seq ?_
      refine run_region rfl ?_
      refine op_assign rfl rfl ?_
      refine ops_nil ?_
      refine fin_code ?_
      refine run_seq ?_
      refine run_region rfl ?_
      refine op_move rfl rfl ?_
      refine op_conv rfl rfl (by simp only [kLo, kHi]; omega) ?_
      refine op_move rfl rfl ?_
      refine op_move rfl rfl ?_
      refine op_conv rfl rfl (by simp only [kLo, kHi]; omega) ?_
      refine op_add rfl rfl rfl (by simp only [kLo, kHi]; omega) ?_
      refine op_min rfl rfl rfl ?_
      refine op_cmp_f rfl rfl rfl rfl (by first | (simp only [cmpP]; done) | (simp only [cmpP]; omega)) ?_
      refine op_assign rfl rfl ?_
      refine ops_nil ?_
      refine fin_code ?_
      refine run_ret ?_
      rw [hif]
      skip
      refine fin_ret1 rfl rfl ?_
      intro w' g
      exact hR _ _ (post_of g () trivial rfl (by (apply le_of_picks; (repeat (first | exact Picks.nil | (apply Picks.cons; (· (repeat (first | exact Pick.here | apply Pick.there)))) | apply Picks.empty)))))
  · rw [show min want (md + 1) = want by omega] at hR
    have hif : (if (md : Int) + 1 < want then (md : Int) + 1 else (want : Int)) = (want : Int) := if_neg h1
    by_cases h : d = want
    · rw [decide_eq_true h] at hR
      refine run_seq ?_
      refine run_region rfl ?_
      refine op_assign rfl rfl ?_
      refine ops_nil ?_
      refine fin_code ?_
      refine run_seq ?_
      refine run_region rfl ?_
      refine op_move rfl rfl ?_
      refine op_conv rfl rfl (by simp only [kLo, kHi]; omega) ?_
      refine op_move rfl rfl ?_
      refine op_move rfl rfl ?_
      refine op_conv rfl rfl (by simp only [kLo, kHi]; omega) ?_
      refine op_add rfl rfl rfl (by simp only [kLo, kHi]; omega) ?_
      refine op_min rfl rfl rfl ?_
      refine op_cmp_t rfl rfl rfl rfl (by first | (simp only [cmpP]; done) | (simp only [cmpP]; omega)) ?_
      refine op_assign rfl rfl ?_
      refine ops_nil ?_
      refine fin_code ?_
      refine run_ret ?_
      rw [hif]
      skip
      refine fin_ret1 rfl rfl ?_
      intro w' g
      exact hR _ _ (post_of g () trivial rfl (by (apply le_of_picks; (repeat (first | exact Picks.nil | (apply Picks.cons; (· (repeat (first | exact Pick.here | apply Pick.there)))) | apply Picks.empty)))))
    · rw [decide_eq_false h] at hR
      refine run_seq ?_
      refine run_region rfl ?_
      refine op_assign rfl rfl ?_
      refine ops_nil ?_
      refine fin_code ?_
      refine run_seq ?_
      refine run_region rfl ?_
      refine op_move rfl rfl ?_
      refine op_conv rfl rfl (by simp only [kLo, kHi]; omega) ?_
      refine op_move rfl rfl ?_
      refine op_move rfl rfl ?_
      refine op_conv rfl rfl (by simp only [kLo, kHi]; omega) ?_
      refine op_add rfl rfl rfl (by simp only [kLo, kHi]; omega) ?_
      refine op_min rfl rfl rfl ?_
      refine op_cmp_f rfl rfl rfl rfl (by first | (simp only [cmpP]; done) | (simp only [cmpP]; omega)) ?_
      refine op_assign rfl rfl ?_
      refine ops_nil ?_
      refine fin_code ?_
      refine run_ret ?_
      rw [hif]
      skip
      refine fin_ret1 rfl rfl ?_
      intro w' g
      exact hR _ _ (post_of g () trivial rfl (by (apply le_of_picks; (repeat (first | exact Picks.nil | (apply Picks.cons; (· (repeat (first | exact Pick.here | apply Pick.there)))) | apply Picks.empty)))))
end Go.Proofs.Eng
