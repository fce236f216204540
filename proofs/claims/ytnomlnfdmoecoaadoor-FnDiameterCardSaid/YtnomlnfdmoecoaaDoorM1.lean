/- A part of the proof: what functions of the program do, step by step. -/
import Derived.Test.YtnomlnfdmoecoaaDoorHa
import Derived.Test.YtnomlnfdmoecoaaDoorM0
set_option linter.unusedVariables false
set_option linter.unusedSimpArgs false
namespace Go.Proofs.Eng
open Go.RowKit
/-- A set of places that was found: its places, the slice that holds them, and where they lie. -/
abbrev It := List NS × Value × Hp
def hsK (K : Nat → Int) (its : List It) : List (List Int) := its.map fun x => hashF K x.1
def gN (K : Nat → Int) (its : List It) (l : List NS) : Nat := (hsK K its).findIdx fun x => decide (x = hashF K l)
def gT (K : Nat → Int) (its : List It) (x : It) : List It := if (hsK K its).any (fun y => decide (y = hashF K x.1)) = true then its else its ++ [x]
def itV (its : List It) : List Value := its.map (·.2.1)
def itB (its : List It) : Hp := its.flatMap (·.2.2)
theorem hsK_len (K : Nat → Int) (its : List It) : (hsK K its).length = its.length := by simp [hsK]
theorem hashF_len (K : Nat → Int) (l : List NS) : (hashF K l).length = 32 := shaF_len K _
theorem hsK_each (K : Nat → Int) (its : List It) : ∀ x ∈ hsK K its, x.length = 32 := by
  intro x hx
  obtain ⟨y, _, rfl⟩ := List.mem_map.1 hx
  exact hashF_len K _
set_option maxRecDepth 100000 in
set_option maxHeartbeats 4000000 in
theorem goa_any (w : World) (q mb : Nat) (vI : Value) (lI : Hp) (its : List It) (l : List NS) (v : Value) (lm : Hp) (K : Nat → Int) (kv : List Value) (B : Nat) (hBw : B ≤ w.heap.size)
    (hI : Own 67 1 vI (hsK K its).length (itV its) lI) (hm : Own 87 3 v l.length (l.flatMap nsV) lm) (hl : l.length ≤ 500) (hall : ∀ s ∈ l, s.o ≤ 4294967295 ∧ s.d ≤ 255) (hits : (hsK K its).length ≤ 1000)
    (hK : RdB w B 1 kv) (hkv : ∀ i, i < 64 → kv[i]? = some (.int .u32 (K i)))
    (hL0 : ∀ k ∈ ids ([[⟨q, .cells #[.map (some mb), vI] 74 (0, 0)⟩], [⟨mb, .map (entsF 0 (hsK K its)).toArray (hsK K its).length⟩], lI, itB its, lm] : List Hp).flatten, B ≤ k)
    (hw : At w ([[⟨q, .cells #[.map (some mb), vI] 74 (0, 0)⟩], [⟨mb, .map (entsF 0 (hsK K its)).toArray (hsK K its).length⟩], lI, itB its, lm] : List Hp).flatten) :
    Calls Tryd.prog 22 #[.pointer (some ⟨q, 0, none⟩), .agg #[v]] w (Post w ([[⟨q, .cells #[.map (some mb), vI] 74 (0, 0)⟩], [⟨mb, .map (entsF 0 (hsK K its)).toArray (hsK K its).length⟩], lI, itB its, lm] : List Hp).flatten (fun _ : Value × Hp => .int .i64 (gN K its l : Nat))
      (fun x => ([[⟨q, .cells #[.map (some mb), x.1] 74 (0, 0)⟩], [⟨mb, .map (entsF 0 (hsK K (gT K its (l, v, lm)))).toArray (hsK K (gT K its (l, v, lm))).length⟩], x.2, itB (gT K its (l, v, lm))] : List Hp).flatten)
      (fun x => Own 67 1 x.1 (hsK K (gT K its (l, v, lm))).length (itV (gT K its (l, v, lm))) x.2)) := by
  refine enter [[⟨q, .cells #[.map (some mb), vI] 74 (0, 0)⟩], [⟨mb, .map (entsF 0 (hsK K its)).toArray (hsK K its).length⟩], lI, itB its, lm] Tryd.func22 rfl rfl hw (Le.refl _) ?_
  intro R hR
  obtain ⟨A, cI, rfl⟩ := hI.isSlice
  obtain ⟨Am, cm, rfl⟩ := hm.isSlice
  iterate 3 (first | refine op_move rfl rfl ?_ | refine op_assign rfl rfl ?_ | refine op_nilCheck rfl rfl ?_ | refine op_fieldAddr rfl rfl ?_ | (apply op_load; (· exact rfl); (· exact rfl); (· apply cell_of_has; (· (repeat (first | exact Has.here | apply Has.there))); (· first | exact rfl))) | (apply op_store; (· exact rfl); (· exact rfl); (· exact rfl); (· (repeat (first | exact Swap.here | apply Swap.there))); (· first | decide | (simp; done) | (simp; omega) | assumption)) | refine op_index rfl rfl rfl (by omega) (by first | (rw [Int.toNat_natCast, Nat.mul_one, Nat.zero_add]) | (rw [Int.toNat_natCast, Nat.mul_one]) | (rw [Int.toNat_natCast, Nat.zero_add]) | (rw [Int.toNat_natCast]) | exact rfl) ?_ | refine op_len rfl rfl ?_ | refine op_cap rfl rfl ?_ | refine op_add rfl rfl rfl (by simp only [kLo, kHi]; omega) ?_ | refine op_sub rfl rfl rfl (by simp only [kLo, kHi]; omega) ?_ | refine op_cmp_t rfl rfl rfl rfl (by first | (simp only [cmpP]; done) | (simp only [cmpP]; omega)) ?_ | refine op_cmp_f rfl rfl rfl rfl (by first | (simp only [cmpP]; done) | (simp only [cmpP]; omega)) ?_ | refine op_pick_t rfl rfl rfl ?_ | refine op_pick_f rfl rfl rfl ?_ | refine ops_guard_yes rfl rfl rfl ?_ | refine ops_off1 rfl rfl ?_ | refine ops_off0 rfl ?_ | refine op_build rfl rfl rfl (by first | (intro v hv; simp at hv; done) | (intro v hv; simp at hv; rcases hv with rfl | rfl | rfl | rfl | rfl | rfl | rfl <;> rfl) | (intro v hv; simp at hv; rcases hv with rfl | rfl | rfl | rfl | rfl | rfl <;> rfl) | (intro v hv; simp at hv; rcases hv with rfl | rfl | rfl | rfl | rfl <;> rfl) | (intro v hv; simp at hv; rcases hv with rfl | rfl | rfl | rfl <;> rfl) | (intro v hv; simp at hv; rcases hv with rfl | rfl | rfl <;> rfl) | (intro v hv; simp at hv; rcases hv with rfl | rfl <;> rfl) | (intro v hv; simp at hv; rcases hv with rfl; rfl)) rfl ?_ | (refine op_box rfl rfl ?_; intro _ _) | (refine op_alloc rfl ?_; intro _ _) | (refine op_slice1 rfl rfl (by first | rfl | simp [Value.cells]) (by decide) ?_; intro _ _) | (refine op_make1 rfl rfl rfl rfl (by omega) (by omega) ?_; intro _ _) | (refine op_makeC rfl rfl rfl (by decide) rfl (by decide) (by decide) ?_; intro _ _) | (refine op_make rfl rfl rfl (by omega) (by omega) ?_; intro _ _) | refine op_extract rfl rfl rfl ?_ | (apply op_loadAll; (· exact rfl); (· exact rfl); (· (repeat (first | exact Has.here | apply Has.there))); (· exact rfl)) | refine op_not rfl rfl ?_ | refine op_remN rfl rfl rfl (by omega) ?_ | refine op_quoN rfl rfl rfl (by omega) (by simp only [kHi]; omega) ?_ | refine op_min rfl rfl rfl ?_ | refine op_max rfl rfl rfl ?_ | refine op_buildA rfl rfl rfl (by first | (intro v hv; simp at hv; done) | (intro v hv; simp at hv; rcases hv with rfl | rfl | rfl | rfl | rfl | rfl | rfl <;> rfl) | (intro v hv; simp at hv; rcases hv with rfl | rfl | rfl | rfl | rfl | rfl <;> rfl) | (intro v hv; simp at hv; rcases hv with rfl | rfl | rfl | rfl | rfl <;> rfl) | (intro v hv; simp at hv; rcases hv with rfl | rfl | rfl | rfl <;> rfl) | (intro v hv; simp at hv; rcases hv with rfl | rfl | rfl <;> rfl) | (intro v hv; simp at hv; rcases hv with rfl | rfl <;> rfl) | (intro v hv; simp at hv; rcases hv with rfl; rfl)) rfl ?_ | (refine op_sliceN rfl rfl rfl (by first | (intro v hv; simp at hv; done) | (intro v hv; simp at hv; rcases hv with rfl | rfl | rfl | rfl | rfl | rfl | rfl <;> rfl) | (intro v hv; simp at hv; rcases hv with rfl | rfl | rfl | rfl | rfl | rfl <;> rfl) | (intro v hv; simp at hv; rcases hv with rfl | rfl | rfl | rfl | rfl <;> rfl) | (intro v hv; simp at hv; rcases hv with rfl | rfl | rfl | rfl <;> rfl) | (intro v hv; simp at hv; rcases hv with rfl | rfl | rfl <;> rfl) | (intro v hv; simp at hv; rcases hv with rfl | rfl <;> rfl) | (intro v hv; simp at hv; rcases hv with rfl; rfl)) rfl rfl (by decide) ?_; intro _ _) | (refine op_append_nil rfl rfl rfl (by omega) ?_) | refine op_conv rfl rfl (by simp only [kLo, kHi]; omega) ?_ | refine ops_nil ?_ | (apply J1) | refine run_seq ?_ | refine run_region rfl ?_ | refine fin_code ?_ | refine run_block ?_ | refine fin_block ?_ | refine run_skip ?_ | refine run_cond_t rfl ?_ | refine run_cond_f rfl ?_ | refine run_exit ?_ | refine fin_exit_code ?_ | refine fin_exit_here ?_ | refine fin_exit_past rfl ?_ | refine fin_exit_inv ?_ | refine run_ret ?_ | refine fin_ret_code ?_ | refine fin_ret_block ?_ | refine fin_ret_inv ?_ | (apply op_storeAll; (· exact rfl); (· exact rfl); (· exact hdlA); (· exact u8_oneA dl); (· (repeat (first | exact Swap.here | apply Swap.there))); (· exact rfl)))
  rename_i gm hgm
  refine op_assign rfl rfl ?_
  refine ops_nil ?_
  refine fin_code ?_
  refine run_seq ?_
  refine run_region rfl ?_
  refine op_move rfl rfl ?_
  refine op_nilCheck rfl rfl ?_
  refine op_fieldAddr rfl rfl ?_
  (apply op_load; (· exact rfl); (· exact rfl); (· apply cell_of_has; (· (repeat (first | exact Has.here | apply Has.there))); (· first | exact rfl)))
  refine op_len rfl rfl ?_
  refine op_assign rfl rfl ?_
  refine ops_nil ?_
  refine fin_code ?_
  refine run_seq ?_
  refine run_region rfl ?_
  refine op_assign rfl rfl ?_
  refine ops_nil ?_
  refine fin_code ?_
  refine run_seq ?_
  refine run_region rfl ?_
  refine op_assign rfl rfl ?_
  refine ops_nil ?_
  refine fin_code ?_
  refine run_seq ?_
  refine run_region rfl ?_
  ((first | (apply op_call; (· exact rfl)) | apply op_call0); (· exact rfl)); (case' hc => (refine fun w hG hw => hash_any w gm 0 Am cm l K kv B ?_ ?_ hkv ?_ hl hall ?_)); (case hp => (repeat (first | exact Picks.nil | (apply Picks.cons; (· (repeat (first | exact Pick.here | apply Pick.there)))) | apply Picks.empty)))
  · exact Nat.le_trans hBw hG.size
  · exact RdB.nowD hK hG hL0 hBw
  · have hh := At.item hG.now (l := [⟨gm, .cells #[.slice Am l.length cm] 67 (0, 0)⟩]) (by (repeat (first | exact Pick.here | apply Pick.there)))
    rw [cell_of_heap (hh.here ⟨gm, .cells #[.slice Am l.length cm] 67 (0, 0)⟩ (by simp))]
    rfl
  · have hh : At w lm := At.item hG.now (by (repeat (first | exact Pick.here | apply Pick.there)))
    rcases hm.rd hh with h | ⟨g, o, h1, _, h3⟩
    · left
      cases l with
      | nil => rfl
      | cons s l => simp [nsV] at h
    · exact .inr ⟨g, o, h1, h3⟩
  intro _ _
  obtain ⟨dl, hdl⟩ : ∃ dl, dl = hashF K l := ⟨_, rfl⟩
  rw [← hdl]
  have hdl0 : dl.length = 32 := by rw [hdl, hashF_len]
  have hdlA : (u8V dl).toArray.size = 32 := by rw [u8V_size, hdl0]
  skip
  refine op_alloc rfl ?_
  intro gd hgd
  (apply op_storeAll; (· exact rfl); (· exact rfl); (· exact hdlA); (· exact u8_oneA dl); (· (repeat (first | exact Swap.here | apply Swap.there))); (· exact rfl))
  refine ops_nil ?_
  refine fin_code ?_
  refine run_seq ?_
  refine run_seq ?_
  rcases hany : (hsK K its).any (fun y => decide (y = dl)) with _ | _
  · have hT : gT K its (l, .slice Am l.length cm, lm) = its ++ [(l, .slice Am l.length cm, lm)] := by
      unfold gT
      rw [← hdl, hany]
      rfl
    have hN : gN K its l = (hsK K its).length := by
      unfold gN
      rw [← hdl]
      exact List.findIdx_eq_length_of_false (fun x hx => by
        have := List.any_eq_false.1 hany x hx
        simpa using this)
    rw [hT, hN] at hR
    refine run_drawS [] (by kernel_rfl) ?_
    refine dr_stab 0 rfl rfl (Val.s (val_move rfl)) (by decide +kernel) rfl rfl ?_
    refine dr_stab 1 rfl rfl (Val.s (val_nilCheck rfl)) (by decide +kernel) rfl rfl ?_
    refine dr_stab 2 rfl rfl (Val.s (val_fieldAddr rfl)) (by decide +kernel) rfl rfl ?_
    (apply dr_read 3; (· exact rfl); (· exact rfl); (· (first | (apply val_load; (· exact rfl); (· apply cell_of_has; (· (repeat (first | exact Has.here | apply Has.there))); (· first | exact rfl))) | (apply val_loadAll; (· exact rfl); (· (repeat (first | exact Has.here | apply Has.there))); (· first | exact hdlA | exact rfl)))); (· decide +kernel); (· exact rfl); (· exact rfl))
    (apply dr_read 4; (· exact rfl); (· exact rfl); (· (first | (apply val_load; (· exact rfl); (· apply cell_of_has; (· (repeat (first | exact Has.here | apply Has.there))); (· first | exact rfl))) | (apply val_loadAll; (· exact rfl); (· (repeat (first | exact Has.here | apply Has.there))); (· first | exact hdlA | exact rfl)))); (· decide +kernel); (· exact rfl); (· exact rfl))
    refine dr_one 5 rfl (by decide +kernel) (by (apply le_of_picks; (repeat (first | exact Picks.nil | (apply Picks.cons; (· (repeat (first | exact Pick.here | apply Pick.there)))) | apply Picks.empty)))) ?_
    refine op_valAt rfl (val_lookup (r := .tuple #[.int .i64 0, .bool false]) rfl rfl (by (repeat (first | exact Has.here | apply Has.there))) hdl0 (hsK_each K its) (by rw [hany]; rfl)) ?_
    refine ops_nil ?_
    refine fin_draw ?_
    refine dr_stab 6 rfl rfl (Val.s (val_move rfl)) (by decide +kernel) rfl rfl ?_
    refine dr_stab 7 rfl rfl (Val.s (val_extract rfl rfl)) (by decide +kernel) rfl rfl ?_
    refine dr_stab 8 rfl rfl (Val.s (val_extract rfl rfl)) (by decide +kernel) rfl rfl ?_
    refine dr_stab 9 rfl rfl (Val.s (val_assign rfl)) (by decide +kernel) rfl rfl ?_
    refine dr_stab 10 rfl rfl (Val.s (val_assign rfl)) (by decide +kernel) rfl rfl ?_
    (refine dr_done (by decide +kernel) (by (apply le_of_picks; (repeat (first | exact Picks.nil | (apply Picks.cons; (· (repeat (first | exact Pick.here | apply Pick.there)))) | apply Picks.empty)))) ?_)
    refine fin_code ?_
    refine run_seq ?_
    refine run_region rfl ?_
    refine op_move rfl rfl ?_
    refine op_not rfl rfl ?_
    refine ops_nil ?_
    refine fin_code ?_
    refine run_cond_t rfl ?_
    refine run_seq ?_
    refine run_drawS [] (by kernel_rfl) ?_
    refine dr_stab 0 rfl rfl (Val.s (val_move rfl)) (by decide +kernel) rfl rfl ?_
    refine dr_stab 1 rfl rfl (Val.s (val_nilCheck rfl)) (by decide +kernel) rfl rfl ?_
    refine dr_stab 2 rfl rfl (Val.s (val_fieldAddr rfl)) (by decide +kernel) rfl rfl ?_
    (apply dr_read 3; (· exact rfl); (· exact rfl); (· (first | (apply val_load; (· exact rfl); (· apply cell_of_has; (· (repeat (first | exact Has.here | apply Has.there))); (· first | exact rfl))) | (apply val_loadAll; (· exact rfl); (· (repeat (first | exact Has.here | apply Has.there))); (· first | exact hdlA | exact rfl)))); (· decide +kernel); (· exact rfl); (· exact rfl))
    (apply dr_read 4; (· exact rfl); (· exact rfl); (· (first | (apply val_load; (· exact rfl); (· apply cell_of_has; (· (repeat (first | exact Has.here | apply Has.there))); (· first | exact rfl))) | (apply val_loadAll; (· exact rfl); (· (repeat (first | exact Has.here | apply Has.there))); (· first | exact hdlA | exact rfl)))); (· decide +kernel); (· exact rfl); (· exact rfl))
    refine dr_stab 5 rfl rfl (Val.s (val_move rfl)) (by decide +kernel) rfl rfl ?_
    refine dr_one 6 rfl (by decide +kernel) (by (apply le_of_picks; (repeat (first | exact Picks.nil | (apply Picks.cons; (· (repeat (first | exact Pick.here | apply Pick.there)))) | apply Picks.empty)))) ?_
    refine op_mapUpdate rfl rfl rfl hdl0 (hsK_each K its) hany (by (repeat (first | exact Swap.here | apply Swap.there))) ?_
    refine ops_nil ?_
    refine fin_draw ?_
    (refine dr_done (by decide +kernel) (by (apply le_of_picks; (repeat (first | exact Picks.nil | (apply Picks.cons; (· (repeat (first | exact Pick.here | apply Pick.there)))) | apply Picks.empty)))) ?_)
    refine fin_code ?_
    refine run_seq ?_
    refine run_region rfl ?_
    refine op_move rfl rfl ?_
    refine op_assign rfl rfl ?_
    refine ops_nil ?_
    refine fin_code ?_
    refine run_drawS [] (by kernel_rfl) ?_
    refine dr_stab 0 rfl rfl (Val.s (val_move rfl)) (by decide +kernel) rfl rfl ?_
    refine dr_stab 1 rfl rfl (Val.s (val_move rfl)) (by decide +kernel) rfl rfl ?_
    refine dr_stab 2 rfl rfl (Val.s (val_nilCheck rfl)) (by decide +kernel) rfl rfl ?_
    refine dr_stab 3 rfl rfl (Val.s (val_fieldAddr rfl)) (by decide +kernel) rfl rfl ?_
    (apply dr_read 5; (· exact rfl); (· exact rfl); (· (first | (apply val_load; (· exact rfl); (· apply cell_of_has; (· (repeat (first | exact Has.here | apply Has.there))); (· first | exact rfl))) | (apply val_loadAll; (· exact rfl); (· (repeat (first | exact Has.here | apply Has.there))); (· first | exact hdlA | exact rfl)))); (· decide +kernel); (· exact rfl); (· exact rfl))
    refine dr_two 4 6 rfl rfl (by decide +kernel) (by (apply le_of_picks; (repeat (first | exact Picks.nil | (apply Picks.cons; (· (repeat (first | exact Pick.here | apply Pick.there)))) | apply Picks.empty)))) ?_ ?_
    · (apply op_load; (· exact rfl); (· exact rfl); (· apply cell_of_has; (· (repeat (first | exact Has.here | apply Has.there))); (· first | exact rfl)))
      refine ops_nil ?_
      refine fin_draw ?_
      refine dr_one 6 rfl (by decide +kernel) (by (apply le_of_picks; (repeat (first | exact Picks.nil | (apply Picks.cons; (· (repeat (first | exact Pick.here | apply Pick.there)))) | apply Picks.empty)))) ?_
      (refine op_slice1 rfl rfl (by first | rfl | simp [Value.cells]) (by decide) ?_; intro _ _)
      refine ops_nil ?_
      refine fin_draw ?_
      refine dr_one 7 rfl (by decide +kernel) (by (apply le_of_picks; (repeat (first | exact Picks.nil | (apply Picks.cons; (· (repeat (first | exact Pick.here | apply Pick.there)))) | apply Picks.empty)))) ?_
      (apply op_append1; (· exact rfl); (· exact rfl); (· exact rfl); (· exact hI); (· (repeat (first | exact Pick.here | apply Pick.there))); (· (repeat (first | exact Has.here | apply Has.there))); (· exact rfl); (· first | exact onesC rfl | (intro u hu; simp [Value.cells] at hu; rcases hu with rfl | rfl | rfl | rfl | rfl | rfl <;> rfl) | (intro u hu; simp [Value.cells] at hu; rcases hu with rfl | rfl | rfl <;> rfl) | (intro u hu; simp [Value.cells] at hu; rcases hu with rfl | rfl <;> rfl) | (intro u hu; simp [Value.cells] at hu; subst hu; rfl)); (· omega); (· omega); (· exact rfl))
      intro v2 l2 ho2
      obtain ⟨A2, c2, rfl⟩ := ho2.isSlice
      refine ops_nil ?_
      refine fin_draw ?_
      refine dr_stab 8 rfl rfl (Val.s (val_nilCheck rfl)) (by decide +kernel) rfl rfl ?_
      refine dr_stab 9 rfl rfl (Val.s (val_fieldAddr rfl)) (by decide +kernel) rfl rfl ?_
      (refine dr_one 10 rfl (by decide +kernel) (by (apply le_of_picks; (repeat (first | exact Picks.nil | (apply Picks.cons; (· (repeat (first | exact Pick.here | apply Pick.there)))) | apply Picks.empty)))) ?_)
      (apply op_store; (· exact rfl); (· exact rfl); (· exact rfl); (· (repeat (first | exact Swap.here | apply Swap.there))); (· first | decide | (simp; done) | (simp; omega) | assumption))
      refine ops_nil ?_
      refine fin_draw ?_
      (refine dr_done (by decide +kernel) (by (apply le_of_picks; (repeat (first | exact Picks.nil | (apply Picks.cons; (· (repeat (first | exact Pick.here | apply Pick.there)))) | apply Picks.empty)))) ?_)
      refine fin_code ?_
      refine run_seq ?_
      refine run_region rfl ?_
      refine op_move rfl rfl ?_
      refine op_assign rfl rfl ?_
      refine ops_nil ?_
      refine fin_code ?_
      refine run_ret ?_
      refine fin_ret1 rfl rfl ?_
      intro w' g'
      have e1 : hsK K (its ++ [(l, .slice Am l.length cm, lm)]) = hsK K its ++ [dl] := by simp [hsK, hdl]
      have e2 : itB (its ++ [(l, .slice Am l.length cm, lm)]) = itB its ++ lm := by simp [itB]
      have e3 : itV (its ++ [(l, .slice Am l.length cm, lm)]) = itV its ++ [.slice Am l.length cm] := by simp [itV]
      have ho2' : Own 67 1 (.slice A2 ((hsK K its).length + 1) c2) (hsK K (its ++ [(l, .slice Am l.length cm, lm)])).length (itV (its ++ [(l, .slice Am l.length cm, lm)])) l2 := by
        rw [e1, e3, List.length_append]
        exact ho2
      refine hR _ _ (post_of g' (_, l2) ho2' rfl ?_)
      dsimp only
      rw [e1, e2, flat4]
      (apply le_of_picks; (repeat (first | exact Picks.nil | (apply Picks.cons; (· (repeat (first | exact Pick.here | apply Pick.there)))) | apply Picks.empty)))
    · (refine op_slice1 rfl rfl (by first | rfl | simp [Value.cells]) (by decide) ?_; intro _ _)
      refine ops_nil ?_
      refine fin_draw ?_
      refine dr_one 4 rfl (by decide +kernel) (by (apply le_of_picks; (repeat (first | exact Picks.nil | (apply Picks.cons; (· (repeat (first | exact Pick.here | apply Pick.there)))) | apply Picks.empty)))) ?_
      (apply op_load; (· exact rfl); (· exact rfl); (· apply cell_of_has; (· (repeat (first | exact Has.here | apply Has.there))); (· first | exact rfl)))
      refine ops_nil ?_
      refine fin_draw ?_
      refine dr_one 7 rfl (by decide +kernel) (by (apply le_of_picks; (repeat (first | exact Picks.nil | (apply Picks.cons; (· (repeat (first | exact Pick.here | apply Pick.there)))) | apply Picks.empty)))) ?_
      (apply op_append1; (· exact rfl); (· exact rfl); (· exact rfl); (· exact hI); (· (repeat (first | exact Pick.here | apply Pick.there))); (· (repeat (first | exact Has.here | apply Has.there))); (· exact rfl); (· first | exact onesC rfl | (intro u hu; simp [Value.cells] at hu; rcases hu with rfl | rfl | rfl | rfl | rfl | rfl <;> rfl) | (intro u hu; simp [Value.cells] at hu; rcases hu with rfl | rfl | rfl <;> rfl) | (intro u hu; simp [Value.cells] at hu; rcases hu with rfl | rfl <;> rfl) | (intro u hu; simp [Value.cells] at hu; subst hu; rfl)); (· omega); (· omega); (· exact rfl))
      intro v2 l2 ho2
      obtain ⟨A2, c2, rfl⟩ := ho2.isSlice
      refine ops_nil ?_
      refine fin_draw ?_
      refine dr_stab 8 rfl rfl (Val.s (val_nilCheck rfl)) (by decide +kernel) rfl rfl ?_
      refine dr_stab 9 rfl rfl (Val.s (val_fieldAddr rfl)) (by decide +kernel) rfl rfl ?_
      (refine dr_one 10 rfl (by decide +kernel) (by (apply le_of_picks; (repeat (first | exact Picks.nil | (apply Picks.cons; (· (repeat (first | exact Pick.here | apply Pick.there)))) | apply Picks.empty)))) ?_)
      (apply op_store; (· exact rfl); (· exact rfl); (· exact rfl); (· (repeat (first | exact Swap.here | apply Swap.there))); (· first | decide | (simp; done) | (simp; omega) | assumption))
      refine ops_nil ?_
      refine fin_draw ?_
      (refine dr_done (by decide +kernel) (by (apply le_of_picks; (repeat (first | exact Picks.nil | (apply Picks.cons; (· (repeat (first | exact Pick.here | apply Pick.there)))) | apply Picks.empty)))) ?_)
      refine fin_code ?_
      refine run_seq ?_
      refine run_region rfl ?_
      refine op_move rfl rfl ?_
      refine op_assign rfl rfl ?_
      refine ops_nil ?_
      refine fin_code ?_
      refine run_ret ?_
      refine fin_ret1 rfl rfl ?_
      intro w' g'
      have e1 : hsK K (its ++ [(l, .slice Am l.length cm, lm)]) = hsK K its ++ [dl] := by simp [hsK, hdl]
      have e2 : itB (its ++ [(l, .slice Am l.length cm, lm)]) = itB its ++ lm := by simp [itB]
      have e3 : itV (its ++ [(l, .slice Am l.length cm, lm)]) = itV its ++ [.slice Am l.length cm] := by simp [itV]
      have ho2' : Own 67 1 (.slice A2 ((hsK K its).length + 1) c2) (hsK K (its ++ [(l, .slice Am l.length cm, lm)])).length (itV (its ++ [(l, .slice Am l.length cm, lm)])) l2 := by
        rw [e1, e3, List.length_append]
        exact ho2
      refine hR _ _ (post_of g' (_, l2) ho2' rfl ?_)
      dsimp only
      rw [e1, e2, flat4]
      (apply le_of_picks; (repeat (first | exact Picks.nil | (apply Picks.cons; (· (repeat (first | exact Pick.here | apply Pick.there)))) | apply Picks.empty)))
  · have hT : gT K its (l, .slice Am l.length cm, lm) = its := by
      unfold gT
      rw [← hdl, hany]
      rfl
    have hN : gN K its l = (hsK K its).findIdx (fun x => decide (x = dl)) := by
      unfold gN
      rw [← hdl]
    rw [hT, hN] at hR
    refine run_drawS [] (by kernel_rfl) ?_
    refine dr_stab 0 rfl rfl (Val.s (val_move rfl)) (by decide +kernel) rfl rfl ?_
    refine dr_stab 1 rfl rfl (Val.s (val_nilCheck rfl)) (by decide +kernel) rfl rfl ?_
    refine dr_stab 2 rfl rfl (Val.s (val_fieldAddr rfl)) (by decide +kernel) rfl rfl ?_
    (apply dr_read 3; (· exact rfl); (· exact rfl); (· (first | (apply val_load; (· exact rfl); (· apply cell_of_has; (· (repeat (first | exact Has.here | apply Has.there))); (· first | exact rfl))) | (apply val_loadAll; (· exact rfl); (· (repeat (first | exact Has.here | apply Has.there))); (· first | exact hdlA | exact rfl)))); (· decide +kernel); (· exact rfl); (· exact rfl))
    (apply dr_read 4; (· exact rfl); (· exact rfl); (· (first | (apply val_load; (· exact rfl); (· apply cell_of_has; (· (repeat (first | exact Has.here | apply Has.there))); (· first | exact rfl))) | (apply val_loadAll; (· exact rfl); (· (repeat (first | exact Has.here | apply Has.there))); (· first | exact hdlA | exact rfl)))); (· decide +kernel); (· exact rfl); (· exact rfl))
    refine dr_one 5 rfl (by decide +kernel) (by (apply le_of_picks; (repeat (first | exact Picks.nil | (apply Picks.cons; (· (repeat (first | exact Pick.here | apply Pick.there)))) | apply Picks.empty)))) ?_
    refine op_valAt rfl (val_lookup (r := .tuple #[.int .i64 (((hsK K its).findIdx (fun x => decide (x = dl)) : Nat) : Int), .bool true]) rfl rfl (by (repeat (first | exact Has.here | apply Has.there))) hdl0 (hsK_each K its) (by rw [hany]; rfl)) ?_
    refine ops_nil ?_
    refine fin_draw ?_
    refine dr_stab 6 rfl rfl (Val.s (val_move rfl)) (by decide +kernel) rfl rfl ?_
    refine dr_stab 7 rfl rfl (Val.s (val_extract rfl rfl)) (by decide +kernel) rfl rfl ?_
    refine dr_stab 8 rfl rfl (Val.s (val_extract rfl rfl)) (by decide +kernel) rfl rfl ?_
    refine dr_stab 9 rfl rfl (Val.s (val_assign rfl)) (by decide +kernel) rfl rfl ?_
    refine dr_stab 10 rfl rfl (Val.s (val_assign rfl)) (by decide +kernel) rfl rfl ?_
    (refine dr_done (by decide +kernel) (by (apply le_of_picks; (repeat (first | exact Picks.nil | (apply Picks.cons; (· (repeat (first | exact Pick.here | apply Pick.there)))) | apply Picks.empty)))) ?_)
    refine fin_code ?_
    refine run_seq ?_
    refine run_region rfl ?_
    refine op_move rfl rfl ?_
    refine op_not rfl rfl ?_
    refine ops_nil ?_
    refine fin_code ?_
    refine run_cond_f rfl ?_
    refine run_skip ?_
    refine fin_code ?_
    refine run_seq ?_
    refine run_region rfl ?_
    refine op_move rfl rfl ?_
    refine op_assign rfl rfl ?_
    refine ops_nil ?_
    refine fin_code ?_
    refine run_ret ?_
    refine fin_ret1 rfl rfl ?_
    intro w' g'
    exact hR _ _ (post_of g' (_, lI) hI rfl (by (apply le_of_picks; (repeat (first | exact Picks.nil | (apply Picks.cons; (· (repeat (first | exact Pick.here | apply Pick.there)))) | apply Picks.empty)))))
end Go.Proofs.Eng
