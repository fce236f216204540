/- A part of the proof: what functions of the program do, step by step. -/
import Derived.Test.YtjfpcckdelocpaaDoorY4b
set_option linter.unusedVariables false
set_option linter.unusedSimpArgs false
namespace Go.Proofs.Eng
open Go.RowKit
theorem flatM (a b : Hp) (M1 M2 : List Pool) (x : Pool) : ([a, b, (M1 ++ x :: M2).map poB] : List Hp).flatten = ([a, b, M1.map poB, [poB x], M2.map poB] : List Hp).flatten := by simp
theorem map_fst_set (M1 M2 : List Pool) (g : Nat) (L L' : List In) : (M1 ++ (g, L) :: M2).map (·.1) = (M1 ++ (g, L') :: M2).map (·.1) := by simp
theorem ptrs_fst {M M' : List Pool} (h : M.map (·.1) = M'.map (·.1)) (n : Nat) : ptrs M n = ptrs M' n := by
  unfold ptrs
  refine List.map_congr_left fun k _ => ?_
  unfold ptrI
  rw [gAt_fst h]
theorem ptrs_get {M : List Pool} {n i : Nat} (h : i < n) : (ptrs M n)[i]? = some (ptrI M i) := by
  unfold ptrs
  simp [h]
section
variable (q sz : Nat) (sq sv : Value) (g1 g2 : Nat)
set_option maxRecDepth 100000 in
set_option maxHeartbeats 8000000 in
theorem setJump_any (w : World) (x : CoS) (l : List In) (i pc : Nat) (h : CoOk x l) (hi : i < l.length) (hop : l[i]? = some ⟨1, 0, 0, 0, 0, 0⟩) (hn : l.length ≤ 900000) (hpc : pc ≤ 1000000) (hw : At w (coH q sz sq sv g1 g2 x).flatten) :
    Calls Tryd.prog 59 #[.pointer (some ⟨q, 0, none⟩), .int .u64 i, .int .u64 pc] w (Post w (coH q sz sq sv g1 g2 x).flatten (fun _ : CoS => .tuple #[]) (fun y => (coH q sz sq sv g1 g2 y).flatten) (fun y => CoOk y (l.set i ⟨1, pc, 0, 0, 0, 0⟩))) := by
  obtain ⟨v, lr, M, r⟩ := x
  obtain ⟨hp, ho⟩ := h
  dsimp only at hp ho
  obtain ⟨M1, g, L, M2, rfl, hL, hget, hgat, hput⟩ := hp.at hi
  have hfl := flatM (coB q sz v (restP (M1 ++ (g, L) :: M2) r) sq sv g1 g2) lr M1 M2 (g, L)
  dsimp only [coH] at hw ⊢
  rw [hfl] at hw ⊢
  refine enter [coB q sz v (restP (M1 ++ (g, L) :: M2) r) sq sv g1 g2, lr, M1.map poB, [poB (g, L)], M2.map poB] Tryd.func59 rfl rfl hw (Le.refl _) ?_
  intro R hR
  obtain ⟨gr, cap, cur, rfl, rfl, _, _, hz, hcur, _⟩ := ho.openN (by omega)
  have hj : i % 16 < 16 := Nat.mod_lt _ (by omega)
  have hgo := hcur i _ (ptrs_get (M := M1 ++ (g, L) :: M2) hi)
  unfold ptrI at hgo
  rw [hgat] at hgo
  have hLj : L[i % 16]'(by omega) = ⟨1, 0, 0, 0, 0, 0⟩ := by
    rw [hop, List.getElem?_eq_getElem (by omega)] at hget
    exact Option.some.inj hget
  have hst := encI_set (L := L) (j := i % 16) (f := 1) (x := ⟨1, pc, 0, 0, 0, 0⟩) (v := .int .u64 pc) (by omega) (by omega) (by rw [hLj]; rfl)
  have hsz : i % 16 * 6 + 1 < (encI L).toArray.size := by rw [List.size_toArray, encI_len]; omega
  have hm := map_fst_set M1 M2 g L (L.set (i % 16) ⟨1, pc, 0, 0, 0, 0⟩)
  rw [restP_fst hm] at hR ⊢
  rw [ptrs_fst hm] at ho
  have hput := hput ⟨1, pc, 0, 0, 0, 0⟩
  dsimp only [coB, poB] at hR ⊢
  repeat (first | refine op_move rfl rfl ?_ | refine op_assign rfl rfl ?_ | refine op_nilCheck rfl rfl ?_ | refine op_fieldAddr rfl rfl ?_ | (apply op_load; (· exact rfl); (· exact rfl); (· apply cell_of_has; (· (repeat (first | exact Has.here | apply Has.there))); (· first | exact rfl | exact hgo))) | (apply op_store; (· exact rfl); (· exact rfl); (· exact rfl); (· (repeat (first | exact Swap.here | apply Swap.there))); (· first | decide | (simp; done) | (simp; omega) | assumption)) | refine op_index rfl rfl rfl (by omega) (by first | (rw [Int.toNat_natCast, Nat.mul_one, Nat.zero_add]) | (rw [Int.toNat_natCast, Nat.mul_one]) | (rw [Int.toNat_natCast, Nat.zero_add]) | (rw [Int.toNat_natCast]) | exact rfl) ?_ | refine op_len rfl rfl ?_ | refine op_cap rfl rfl ?_ | refine op_add rfl rfl rfl (by simp only [kLo, kHi]; omega) ?_ | refine op_sub rfl rfl rfl (by simp only [kLo, kHi]; omega) ?_ | refine op_cmp_t rfl rfl rfl rfl (by first | (simp only [cmpP]; done) | (simp only [cmpP]; omega)) ?_ | refine op_cmp_f rfl rfl rfl rfl (by first | (simp only [cmpP]; done) | (simp only [cmpP]; omega)) ?_ | refine op_pick_t rfl rfl rfl ?_ | refine op_pick_f rfl rfl rfl ?_ | refine ops_guard_yes rfl rfl rfl ?_ | refine ops_off1 rfl rfl ?_ | refine ops_off0 rfl ?_ | refine op_build rfl rfl rfl (by first | (intro v hv; simp at hv; done) | (intro v hv; simp at hv; rcases hv with rfl | rfl | rfl | rfl | rfl | rfl | rfl <;> rfl) | (intro v hv; simp at hv; rcases hv with rfl | rfl | rfl | rfl | rfl | rfl <;> rfl) | (intro v hv; simp at hv; rcases hv with rfl | rfl | rfl | rfl | rfl <;> rfl) | (intro v hv; simp at hv; rcases hv with rfl | rfl | rfl | rfl <;> rfl) | (intro v hv; simp at hv; rcases hv with rfl | rfl | rfl <;> rfl) | (intro v hv; simp at hv; rcases hv with rfl | rfl <;> rfl) | (intro v hv; simp at hv; rcases hv with rfl; rfl)) rfl ?_ | (refine op_box rfl rfl ?_; intro _ _) | (refine op_alloc rfl ?_; intro _ _) | (refine op_slice1 rfl rfl (by first | rfl | simp [Value.cells]) (by decide) ?_; intro _ _) | (refine op_make1 rfl rfl rfl rfl (by omega) (by omega) ?_; intro _ _) | (refine op_makeC rfl rfl rfl (by decide) rfl (by decide) (by decide) ?_; intro _ _) | (refine op_make rfl rfl rfl (by omega) (by omega) ?_; intro _ _) | refine op_extract rfl rfl rfl ?_ | (apply op_loadAll; (· exact rfl); (· exact rfl); (· (repeat (first | exact Has.here | apply Has.there))); (· exact rfl)) | refine op_not rfl rfl ?_ | refine op_remN rfl rfl rfl (by omega) ?_ | refine op_quoN rfl rfl rfl (by omega) (by simp only [kHi]; omega) ?_ | refine op_min rfl rfl rfl ?_ | refine op_max rfl rfl rfl ?_ | refine op_buildA rfl rfl rfl (by first | (intro v hv; simp at hv; done) | (intro v hv; simp at hv; rcases hv with rfl | rfl | rfl | rfl | rfl | rfl | rfl <;> rfl) | (intro v hv; simp at hv; rcases hv with rfl | rfl | rfl | rfl | rfl | rfl <;> rfl) | (intro v hv; simp at hv; rcases hv with rfl | rfl | rfl | rfl | rfl <;> rfl) | (intro v hv; simp at hv; rcases hv with rfl | rfl | rfl | rfl <;> rfl) | (intro v hv; simp at hv; rcases hv with rfl | rfl | rfl <;> rfl) | (intro v hv; simp at hv; rcases hv with rfl | rfl <;> rfl) | (intro v hv; simp at hv; rcases hv with rfl; rfl)) rfl ?_ | (refine op_sliceN rfl rfl rfl (by first | (intro v hv; simp at hv; done) | (intro v hv; simp at hv; rcases hv with rfl | rfl | rfl | rfl | rfl | rfl | rfl <;> rfl) | (intro v hv; simp at hv; rcases hv with rfl | rfl | rfl | rfl | rfl | rfl <;> rfl) | (intro v hv; simp at hv; rcases hv with rfl | rfl | rfl | rfl | rfl <;> rfl) | (intro v hv; simp at hv; rcases hv with rfl | rfl | rfl | rfl <;> rfl) | (intro v hv; simp at hv; rcases hv with rfl | rfl | rfl <;> rfl) | (intro v hv; simp at hv; rcases hv with rfl | rfl <;> rfl) | (intro v hv; simp at hv; rcases hv with rfl; rfl)) rfl rfl (by decide) ?_; intro _ _) | (refine op_append_nil rfl rfl rfl (by omega) ?_) | refine op_conv rfl rfl (by simp only [kLo, kHi]; omega) ?_ | refine ops_nil ?_ | (apply J1) | refine run_seq ?_ | refine run_region rfl ?_ | refine fin_code ?_ | refine run_block ?_ | refine fin_block ?_ | refine run_skip ?_ | refine run_cond_t rfl ?_ | refine run_cond_f rfl ?_ | refine run_exit ?_ | refine fin_exit_code ?_ | refine fin_exit_here ?_ | refine fin_exit_past rfl ?_ | refine fin_exit_inv ?_ | refine run_ret ?_ | refine fin_ret_code ?_ | refine fin_ret_block ?_ | refine fin_ret_inv ?_ | (refine op_cmp_f rfl rfl rfl rfl (fun h => h rfl) ?_))
  rw [hst]
  refine fin_ret0 (.inr rfl) rfl ?_
  intro w' g'
  refine hR _ _ (post_of g' ⟨.slice (some ⟨gr, 0, none⟩) l.length cap, _, M1 ++ (g, L.set (i % 16) ⟨1, pc, 0, 0, 0, 0⟩) :: M2, r⟩ ⟨hput, by dsimp only; rw [List.length_set]; exact ho⟩ rfl (by dsimp only; rw [flatM]; dsimp only [poB]; (apply le_of_picks; (repeat (first | exact Picks.nil | (apply Picks.cons; (· (repeat (first | exact Pick.here | apply Pick.there)))) | apply Picks.empty)))))
set_option maxRecDepth 100000 in
set_option maxHeartbeats 8000000 in
theorem setSplit_any (w : World) (x : CoS) (l : List In) (i pa pb : Nat) (h : CoOk x l) (hi : i < l.length) (hop : l[i]? = some ⟨2, 0, 0, 0, 0, 0⟩) (hn : l.length ≤ 900000) (hpa : pa ≤ 1000000) (hpb : pb ≤ 1000000) (hw : At w (coH q sz sq sv g1 g2 x).flatten) :
    Calls Tryd.prog 58 #[.pointer (some ⟨q, 0, none⟩), .int .u64 i, .int .u64 pa, .int .u64 pb] w (Post w (coH q sz sq sv g1 g2 x).flatten (fun _ : CoS => .tuple #[]) (fun y => (coH q sz sq sv g1 g2 y).flatten) (fun y => CoOk y (l.set i ⟨2, 0, pa, pb, 0, 0⟩))) := by
  obtain ⟨v, lr, M, r⟩ := x
  obtain ⟨hp, ho⟩ := h
  dsimp only at hp ho
  obtain ⟨M1, g, L, M2, rfl, hL, hget, hgat, hput⟩ := hp.at hi
  have hfl := flatM (coB q sz v (restP (M1 ++ (g, L) :: M2) r) sq sv g1 g2) lr M1 M2 (g, L)
  dsimp only [coH] at hw ⊢
  rw [hfl] at hw ⊢
  refine enter [coB q sz v (restP (M1 ++ (g, L) :: M2) r) sq sv g1 g2, lr, M1.map poB, [poB (g, L)], M2.map poB] Tryd.func58 rfl rfl hw (Le.refl _) ?_
  intro R hR
  obtain ⟨gr, cap, cur, rfl, rfl, _, _, hz, hcur, _⟩ := ho.openN (by omega)
  have hj : i % 16 < 16 := Nat.mod_lt _ (by omega)
  have hgo := hcur i _ (ptrs_get (M := M1 ++ (g, L) :: M2) hi)
  unfold ptrI at hgo
  rw [hgat] at hgo
  have hLj : L[i % 16]'(by omega) = ⟨2, 0, 0, 0, 0, 0⟩ := by
    rw [hop, List.getElem?_eq_getElem (by omega)] at hget
    exact Option.some.inj hget
  have hst := encI_set (L := L) (j := i % 16) (f := 2) (x := ⟨2, 0, pa, 0, 0, 0⟩) (v := .int .u64 pa) (by omega) (by omega) (by rw [hLj]; rfl)
  have hst2 := encI_set (L := L.set (i % 16) ⟨2, 0, pa, 0, 0, 0⟩) (j := i % 16) (f := 3) (x := ⟨2, 0, pa, pb, 0, 0⟩) (v := .int .u64 pb) (by rw [List.length_set]; omega) (by omega) (by rw [List.getElem_set_self]; rfl)
  rw [List.set_set] at hst2
  have hel : (encI L).length = 96 := by rw [encI_len, hL]
  have hm := map_fst_set M1 M2 g L (L.set (i % 16) ⟨2, 0, pa, pb, 0, 0⟩)
  rw [restP_fst hm] at hR ⊢
  rw [ptrs_fst hm] at ho
  have hput := hput ⟨2, 0, pa, pb, 0, 0⟩
  dsimp only [coB, poB] at hR ⊢
  repeat (first | refine op_move rfl rfl ?_ | refine op_assign rfl rfl ?_ | refine op_nilCheck rfl rfl ?_ | refine op_fieldAddr rfl rfl ?_ | (apply op_load; (· exact rfl); (· exact rfl); (· apply cell_of_has; (· (repeat (first | exact Has.here | apply Has.there))); (· first | exact rfl | exact hgo))) | (apply op_store; (· exact rfl); (· exact rfl); (· exact rfl); (· (repeat (first | exact Swap.here | apply Swap.there))); (· first | decide | (simp; done) | (simp; omega) | assumption)) | refine op_index rfl rfl rfl (by omega) (by first | (rw [Int.toNat_natCast, Nat.mul_one, Nat.zero_add]) | (rw [Int.toNat_natCast, Nat.mul_one]) | (rw [Int.toNat_natCast, Nat.zero_add]) | (rw [Int.toNat_natCast]) | exact rfl) ?_ | refine op_len rfl rfl ?_ | refine op_cap rfl rfl ?_ | refine op_add rfl rfl rfl (by simp only [kLo, kHi]; omega) ?_ | refine op_sub rfl rfl rfl (by simp only [kLo, kHi]; omega) ?_ | refine op_cmp_t rfl rfl rfl rfl (by first | (simp only [cmpP]; done) | (simp only [cmpP]; omega)) ?_ | refine op_cmp_f rfl rfl rfl rfl (by first | (simp only [cmpP]; done) | (simp only [cmpP]; omega)) ?_ | refine op_pick_t rfl rfl rfl ?_ | refine op_pick_f rfl rfl rfl ?_ | refine ops_guard_yes rfl rfl rfl ?_ | refine ops_off1 rfl rfl ?_ | refine ops_off0 rfl ?_ | refine op_build rfl rfl rfl (by first | (intro v hv; simp at hv; done) | (intro v hv; simp at hv; rcases hv with rfl | rfl | rfl | rfl | rfl | rfl | rfl <;> rfl) | (intro v hv; simp at hv; rcases hv with rfl | rfl | rfl | rfl | rfl | rfl <;> rfl) | (intro v hv; simp at hv; rcases hv with rfl | rfl | rfl | rfl | rfl <;> rfl) | (intro v hv; simp at hv; rcases hv with rfl | rfl | rfl | rfl <;> rfl) | (intro v hv; simp at hv; rcases hv with rfl | rfl | rfl <;> rfl) | (intro v hv; simp at hv; rcases hv with rfl | rfl <;> rfl) | (intro v hv; simp at hv; rcases hv with rfl; rfl)) rfl ?_ | (refine op_box rfl rfl ?_; intro _ _) | (refine op_alloc rfl ?_; intro _ _) | (refine op_slice1 rfl rfl (by first | rfl | simp [Value.cells]) (by decide) ?_; intro _ _) | (refine op_make1 rfl rfl rfl rfl (by omega) (by omega) ?_; intro _ _) | (refine op_makeC rfl rfl rfl (by decide) rfl (by decide) (by decide) ?_; intro _ _) | (refine op_make rfl rfl rfl (by omega) (by omega) ?_; intro _ _) | refine op_extract rfl rfl rfl ?_ | (apply op_loadAll; (· exact rfl); (· exact rfl); (· (repeat (first | exact Has.here | apply Has.there))); (· exact rfl)) | refine op_not rfl rfl ?_ | refine op_remN rfl rfl rfl (by omega) ?_ | refine op_quoN rfl rfl rfl (by omega) (by simp only [kHi]; omega) ?_ | refine op_min rfl rfl rfl ?_ | refine op_max rfl rfl rfl ?_ | refine op_buildA rfl rfl rfl (by first | (intro v hv; simp at hv; done) | (intro v hv; simp at hv; rcases hv with rfl | rfl | rfl | rfl | rfl | rfl | rfl <;> rfl) | (intro v hv; simp at hv; rcases hv with rfl | rfl | rfl | rfl | rfl | rfl <;> rfl) | (intro v hv; simp at hv; rcases hv with rfl | rfl | rfl | rfl | rfl <;> rfl) | (intro v hv; simp at hv; rcases hv with rfl | rfl | rfl | rfl <;> rfl) | (intro v hv; simp at hv; rcases hv with rfl | rfl | rfl <;> rfl) | (intro v hv; simp at hv; rcases hv with rfl | rfl <;> rfl) | (intro v hv; simp at hv; rcases hv with rfl; rfl)) rfl ?_ | (refine op_sliceN rfl rfl rfl (by first | (intro v hv; simp at hv; done) | (intro v hv; simp at hv; rcases hv with rfl | rfl | rfl | rfl | rfl | rfl | rfl <;> rfl) | (intro v hv; simp at hv; rcases hv with rfl | rfl | rfl | rfl | rfl | rfl <;> rfl) | (intro v hv; simp at hv; rcases hv with rfl | rfl | rfl | rfl | rfl <;> rfl) | (intro v hv; simp at hv; rcases hv with rfl | rfl | rfl | rfl <;> rfl) | (intro v hv; simp at hv; rcases hv with rfl | rfl | rfl <;> rfl) | (intro v hv; simp at hv; rcases hv with rfl | rfl <;> rfl) | (intro v hv; simp at hv; rcases hv with rfl; rfl)) rfl rfl (by decide) ?_; intro _ _) | (refine op_append_nil rfl rfl rfl (by omega) ?_) | refine op_conv rfl rfl (by simp only [kLo, kHi]; omega) ?_ | refine ops_nil ?_ | (apply J1) | refine run_seq ?_ | refine run_region rfl ?_ | refine fin_code ?_ | refine run_block ?_ | refine fin_block ?_ | refine run_skip ?_ | refine run_cond_t rfl ?_ | refine run_cond_f rfl ?_ | refine run_exit ?_ | refine fin_exit_code ?_ | refine fin_exit_here ?_ | refine fin_exit_past rfl ?_ | refine fin_exit_inv ?_ | refine run_ret ?_ | refine fin_ret_code ?_ | refine fin_ret_block ?_ | refine fin_ret_inv ?_ | (refine op_cmp_f rfl rfl rfl rfl (fun h => h rfl) ?_))
  rw [hst, hst2]
  refine fin_ret0 (.inr rfl) rfl ?_
  intro w' g'
  refine hR _ _ (post_of g' ⟨.slice (some ⟨gr, 0, none⟩) l.length cap, _, M1 ++ (g, L.set (i % 16) ⟨2, 0, pa, pb, 0, 0⟩) :: M2, r⟩ ⟨hput, by dsimp only; rw [List.length_set]; exact ho⟩ rfl (by dsimp only; rw [flatM]; dsimp only [poB]; (apply le_of_picks; (repeat (first | exact Picks.nil | (apply Picks.cons; (· (repeat (first | exact Pick.here | apply Pick.there)))) | apply Picks.empty)))))
end
end Go.Proofs.Eng
