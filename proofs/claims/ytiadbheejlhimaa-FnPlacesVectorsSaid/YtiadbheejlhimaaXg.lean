/- A part of the proof: what functions of the program do, step by step. -/
import Derived.Test.YtiadbheejlhimaaXf
import Derived.Test.YtiadbheejlhimaaEngG
set_option linter.unusedVariables false
set_option linter.unusedSimpArgs false
namespace Go.Proofs.Eng
open Go.RowKit
/-! ### All places moved on -/
def sh (b : Nat) (s : NS) : NS := ⟨s.o + b, s.d, s.t⟩
theorem imply_sh (b : Nat) (s o : NS) : implyB (sh b s) (sh b o) = implyB s o := by
  unfold implyB sh
  dsimp only
  have e1 : (s.o + b < o.o + b) = (s.o < o.o) := by simp
  simp only [e1, Nat.add_sub_add_right]
theorem addSt_sh (b : Nat) (l : List NS) (x : NS) : addSt (l.map (sh b)) (sh b x) = (addSt l x).map (sh b) := by
  unfold addSt
  have e1 : (l.map (sh b)).any (fun s => implyB s (sh b x)) = l.any (fun s => implyB s x) := by
    rw [List.any_map]
    congr 1
    funext s
    exact imply_sh b s x
  rw [e1]
  split
  · rfl
  · rw [List.map_append, List.filter_map]
    congr 2
    congr 1
    funext s
    exact congrArg _ (imply_sh b x s)
theorem delT_sh (b : Nat) (s : NS) (x : Nat) : ∀ (k d : Nat) (l : List NS), delT (sh b s) x k d (l.map (sh b)) = (delT s x k d l).map (sh b)
  | 0, _, _ => rfl
  | k + 1, d, l => by
    simp only [delT]
    have e : (if bitN x d = true then addSt (l.map (sh b)) ⟨(sh b s).o + 1 + d, (sh b s).d + d, false⟩ else l.map (sh b)) = (if bitN x d = true then addSt l ⟨s.o + 1 + d, s.d + d, false⟩ else l).map (sh b) := by
      split
      · rw [← addSt_sh]
        congr 1
        simp [sh]
        omega
      · rfl
    rw [e]
    exact delT_sh b s x k (d + 1) _
theorem simpT_sh (b md : Nat) (dam : Bool) (s : NS) (x : Nat) (l : List NS) : simpT md dam (sh b s) x (l.map (sh b)) = (simpT md dam s x l).map (sh b) := by
  have h1 : simp1 md dam (sh b s) x (l.map (sh b)) = (simp1 md dam s x l).map (sh b) := by
    unfold simp1
    have a1 : addSt (addSt (l.map (sh b)) ⟨(sh b s).o, (sh b s).d + 1, false⟩) ⟨(sh b s).o + 1, (sh b s).d + 1, false⟩ = (addSt (addSt l ⟨s.o, s.d + 1, false⟩) ⟨s.o + 1, s.d + 1, false⟩).map (sh b) := by
      rw [← addSt_sh, ← addSt_sh]
      congr 1
      simp [sh]
      omega
    rw [a1, delT_sh]
    show (if s.d < md then _ else _) = _
    split
    · split
      · rw [← addSt_sh]; rfl
      · rfl
    · rfl
  have h2 : simp2 (sh b s) x ((simp1 md dam s x l).map (sh b)) = (simp2 s x (simp1 md dam s x l)).map (sh b) := by
    unfold simp2
    split
    · rw [← addSt_sh]
      congr 1
      simp [sh]
      omega
    · rfl
  unfold simpT
  rw [h1, h2]
  unfold simp3
  show (if (s.t && bitN x 0) = true then _ else _) = _
  split
  · rw [← addSt_sh]
    congr 1
    simp [sh]
    omega
  · rfl
theorem cvN_sh (md scv o b : Nat) : cvN md (scv * 2 ^ b) (o + b) = cvN md scv o := by
  unfold cvN
  rw [Nat.pow_add, Nat.mul_comm (2 ^ o), ← Nat.div_div_eq_div_mul, Nat.mul_div_cancel _ (Nat.pow_pos (by omega))]
theorem transF_sh (md : Nat) (dam : Bool) (scv b : Nat) (l : List NS) : transF md dam (scv * 2 ^ b) (l.map (sh b)) = (transF md dam scv l).map (sh b) := by
  unfold transF
  have key : ∀ (l acc : List NS), (l.map (sh b)).foldl (fun acc s => simpT md dam s (cvN md (scv * 2 ^ b) s.o) acc) (acc.map (sh b)) = (l.foldl (fun acc s => simpT md dam s (cvN md scv s.o) acc) acc).map (sh b) := by
    intro l
    induction l with
    | nil => intro acc; rfl
    | cons s l ih =>
      intro acc
      simp only [List.map_cons, List.foldl_cons]
      rw [show (sh b s).o = s.o + b from rfl, cvN_sh, simpT_sh]
      exact ih _
  exact key l []
theorem nsSort_sh (b : Nat) (l : List NS) : nsSort (l.map (sh b)) = (nsSort l).map (sh b) := by
  unfold nsSort
  rw [List.map_mergeSort]
  intro x _ y _
  unfold nsLt sh
  simp
theorem stepP_sh (md : Nat) (dam : Bool) (scv b : Nat) (l : List NS) : stepP md dam (scv * 2 ^ b) (l.map (sh b)) = (stepP md dam scv l).map (sh b) := by
  unfold stepP
  rw [transF_sh, nsSort_sh]
theorem addSt_ne (l : List NS) (x : NS) : addSt l x ≠ [] := by
  unfold addSt
  split
  · rename_i h
    obtain ⟨s, hs, _⟩ := List.any_eq_true.1 h
    exact List.ne_nil_of_mem hs
  · simp
theorem delT_ne (s : NS) (x : Nat) : ∀ (k d : Nat) (l : List NS), l ≠ [] → delT s x k d l ≠ []
  | 0, _, _, h => h
  | k + 1, d, l, h => by
    simp only [delT]
    refine delT_ne s x k (d + 1) _ ?_
    split
    · exact addSt_ne _ _
    · exact h
theorem stepP_ne {md : Nat} {dam : Bool} {scv : Nat} {s : NS} (h : s.d < md) : 0 < (stepP md dam scv [s]).length := by
  unfold stepP
  rw [nsSort_len]
  refine List.length_pos_iff.2 ?_
  show simpT md dam s (cvN md scv s.o) [] ≠ []
  unfold simpT
  have h1 : simp1 md dam s (cvN md scv s.o) [] ≠ [] := by
    unfold simp1
    rw [if_pos h]
    split
    · exact addSt_ne _ _
    · exact delT_ne _ _ _ _ _ (addSt_ne _ _)
  have h2 : simp2 s (cvN md scv s.o) (simp1 md dam s (cvN md scv s.o) []) ≠ [] := by
    unfold simp2
    split
    · exact addSt_ne _ _
    · exact h1
  unfold simp3
  split
  · exact addSt_ne _ _
  · exact h2
/-! ### moved -/
set_option maxRecDepth 100000 in
set_option maxHeartbeats 8000000 in
theorem moved_any (w : World) (s : NS) (b : Nat) (hs : s.o ≤ 100000) (hb : b ≤ 1000) :
    Calls Try.prog 8 #[.agg (nsV s).toArray, .int .u32 b] w (Post w ([] : List Hp).flatten (fun _ : Unit => .agg (nsV (sh b s)).toArray) (fun _ => ([] : List Hp).flatten) (fun _ => True)) := by
  obtain ⟨so, sd, st⟩ := s
  dsimp only at hs
  refine enter [] Try.func8 rfl rfl (At.nil w) (Le.refl _) ?_
  intro R hR
  dsimp only [nsV, sh] at hR ⊢
  refine run_seq ?_
  refine run_region rfl ?_
  refine op_boxE (cs := #[.int .u32 so, .int .u8 sd, .bool st]) rfl rfl (by simp [Value.cells]) ?_
  intro q _
  repeat (first | refine op_move rfl rfl ?_ | refine op_assign rfl rfl ?_ | refine op_nilCheck rfl rfl ?_ | refine op_fieldAddr rfl rfl ?_ | (apply op_load; (· exact rfl); (· exact rfl); (· apply cell_of_has; (· (repeat (first | exact Has.here | apply Has.there))); (· first | exact rfl))) | (apply op_store; (· exact rfl); (· exact rfl); (· exact rfl); (· (repeat (first | exact Swap.here | apply Swap.there))); (· first | decide | (simp; done) | (simp; omega) | assumption)) | refine op_index rfl rfl rfl (by omega) (by first | (rw [Int.toNat_natCast, Nat.mul_one, Nat.zero_add]) | (rw [Int.toNat_natCast, Nat.mul_one]) | (rw [Int.toNat_natCast, Nat.zero_add]) | (rw [Int.toNat_natCast]) | exact rfl) ?_ | refine op_len rfl rfl ?_ | refine op_cap rfl rfl ?_ | refine op_add rfl rfl rfl (by simp only [kLo, kHi]; omega) ?_ | refine op_sub rfl rfl rfl (by simp only [kLo, kHi]; omega) ?_ | refine op_cmp_t rfl rfl rfl rfl (by first | (simp only [cmpP]; done) | (simp only [cmpP]; omega)) ?_ | refine op_cmp_f rfl rfl rfl rfl (by first | (simp only [cmpP]; done) | (simp only [cmpP]; omega)) ?_ | refine op_pick_t rfl rfl rfl ?_ | refine op_pick_f rfl rfl rfl ?_ | refine ops_guard_yes rfl rfl rfl ?_ | refine ops_off1 rfl rfl ?_ | refine ops_off0 rfl ?_ | refine op_build rfl rfl rfl (by first | (intro v hv; simp at hv; done) | (intro v hv; simp at hv; rcases hv with rfl | rfl | rfl | rfl | rfl | rfl | rfl <;> rfl) | (intro v hv; simp at hv; rcases hv with rfl | rfl | rfl | rfl | rfl | rfl <;> rfl) | (intro v hv; simp at hv; rcases hv with rfl | rfl | rfl | rfl | rfl <;> rfl) | (intro v hv; simp at hv; rcases hv with rfl | rfl | rfl | rfl <;> rfl) | (intro v hv; simp at hv; rcases hv with rfl | rfl | rfl <;> rfl) | (intro v hv; simp at hv; rcases hv with rfl | rfl <;> rfl) | (intro v hv; simp at hv; rcases hv with rfl; rfl)) rfl ?_ | (refine op_box rfl rfl ?_; intro _ _) | (refine op_alloc rfl ?_; intro _ _) | (refine op_slice1 rfl rfl (by first | rfl | simp [Value.cells] | simp [Value.cells, nsV]) (by decide) ?_; intro _ _) | (refine op_make1 rfl rfl rfl rfl (by omega) (by omega) ?_; intro _ _) | (refine op_makeC rfl rfl rfl (by decide) rfl (by decide) (by decide) ?_; intro _ _) | (refine op_make rfl rfl rfl (by omega) (by omega) ?_; intro _ _) | refine op_extract rfl rfl rfl ?_ | (apply op_loadAll; (· exact rfl); (· exact rfl); (· (repeat (first | exact Has.here | apply Has.there))); (· exact rfl)) | refine op_not rfl rfl ?_ | refine op_remN rfl rfl rfl (by omega) ?_ | refine op_quoN rfl rfl rfl (by omega) (by simp only [kHi]; omega) ?_ | refine op_min rfl rfl rfl ?_ | refine op_max rfl rfl rfl ?_ | refine op_buildA rfl rfl rfl (by first | (intro v hv; simp at hv; done) | (intro v hv; simp at hv; rcases hv with rfl | rfl | rfl | rfl | rfl | rfl | rfl <;> rfl) | (intro v hv; simp at hv; rcases hv with rfl | rfl | rfl | rfl | rfl | rfl <;> rfl) | (intro v hv; simp at hv; rcases hv with rfl | rfl | rfl | rfl | rfl <;> rfl) | (intro v hv; simp at hv; rcases hv with rfl | rfl | rfl | rfl <;> rfl) | (intro v hv; simp at hv; rcases hv with rfl | rfl | rfl <;> rfl) | (intro v hv; simp at hv; rcases hv with rfl | rfl <;> rfl) | (intro v hv; simp at hv; rcases hv with rfl; rfl)) rfl ?_ | (refine op_sliceN rfl rfl rfl (by first | (intro v hv; simp at hv; done) | (intro v hv; simp at hv; rcases hv with rfl | rfl | rfl | rfl | rfl | rfl | rfl <;> rfl) | (intro v hv; simp at hv; rcases hv with rfl | rfl | rfl | rfl | rfl | rfl <;> rfl) | (intro v hv; simp at hv; rcases hv with rfl | rfl | rfl | rfl | rfl <;> rfl) | (intro v hv; simp at hv; rcases hv with rfl | rfl | rfl | rfl <;> rfl) | (intro v hv; simp at hv; rcases hv with rfl | rfl | rfl <;> rfl) | (intro v hv; simp at hv; rcases hv with rfl | rfl <;> rfl) | (intro v hv; simp at hv; rcases hv with rfl; rfl)) rfl rfl (by decide) ?_; intro _ _) | (refine op_append_nil rfl rfl rfl (by omega) ?_) | refine op_conv rfl rfl (by simp only [kLo, kHi]; omega) ?_ | refine ops_nil ?_ | (apply J1) | refine run_seq ?_ | refine run_region rfl ?_ | refine fin_code ?_ | refine run_block ?_ | refine fin_block ?_ | refine run_skip ?_ | refine run_cond_t rfl ?_ | refine run_cond_f rfl ?_ | refine run_exit ?_ | refine fin_exit_code ?_ | refine fin_exit_here ?_ | refine fin_exit_past rfl ?_ | refine fin_exit_inv ?_ | refine run_ret ?_ | refine fin_ret_code ?_ | refine fin_ret_block ?_ | refine fin_ret_inv ?_ | (refine op_cmp_f rfl rfl rfl rfl (fun h => h rfl) ?_) | (apply op_storeAll; (· exact rfl); (· exact rfl); (· exact rfl); (· first | exact onesC rfl | (intro u hu; simp [Value.cells] at hu; rcases hu with rfl | rfl | rfl | rfl | rfl | rfl <;> rfl) | (intro u hu; simp [Value.cells] at hu; rcases hu with rfl | rfl | rfl <;> rfl) | (intro u hu; simp [Value.cells] at hu; rcases hu with rfl | rfl <;> rfl) | (intro u hu; simp [Value.cells] at hu; subst hu; rfl)); (· (repeat (first | exact Swap.here | apply Swap.there))); (· exact rfl)))
  refine fin_retC (n := 3) rfl rfl (by (repeat (first | exact Has.here | apply Has.there))) rfl ?_
  intro w' g
  exact hR _ _ (post_of g () trivial rfl (by (apply le_of_picks; (repeat (first | exact Picks.nil | (apply Picks.cons; (· (repeat (first | exact Pick.here | apply Pick.there)))) | apply Picks.empty)))))
end Go.Proofs.Eng
