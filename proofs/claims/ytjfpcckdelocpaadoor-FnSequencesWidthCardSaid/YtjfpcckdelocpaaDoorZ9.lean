/- A part of the proof: what functions of the program do, step by step. -/
import Derived.Test.YtjfpcckdelocpaaDoorZ8
set_option linter.unusedVariables false
set_option linter.unusedSimpArgs false
namespace Go.Proofs.Eng
open Go.RowKit
/-- What NewSequences comes to. -/
def SqDone (lo hi : Nat) (x : QSt) : Prop := GoodL lo hi x.L ∧ x.G.map (·.2) = x.L.map (fun p => seqOf p.1 p.2) ∧ Own 64 1 x.v x.G.length (x.G.map sqV) x.l ∧ x.L.length ≤ 4456448
set_option maxRecDepth 100000 in
set_option maxHeartbeats 4000000 in
theorem newSeq_any (w0 : World) (lo hi : Nat) (hle : lo ≤ hi) (hm : hi ≤ 1114111) (hgl : RdB w0 w0.heap.size 5 (r2 (65535, 0))) (hgl6 : RdB w0 w0.heap.size 6 [.int .u8 255, .int .u8 0]) :
    Calls Tryd.prog 20 #[.int .i32 lo, .int .i32 hi] w0 (Post w0 ([] : List Hp).flatten (fun x : QSt => .tuple #[x.v, .nilIface])
      (fun x => ([x.l, x.G.map sqB] : List Hp).flatten) (SqDone lo hi)) := by
  refine enter [] Tryd.func20 rfl rfl (At.nil w0) (Le.refl _) ?_
  intro R hR
  refine run_seq ?_
  refine run_region rfl ?_
  refine op_assign rfl rfl ?_
  refine op_assign rfl rfl ?_
  refine ops_nil ?_
  refine fin_code ?_
  refine run_seq ?_
  refine run_region rfl ?_
  refine op_move rfl rfl ?_
  refine op_move rfl rfl ?_
  ((first | (apply op_call; (· exact rfl)) | apply op_call0); (· exact rfl)); (case' hc => (refine fun w hG hw => prealloc_any w lo hi hle hm ?_ ?_)); (case hp => (repeat (first | exact Picks.nil | (apply Picks.cons; (· (repeat (first | exact Pick.here | apply Pick.there)))) | apply Picks.empty)))
  · exact hgl.now hG
  · exact hgl6.now hG
  intro x hx
  refine op_move rfl rfl ?_
  refine op_extract rfl rfl rfl ?_
  refine op_extract rfl rfl rfl ?_
  refine op_extract rfl rfl rfl ?_
  refine op_assign rfl rfl ?_
  refine op_assign rfl rfl ?_
  refine op_assign rfl rfl ?_
  refine ops_nil ?_
  refine fin_code ?_
  refine run_seq ?_
  refine run_region rfl ?_
  refine op_move rfl rfl ?_
  refine op_move rfl rfl ?_
  refine op_assign rfl rfl ?_
  refine op_assign rfl rfl ?_
  refine ops_nil ?_
  refine fin_code ?_
  refine run_ret ?_
  refine fin_ret2 rfl rfl rfl ?_
  intro w' g
  exact hR _ _ (post_of g x hx rfl (by (apply le_of_picks; (repeat (first | exact Picks.nil | (apply Picks.cons; (· (repeat (first | exact Pick.here | apply Pick.there)))) | apply Picks.empty)))))
theorem encQ_len (q : List (Nat × Nat)) : (encQ q).length = q.length * 2 := flat_len q2 2 (fun _ => rfl) q
theorem encQ_snoc (l : List (Nat × Nat)) (p : Nat × Nat) : encQ (l ++ [p]) = encQ l ++ q2 p := by simp [encQ]
set_option maxRecDepth 100000 in
set_option maxHeartbeats 4000000 in
theorem bytesOf_any (w : World) (g c : Nat) (q : List (Nat × Nat)) (hq : q.length ≤ 1000) (hrd : RdB w w.heap.size g (encQ q)) :
    Calls Tryd.prog 21 #[.slice (some ⟨g, 0, none⟩) q.length c] w (Post w ([] : List Hp).flatten (fun x : Value × Hp => x.1)
      (fun x => ([x.2] : List Hp).flatten) (fun x => Own 33 2 x.1 q.length (encQ q) x.2)) := by
  refine enter [] Tryd.func21 rfl rfl (At.nil w) (Le.refl _) ?_
  intro R hR
  refine run_seq ?_
  refine run_region rfl ?_
  refine op_assign rfl rfl ?_
  refine ops_nil ?_
  refine fin_code ?_
  refine run_seq ?_
  refine run_region rfl ?_
  refine op_assign rfl rfl ?_
  refine ops_nil ?_
  refine fin_code ?_
  refine run_seq ?_
  refine run_seq ?_
  refine run_region rfl ?_
  refine op_move rfl rfl ?_
  refine op_len rfl rfl ?_
  refine op_move rfl rfl ?_
  refine ops_nil ?_
  refine fin_code ?_
  refine run_block ?_
  refine run_loop (α := Nat × Value × Hp) (fun x => [(3, x.2.1), (6, .slice (some ⟨g, 0, none⟩) q.length c), (7, .int .i64 q.length), (8, .int .i64 (x.1 : Nat))]) (fun x => [x.2.2]) (fun x => x.1 ≤ q.length ∧ Own 33 2 x.2.1 x.1 (encQ (q.take x.1)) x.2.2) (fun x => q.length - x.1)
    (0, .slice none 0 0, []) ⟨Nat.zero_le _, Own.nil _ _⟩ (by (repeat (first | exact Sub.nil _ | (refine Sub.cons rfl ?_)))) (by (apply le_of_picks; (repeat (first | exact Picks.nil | (apply Picks.cons; (· (repeat (first | exact Pick.here | apply Pick.there)))) | apply Picks.empty)))) ?_
  rintro ⟨i, v, l⟩ ⟨hi, ho⟩
  dsimp only at hi ho ⊢
  by_cases h : i < q.length
  · have hcell : ∀ (j : Nat) u, (q2 q[i])[j]? = some u → (encQ q)[i * 2 + j]? = some u := fun j u hu => flat_get q2 2 (fun _ => rfl) q i h j u hu
    refine run_seq ?_
    refine run_region rfl ?_
    refine op_cmp_t rfl rfl rfl rfl (by first | (simp only [cmpP]; done) | (simp only [cmpP]; omega)) ?_
    refine ops_nil ?_
    refine fin_code ?_
    refine run_seq ?_
    refine run_cond_t rfl ?_
    refine run_skip ?_
    refine fin_code ?_
    refine run_seq ?_
    refine run_block ?_
    refine run_seq ?_
    refine run_region rfl ?_
    refine op_index rfl rfl rfl (by omega) (by first | (rw [Int.toNat_natCast, Nat.mul_one, Nat.zero_add]) | (rw [Int.toNat_natCast, Nat.mul_one]) | (rw [Int.toNat_natCast, Nat.zero_add]) | (rw [Int.toNat_natCast]) | exact rfl) ?_
    (apply op_loadA; (· exact rfl); (· exact rfl); (· exact (show (q2 q[i]).length = 2 from rfl)); (· exact fun j v hv => RdB.cell hrd (by simp [ids]) (hcell j v hv)))
    (refine op_alloc rfl ?_; intro _ _)
    (apply op_storeAll; (· exact rfl); (· exact rfl); (· exact rfl); (· exact u2_one _ _); (· (repeat (first | exact Swap.here | apply Swap.there))); (· exact rfl))
    refine ops_nil ?_
    refine fin_code ?_
    refine run_region rfl ?_
    refine op_move rfl rfl ?_
    refine op_fieldAddr rfl rfl ?_
    (apply op_load; (· exact rfl); (· exact rfl); (· apply cell_of_has; (· (repeat (first | exact Has.here | apply Has.there))); (· first | exact rfl | exact hget)))
    refine op_fieldAddr rfl rfl ?_
    (apply op_load; (· exact rfl); (· exact rfl); (· apply cell_of_has; (· (repeat (first | exact Has.here | apply Has.there))); (· first | exact rfl | exact hget)))
    refine op_buildA rfl rfl rfl (by first | (intro v hv; simp at hv; done) | (intro v hv; simp at hv; rcases hv with rfl | rfl | rfl | rfl | rfl | rfl | rfl <;> rfl) | (intro v hv; simp at hv; rcases hv with rfl | rfl | rfl | rfl | rfl | rfl <;> rfl) | (intro v hv; simp at hv; rcases hv with rfl | rfl | rfl | rfl | rfl <;> rfl) | (intro v hv; simp at hv; rcases hv with rfl | rfl | rfl | rfl <;> rfl) | (intro v hv; simp at hv; rcases hv with rfl | rfl | rfl <;> rfl) | (intro v hv; simp at hv; rcases hv with rfl | rfl <;> rfl) | (intro v hv; simp at hv; rcases hv with rfl; rfl)) rfl ?_
    (refine op_slice1 rfl rfl (by first | rfl | simp [Value.cells]) (by decide) ?_; intro _ _)
    (apply op_append1; (· exact rfl); (· exact rfl); (· exact rfl); (· exact ho); (· (repeat (first | exact Pick.here | apply Pick.there))); (· (repeat (first | exact Has.here | apply Has.there))); (· exact rfl); (· first | exact onesC rfl | (intro u hu; simp [Value.cells] at hu; rcases hu with rfl | rfl | rfl | rfl | rfl | rfl <;> rfl) | (intro u hu; simp [Value.cells] at hu; rcases hu with rfl | rfl | rfl <;> rfl) | (intro u hu; simp [Value.cells] at hu; rcases hu with rfl | rfl <;> rfl) | (intro u hu; simp [Value.cells] at hu; subst hu; rfl)); (· omega); (· omega); (· exact rfl))
    intro v' l' ho'
    refine op_assign rfl rfl ?_
    refine ops_nil ?_
    refine fin_block ?_
    refine fin_code ?_
    refine run_region rfl ?_
    refine op_add rfl rfl rfl (by simp only [kLo, kHi]; omega) ?_
    refine op_move rfl rfl ?_
    refine ops_nil ?_
    refine fin_round (i + 1, v', l') ?_ (by (repeat (first | exact Sub.nil _ | (refine Sub.cons rfl ?_)))) (by (apply le_of_picks; (repeat (first | exact Picks.nil | (apply Picks.cons; (· (repeat (first | exact Pick.here | apply Pick.there)))) | apply Picks.empty)))) ⟨h, ?_⟩
    · dsimp only; omega
    · dsimp only
      rw [List.take_succ_eq_append_getElem h, encQ_snoc]
      exact ho'
  · obtain rfl : i = q.length := by omega
    rw [List.take_length] at ho
    refine run_seq ?_
    refine run_region rfl ?_
    refine op_cmp_f rfl rfl rfl rfl (by first | (simp only [cmpP]; done) | (simp only [cmpP]; omega)) ?_
    refine ops_nil ?_
    refine fin_code ?_
    refine run_seq ?_
    refine run_cond_f rfl ?_
    refine run_exit ?_
    refine fin_exit_code ?_
    refine fin_exit_inv ?_
    refine fin_exit_here ?_
    refine fin_code ?_
    refine run_seq ?_
    refine run_region rfl ?_
    refine op_move rfl rfl ?_
    refine op_assign rfl rfl ?_
    refine ops_nil ?_
    refine fin_code ?_
    refine run_ret ?_
    refine fin_ret1 rfl rfl ?_
    intro w' g'
    exact hR _ _ (post_of g' (v, l) ho rfl (by (apply le_of_picks; (repeat (first | exact Picks.nil | (apply Picks.cons; (· (repeat (first | exact Pick.here | apply Pick.there)))) | apply Picks.empty)))))
/-- A row of pairs of bytes of the call's own. -/
structure RowG where
  v : Value
  l : Hp
  q : List (Nat × Nat)
def RowG.Ok (r : RowG) : Prop := Own 33 2 r.v r.q.length (encQ r.q) r.l
end Go.Proofs.Eng
