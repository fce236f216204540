/- A part of the proof: what functions of the program do, step by step. -/
import Derived.Test.YtnomlnfdmoecoaaDoorM1
import Derived.Test.YtnomlnfdmoecoaaDoorNk
import Derived.Test.YtnomlnfdmoecoaaDoorD1
set_option linter.unusedVariables false
set_option linter.unusedSimpArgs false
namespace Go.Proofs.Eng
open Go.RowKit
theorem Goes.lowB {w0 w : World} {L0 : Hp} {ls R : List Hp} {B : Nat} (g : Goes w0 L0 w (ls ++ R).flatten) (h0 : ∀ k ∈ ids L0, B ≤ k) (hB : B ≤ w0.heap.size) : ∀ k ∈ ids ls.flatten, B ≤ k := by
  intro k hk
  have : k ∈ ids (ls ++ R).flatten := by
    rw [List.flatten_append, ids_append]
    exact List.mem_append.2 (.inl hk)
  rcases g.new k this with h | h
  · exact h0 k h
  · exact Nat.le_trans hB h
set_option maxRecDepth 100000 in
theorem newHash_any (w : World) (K : Nat → Int) :
    Calls Tryd.prog 21 #[] w (Post w ([] : List Hp).flatten (fun x : Nat × Nat × Value × Hp => .pointer (some ⟨x.1, 0, none⟩))
      (fun x => ([[⟨x.1, .cells #[.map (some x.2.1), x.2.2.1] 74 (0, 0)⟩], [⟨x.2.1, .map (entsF 0 (hsK K [])).toArray (hsK K []).length⟩], x.2.2.2, itB []] : List Hp).flatten) (fun x => Own 67 1 x.2.2.1 (hsK K []).length (itV []) x.2.2.2)) := by
  refine enter [] Tryd.func21 rfl rfl (At.nil w) (Le.refl _) ?_
  intro R hR
  refine run_seq ?_
  refine run_region rfl ?_
  refine op_assign rfl rfl ?_
  refine ops_nil ?_
  refine fin_code ?_
  refine run_seq ?_
  refine run_region rfl ?_
  refine op_makeMap rfl rfl ?_
  intro mb hmb
  refine op_makeR 0 100 rfl rfl rfl rfl rfl (by omega) (by omega) (by omega) ?_
  intro gI hgI
  refine op_build rfl rfl rfl (by first | (intro v hv; simp at hv; done) | (intro v hv; simp at hv; rcases hv with rfl | rfl | rfl | rfl | rfl | rfl | rfl <;> rfl) | (intro v hv; simp at hv; rcases hv with rfl | rfl | rfl | rfl | rfl | rfl <;> rfl) | (intro v hv; simp at hv; rcases hv with rfl | rfl | rfl | rfl | rfl <;> rfl) | (intro v hv; simp at hv; rcases hv with rfl | rfl | rfl | rfl <;> rfl) | (intro v hv; simp at hv; rcases hv with rfl | rfl | rfl <;> rfl) | (intro v hv; simp at hv; rcases hv with rfl | rfl <;> rfl) | (intro v hv; simp at hv; rcases hv with rfl; rfl)) rfl ?_
  refine op_boxE (cs := #[.map (some mb), .slice (some ⟨gI, 0, none⟩) 0 100]) rfl rfl (by simp [Value.cells]) ?_
  intro q hq
  refine op_assign rfl rfl ?_
  refine ops_nil ?_
  refine fin_code ?_
  refine run_ret ?_
  refine fin_ret1 rfl rfl ?_
  intro w' g'
  have ho : Own 67 1 (.slice (some ⟨gI, 0, none⟩) 0 100) 0 [] [⟨gI, .cells ((List.replicate 100 (Value.agg #[.slice none 0 0]).cells.toList).flatten).toArray 67 (0, 0)⟩] :=
    ⟨rfl, .inr ⟨gI, 100, _, rfl, rfl, Nat.zero_le _, by decide, by simp [Value.cells], by simp⟩⟩
  refine hR _ _ (post_of g' (q, mb, _, _) ho rfl ?_)
  have e : ∀ a b c : Hp, ([a, b, c, itB []] : List Hp).flatten = ([a, b, c] : List Hp).flatten := fun a b c => by simp [itB]
  dsimp only
  rw [e]
  (apply le_of_picks; (repeat (first | exact Picks.nil | (apply Picks.cons; (· (repeat (first | exact Pick.here | apply Pick.there)))) | apply Picks.empty)))
set_option maxRecDepth 100000 in
theorem getID_any (w : World) (q : Nat) (m : Value) (gI n cI i : Nat) (hi : i < n) (hn : n ≤ 100000) (hw : At w ([[⟨q, .cells #[m, .slice (some ⟨gI, 0, none⟩) n cI] 74 (0, 0)⟩]] : List Hp).flatten) :
    Calls Tryd.prog 27 #[.pointer (some ⟨q, 0, none⟩), .int .i64 i] w (Post w ([[⟨q, .cells #[m, .slice (some ⟨gI, 0, none⟩) n cI] 74 (0, 0)⟩]] : List Hp).flatten (fun _ : Unit => .pointer (some ⟨gI, i, none⟩)) (fun _ => ([[⟨q, .cells #[m, .slice (some ⟨gI, 0, none⟩) n cI] 74 (0, 0)⟩]] : List Hp).flatten) (fun _ => True)) := by
  refine enter [[⟨q, .cells #[m, .slice (some ⟨gI, 0, none⟩) n cI] 74 (0, 0)⟩]] Tryd.func27 rfl rfl hw (Le.refl _) ?_
  intro R hR
  refine run_seq ?_
  refine run_region rfl ?_
  refine op_assign rfl rfl ?_
  refine ops_nil ?_
  refine fin_code ?_
  refine run_seq ?_
  refine run_region rfl ?_
  refine op_move rfl rfl ?_
  refine op_nilCheck rfl rfl ?_
  refine op_fieldAddr rfl rfl ?_
  (apply op_load; (· exact rfl); (· exact rfl); (· apply cell_of_has; (· (repeat (first | exact Has.here | apply Has.there))); (· first | exact rfl)))
  refine op_move rfl rfl ?_
  refine op_index rfl rfl rfl (by omega) (by first | (rw [Int.toNat_natCast, Nat.mul_one, Nat.zero_add]) | (rw [Int.toNat_natCast, Nat.mul_one]) | (rw [Int.toNat_natCast, Nat.zero_add]) | (rw [Int.toNat_natCast]) | exact rfl) ?_
  refine op_assign rfl rfl ?_
  refine ops_nil ?_
  refine fin_code ?_
  refine run_ret ?_
  refine fin_ret1 rfl rfl ?_
  intro w' g'
  exact hR _ _ (post_of g' () trivial rfl (by (apply le_of_picks; (repeat (first | exact Picks.nil | (apply Picks.cons; (· (repeat (first | exact Pick.here | apply Pick.there)))) | apply Picks.empty)))))
set_option maxRecDepth 100000 in
theorem maxD_any (w : World) (p md : Nat) (dam : Bool) (hw : At w ([laB p md dam] : List Hp).flatten) :
    Calls Tryd.prog 25 #[.pointer (some ⟨p, 0, none⟩)] w (Post w ([laB p md dam] : List Hp).flatten (fun _ : Unit => .int .u8 md) (fun _ => ([laB p md dam] : List Hp).flatten) (fun _ => True)) := by
  refine enter [laB p md dam] Tryd.func25 rfl rfl hw (Le.refl _) ?_
  intro R hR
  dsimp only [laB] at hR ⊢
  refine run_seq ?_
  refine run_region rfl ?_
  refine op_assign rfl rfl ?_
  refine ops_nil ?_
  refine fin_code ?_
  refine run_seq ?_
  refine run_region rfl ?_
  refine op_move rfl rfl ?_
  refine op_nilCheck rfl rfl ?_
  refine op_fieldAddr rfl rfl ?_
  (apply op_load; (· exact rfl); (· exact rfl); (· apply cell_of_has; (· (repeat (first | exact Has.here | apply Has.there))); (· first | exact rfl)))
  refine op_assign rfl rfl ?_
  refine ops_nil ?_
  refine fin_code ?_
  refine run_ret ?_
  refine fin_ret1 rfl rfl ?_
  intro w' g
  exact hR _ _ (post_of g () trivial rfl (by (apply le_of_picks; (repeat (first | exact Picks.nil | (apply Picks.cons; (· (repeat (first | exact Pick.here | apply Pick.there)))) | apply Picks.empty)))))
set_option maxRecDepth 100000 in
theorem addSt0_any (w : World) (q : Nat) (hw : At w ([[⟨q, .cells #[.slice none 0 0] 67 (0, 0)⟩], []] : List Hp).flatten) :
    Calls Tryd.prog 32 #[.pointer (some ⟨q, 0, none⟩), .agg #[.int .u32 0, .int .u8 0, .bool false]] w (Post w ([[⟨q, .cells #[.slice none 0 0] 67 (0, 0)⟩], []] : List Hp).flatten (fun _ : Value × Hp => .tuple #[]) (fun y => ([msB q y.1, y.2] : List Hp).flatten) (fun y => Own 87 3 y.1 initP.length (initP.flatMap nsV) y.2)) :=
  addSt_any w q (.slice none 0 0) [] [] ⟨0, 0, false⟩ (Own.nil 87 3) (by simp) ⟨by decide, by decide⟩ (by simp) hw
set_option maxRecDepth 100000 in
theorem initS_any (w : World) (p : Nat) :
    Calls Tryd.prog 24 #[.pointer (some ⟨p, 0, none⟩)] w (Post w ([] : List Hp).flatten (fun x : Nat × Value × Hp => .pointer (some ⟨x.1, 0, none⟩)) (fun x => ([msB x.1 x.2.1, x.2.2] : List Hp).flatten) (fun x => Own 87 3 x.2.1 initP.length (initP.flatMap nsV) x.2.2)) := by
  refine enter [] Tryd.func24 rfl rfl (At.nil w) (Le.refl _) ?_
  intro R hR
  refine run_seq ?_
  refine run_region rfl ?_
  refine op_assign rfl rfl ?_
  refine ops_nil ?_
  refine fin_code ?_
  refine run_seq ?_
  refine run_region rfl ?_
  refine op_build rfl rfl rfl (by first | (intro v hv; simp at hv; done) | (intro v hv; simp at hv; rcases hv with rfl | rfl | rfl | rfl | rfl | rfl | rfl <;> rfl) | (intro v hv; simp at hv; rcases hv with rfl | rfl | rfl | rfl | rfl | rfl <;> rfl) | (intro v hv; simp at hv; rcases hv with rfl | rfl | rfl | rfl | rfl <;> rfl) | (intro v hv; simp at hv; rcases hv with rfl | rfl | rfl | rfl <;> rfl) | (intro v hv; simp at hv; rcases hv with rfl | rfl | rfl <;> rfl) | (intro v hv; simp at hv; rcases hv with rfl | rfl <;> rfl) | (intro v hv; simp at hv; rcases hv with rfl; rfl)) rfl ?_
  (refine op_alloc rfl ?_; intro _ _)
  (apply op_storeAll; (· exact rfl); (· exact rfl); (· exact rfl); (· exact onesC rfl); (· (repeat (first | exact Swap.here | apply Swap.there))); (· exact rfl))
  refine ops_nil ?_
  refine fin_code ?_
  refine run_seq ?_
  refine run_region rfl ?_
  refine op_build rfl rfl rfl (by first | (intro v hv; simp at hv; done) | (intro v hv; simp at hv; rcases hv with rfl | rfl | rfl | rfl | rfl | rfl | rfl <;> rfl) | (intro v hv; simp at hv; rcases hv with rfl | rfl | rfl | rfl | rfl | rfl <;> rfl) | (intro v hv; simp at hv; rcases hv with rfl | rfl | rfl | rfl | rfl <;> rfl) | (intro v hv; simp at hv; rcases hv with rfl | rfl | rfl | rfl <;> rfl) | (intro v hv; simp at hv; rcases hv with rfl | rfl | rfl <;> rfl) | (intro v hv; simp at hv; rcases hv with rfl | rfl <;> rfl) | (intro v hv; simp at hv; rcases hv with rfl; rfl)) rfl ?_
  (refine op_alloc rfl ?_; intro _ _)
  (apply op_storeAll; (· exact rfl); (· exact rfl); (· exact rfl); (· exact onesC rfl); (· (repeat (first | exact Swap.here | apply Swap.there))); (· exact rfl))
  refine ops_nil ?_
  refine fin_code ?_
  refine run_seq ?_
  refine run_region rfl ?_
  (apply op_loadAll; (· exact rfl); (· exact rfl); (· (repeat (first | exact Has.here | apply Has.there))); (· exact rfl))
  refine ops_nilFirst ?_
  ((first | (apply op_call; (· exact rfl)) | apply op_call0); (· exact rfl); rotate_left 1; (· exact fun w hG hw => addSt0_any w _ hw); rotate_right 1; (· (repeat (first | exact Picks.nil | (apply Picks.cons; (· (repeat (first | exact Pick.here | apply Pick.there)))) | apply Picks.empty))))
  rintro ⟨v, l⟩ ho
  dsimp only [msB] at ho ⊢
  refine ops_nil ?_
  refine fin_code ?_
  refine run_seq ?_
  refine run_region rfl ?_
  refine op_assign rfl rfl ?_
  refine ops_nil ?_
  refine fin_code ?_
  refine run_ret ?_
  refine fin_ret1 rfl rfl ?_
  intro w' g'
  exact hR _ _ (post_of g' (_, v, l) ho rfl (by dsimp only [msB]; (apply le_of_picks; (repeat (first | exact Picks.nil | (apply Picks.cons; (· (repeat (first | exact Pick.here | apply Pick.there)))) | apply Picks.empty)))))
end Go.Proofs.Eng
