/- A part of the proof: what functions of the program do, step by step. -/
import Derived.Test.YtnomlnfdmoecoaaDoorEngT5
import Derived.Laws.Externs
set_option linter.unusedVariables false
set_option linter.unusedSimpArgs false
namespace Go.Proofs.Eng
open Go.RowKit
/-- Bits of a number, turned. -/
def rotN (x : Int) (s : Nat) : Int := bitop .or .u32 (IntKind.u32.wrap (x * 2 ^ (min ((s : Nat) : Int).toNat IntKind.u32.bits))) (x.fdiv (2 ^ (min ((32 : Int) - (s : Nat)).toNat IntKind.u32.bits)))
set_option maxRecDepth 100000 in
set_option maxHeartbeats 4000000 in
theorem rot_any (w : World) (x k : Int) (s : Nat) (hs : bitop .and .u64 (IntKind.u64.wrap k) 31 = (s : Nat)) (h31 : s ≤ 31) : Calls Tryd.prog 98 #[.int .u32 x, .int .i64 k] w (Post w ([] : List Hp).flatten (fun _ : Unit => .int .u32 (rotN x s)) (fun _ => ([] : List Hp).flatten) (fun _ => True)) := by
  refine enter [] Tryd.func98 rfl rfl (At.nil w) (Le.refl _) ?_
  intro R hR
  have hk : kLo .u64 ≤ k ∧ k ≤ kHi .u64 → False ∨ True := fun _ => .inr trivial
  refine run_seq ?_
  refine run_region rfl ?_
  refine op_assign rfl rfl ?_
  refine ops_nil ?_
  refine fin_code ?_
  refine run_seq ?_
  refine run_region rfl ?_
  refine op_move rfl rfl ?_
  refine op_convw rfl rfl ?_
  refine op_val rfl (val_bitsE rfl rfl rfl hs) ?_
  refine op_assign rfl rfl ?_
  refine ops_nil ?_
  refine fin_code ?_
  refine run_seq ?_
  refine run_region rfl ?_
  refine op_move rfl rfl ?_
  refine op_move rfl rfl ?_
  (refine op_shl rfl rfl rfl (by omega) ?_)
  refine op_move rfl rfl ?_
  refine op_move rfl rfl ?_
  refine op_sub rfl rfl rfl (by simp only [kLo, kHi]; omega) ?_
  (refine op_shr rfl rfl rfl (by omega) ?_)
  (refine op_bits rfl rfl rfl rfl ?_)
  refine op_assign rfl rfl ?_
  refine ops_nil ?_
  refine fin_code ?_
  refine run_ret ?_
  refine fin_ret1 rfl rfl ?_
  intro w' g
  exact hR _ _ (post_of g () trivial rfl (by (apply le_of_picks; (repeat (first | exact Picks.nil | (apply Picks.cons; (· (repeat (first | exact Pick.here | apply Pick.there)))) | apply Picks.empty)))))
def put32 (cs : Array Value) (o : Nat) (v : Int) : Array Value :=
  (((cs.setIfInBounds (o + 0) (.int .u8 (IntKind.u8.wrap (v.fdiv (2 ^ (min (24 : Int).toNat IntKind.u32.bits)))))).setIfInBounds (o + 1) (.int .u8 (IntKind.u8.wrap (v.fdiv (2 ^ (min (16 : Int).toNat IntKind.u32.bits)))))).setIfInBounds (o + 2) (.int .u8 (IntKind.u8.wrap (v.fdiv (2 ^ (min (8 : Int).toNat IntKind.u32.bits)))))).setIfInBounds (o + 3) (.int .u8 (IntKind.u8.wrap v))
set_option maxRecDepth 100000 in
set_option maxHeartbeats 4000000 in
theorem put32i_any (w : World) (g o len cap T : Nat) (cs : Array Value) (v : Int) (hl : 4 ≤ len) (hsz : o + 4 ≤ cs.size) (hw : At w ([[⟨g, .cells cs T (0, 0)⟩]] : List Hp).flatten) :
    Calls Tryd.prog 100 #[.slice (some ⟨g, o, none⟩) len cap, .int .u32 v] w (Post w ([[⟨g, .cells cs T (0, 0)⟩]] : List Hp).flatten (fun _ : Unit => .tuple #[]) (fun _ => ([[⟨g, .cells (put32 cs o v) T (0, 0)⟩]] : List Hp).flatten) (fun _ => True)) := by
  refine enter [[⟨g, .cells cs T (0, 0)⟩]] Tryd.func100 rfl rfl hw (Le.refl _) ?_
  intro R hR
  have hg3 : aget cs (o + Int.toNat 3 * 1) = some (cs[o + 3]'(by omega)) := by
    rw [aget_eq]
    exact Array.getElem?_eq_getElem (by omega)
  refine run_seq ?_
  refine run_region rfl ?_
  refine op_move rfl rfl ?_
  refine op_index rfl rfl rfl (by omega) (by first | (rw [Int.toNat_natCast, Nat.mul_one, Nat.zero_add]) | (rw [Int.toNat_natCast, Nat.mul_one]) | (rw [Int.toNat_natCast, Nat.zero_add]) | (rw [Int.toNat_natCast]) | exact rfl) ?_
  (apply op_load; (· exact rfl); (· exact rfl); (· apply cell_of_has; (· (repeat (first | exact Has.here | apply Has.there))); (· first | exact rfl | exact hg3)))
  refine ops_nil ?_
  refine fin_code ?_
  refine run_seq ?_
  refine run_region rfl ?_
  refine op_move rfl rfl ?_
  refine op_move rfl rfl ?_
  (refine op_shr rfl rfl rfl (by omega) ?_)
  (refine op_convw rfl rfl ?_)
  refine op_index rfl rfl rfl (by omega) (by first | (rw [Int.toNat_natCast, Nat.mul_one, Nat.zero_add]) | (rw [Int.toNat_natCast, Nat.mul_one]) | (rw [Int.toNat_natCast, Nat.zero_add]) | (rw [Int.toNat_natCast]) | exact rfl) ?_
  (apply op_store; (· exact rfl); (· exact rfl); (· exact rfl); (· (repeat (first | exact Swap.here | apply Swap.there))); (· first | decide | (simp; done) | (simp; omega) | assumption))
  refine ops_nil ?_
  refine fin_code ?_
  refine run_seq ?_
  refine run_region rfl ?_
  refine op_move rfl rfl ?_
  refine op_move rfl rfl ?_
  (refine op_shr rfl rfl rfl (by omega) ?_)
  (refine op_convw rfl rfl ?_)
  refine op_index rfl rfl rfl (by omega) (by first | (rw [Int.toNat_natCast, Nat.mul_one, Nat.zero_add]) | (rw [Int.toNat_natCast, Nat.mul_one]) | (rw [Int.toNat_natCast, Nat.zero_add]) | (rw [Int.toNat_natCast]) | exact rfl) ?_
  (apply op_store; (· exact rfl); (· exact rfl); (· exact rfl); (· (repeat (first | exact Swap.here | apply Swap.there))); (· first | decide | (simp; done) | (simp; omega) | assumption))
  refine ops_nil ?_
  refine fin_code ?_
  refine run_seq ?_
  refine run_region rfl ?_
  refine op_move rfl rfl ?_
  refine op_move rfl rfl ?_
  (refine op_shr rfl rfl rfl (by omega) ?_)
  (refine op_convw rfl rfl ?_)
  refine op_index rfl rfl rfl (by omega) (by first | (rw [Int.toNat_natCast, Nat.mul_one, Nat.zero_add]) | (rw [Int.toNat_natCast, Nat.mul_one]) | (rw [Int.toNat_natCast, Nat.zero_add]) | (rw [Int.toNat_natCast]) | exact rfl) ?_
  (apply op_store; (· exact rfl); (· exact rfl); (· exact rfl); (· (repeat (first | exact Swap.here | apply Swap.there))); (· first | decide | (simp; done) | (simp; omega) | assumption))
  refine ops_nil ?_
  refine fin_code ?_
  refine run_region rfl ?_
  refine op_move rfl rfl ?_
  refine op_move rfl rfl ?_
  (refine op_convw rfl rfl ?_)
  refine op_index rfl rfl rfl (by omega) (by first | (rw [Int.toNat_natCast, Nat.mul_one, Nat.zero_add]) | (rw [Int.toNat_natCast, Nat.mul_one]) | (rw [Int.toNat_natCast, Nat.zero_add]) | (rw [Int.toNat_natCast]) | exact rfl) ?_
  (apply op_store; (· exact rfl); (· exact rfl); (· exact rfl); (· (repeat (first | exact Swap.here | apply Swap.there))); (· first | decide | (simp; done) | (simp; omega) | assumption))
  refine ops_nil ?_
  refine fin_ret0 (.inr rfl) rfl ?_
  intro w' g'
  exact hR _ _ (post_of g' () trivial rfl (by (apply le_of_picks; (repeat (first | exact Picks.nil | (apply Picks.cons; (· (repeat (first | exact Pick.here | apply Pick.there)))) | apply Picks.empty)))))
set_option maxRecDepth 100000 in
theorem put32_any (w : World) (g o len cap T : Nat) (cs : Array Value) (v : Int) (hl : 4 ≤ len) (hsz : o + 4 ≤ cs.size) (hw : At w ([[⟨g, .cells cs T (0, 0)⟩]] : List Hp).flatten) :
    Calls Tryd.prog 97 #[.slice (some ⟨g, o, none⟩) len cap, .int .u32 v] w (Post w ([[⟨g, .cells cs T (0, 0)⟩]] : List Hp).flatten (fun _ : Unit => .tuple #[]) (fun _ => ([[⟨g, .cells (put32 cs o v) T (0, 0)⟩]] : List Hp).flatten) (fun _ => True)) := by
  refine enter [[⟨g, .cells cs T (0, 0)⟩]] Tryd.func97 rfl rfl hw (Le.refl _) ?_
  intro R hR
  refine run_region rfl ?_
  refine op_move rfl rfl ?_
  refine op_move rfl rfl ?_
  ((first | (apply op_call; (· exact rfl)) | apply op_call0); (· exact rfl); rotate_left 1; (· exact fun w hG hw => put32i_any w g o len cap T cs v hl hsz hw); rotate_right 1; (· (repeat (first | exact Picks.nil | (apply Picks.cons; (· (repeat (first | exact Pick.here | apply Pick.there)))) | apply Picks.empty))))
  intro _ _
  refine ops_nil ?_
  refine fin_ret0 (.inr rfl) rfl ?_
  intro w' g'
  exact hR _ _ (post_of g' () trivial rfl (by (apply le_of_picks; (repeat (first | exact Picks.nil | (apply Picks.cons; (· (repeat (first | exact Pick.here | apply Pick.there)))) | apply Picks.empty)))))
end Go.Proofs.Eng
