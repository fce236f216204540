/- A part of the proof: what functions of the program do, step by step. -/
import Derived.Test.YtnomlnfdmoecoaaDoorN4
set_option linter.unusedVariables false
set_option linter.unusedSimpArgs false
namespace Go.Proofs.Eng
open Go.RowKit
section
variable {α : Type} [Inhabited α] {L : Array α → Hp} {rv : Value} {n : Nat} {lt : α → α → Bool}
def brk (a l m : Nat) : Nat → Nat → UInt64 × Array α → Array α
  | 0, _, st => st.2
  | k + 1, i, st => brk a l m k (i + 1) (Sort.breakStep a l m st i)
set_option maxRecDepth 100000 in
set_option maxHeartbeats 16000000 in
theorem break_any (D : SD L rv n lt) (w : World) (d : Array α) (A B : Int) (a b : Nat) (hd : d.size = n) (hA : A = a) (hB : B = b) (hab : a + 12 < b) (hbn : b ≤ n) (hw : At w ([L d] : List Hp).flatten) :
    Calls Tryd.prog 51 #[.iface 91 rv, .int .i64 A, .int .i64 B] w (Post w ([L d] : List Hp).flatten (fun _ : Unit => .tuple #[]) (fun _ => ([L (Sort.breakPatterns d a b)] : List Hp).flatten) (fun _ => True)) := by
  subst hA hB
  have hfew := D.few
  refine enter [L d] Tryd.func51 rfl rfl hw (Le.refl _) ?_
  intro R hR
  unfold Sort.breakPatterns at hR
  dsimp only at hR
  rw [if_pos (by omega), Nat.one_shiftLeft] at hR
  have hF : ∀ st : UInt64 × Array α, (Sort.breakStep a (b - a) (2 ^ Sort.bitsLen (b - a)) (Sort.breakStep a (b - a) (2 ^ Sort.bitsLen (b - a)) (Sort.breakStep a (b - a) (2 ^ Sort.bitsLen (b - a)) st (a + (b - a) / 4 * 2 - 1)) (a + (b - a) / 4 * 2 - 1 + 1)) (a + (b - a) / 4 * 2 - 1 + 2)).2 = brk a (b - a) (2 ^ Sort.bitsLen (b - a)) 3 (a + (b - a) / 4 * 2 - 1) st := fun _ => rfl
  rw [hF] at hR
  clear hF
  have hm : ((b : Int) - a) = ((b - a : Nat) : Int) := by omega
  have hq : ((b : Int) - a) = ((b - a : Nat) : Int) ∧ (4 : Int) = ((4 : Nat) : Int) := by omega
  have hP := bitsLen_pow (l := b - a) (by omega)
  have hr0 : (UInt64.ofNat (b - a)).toNat = b - a := by
    rw [UInt64.toNat_ofNat']
    omega
  have hP1 : 0 < 2 ^ Sort.bitsLen (b - a) := Nat.pow_pos (by omega)
  have hnp := fun w => npot_any w (b - a) (by omega)
  rw [← hm] at hnp
  generalize 2 ^ Sort.bitsLen (b - a) = P at *
  refine run_seq ?_
  refine run_region rfl ?_
  refine op_move rfl rfl ?_
  refine op_move rfl rfl ?_
  refine op_sub rfl rfl rfl (by simp only [kLo, kHi]; omega) ?_
  refine op_assign rfl rfl ?_
  refine ops_nil ?_
  refine fin_code ?_
  refine run_seq ?_
  refine run_region rfl ?_
  refine op_move rfl rfl ?_
  refine op_cmp_t rfl rfl rfl rfl (by first | (simp only [cmpP]; done) | (simp only [cmpP]; omega)) ?_
  refine ops_nil ?_
  refine fin_code ?_
  refine run_cond_t rfl ?_
  refine run_seq ?_
  refine run_region rfl ?_
  refine op_move rfl rfl ?_
  refine op_conv rfl rfl (by simp only [kLo, kHi]; omega) ?_
  (refine op_alloc rfl ?_; intro _ _)
  (apply op_store; (· exact rfl); (· exact rfl); (· exact rfl); (· (repeat (first | exact Swap.here | apply Swap.there))); (· first | decide | (simp; done) | (simp; omega) | assumption))
  refine ops_nil ?_
  refine fin_code ?_
  refine run_seq ?_
  refine run_region rfl ?_
  refine op_move rfl rfl ?_
  ((first | (apply op_call; (· exact rfl)) | apply op_call0); (· exact rfl); rotate_left 1; (· exact fun w hG hw => hnp w); rotate_right 1; (· (repeat (first | exact Picks.nil | (apply Picks.cons; (· (repeat (first | exact Pick.here | apply Pick.there)))) | apply Picks.empty))))
  intro _ _
  refine op_assign rfl rfl ?_
  refine ops_nil ?_
  refine fin_code ?_
  refine run_seq ?_
  refine run_region rfl ?_
  refine op_move rfl rfl ?_
  refine op_move rfl rfl ?_
  (refine op_quoE rfl rfl (by assumption) (by omega) (by simp only [kHi]; omega) rfl ?_)
  (refine op_mul rfl rfl rfl (by simp only [kLo, kHi]; omega) ?_)
  refine op_add rfl rfl rfl (by simp only [kLo, kHi]; omega) ?_
  refine op_sub rfl rfl rfl (by simp only [kLo, kHi]; omega) ?_
  refine op_assign rfl rfl ?_
  refine ops_nil ?_
  refine fin_code ?_
  refine run_block ?_
  rename_i q _ _ _
  rw [hm]
  clear hnp
  clear hq
  generalize hl : b - a = l at *
  generalize hFF : brk a l P 3 (a + l / 4 * 2 - 1) (UInt64.ofNat l, d) = F at hR
  refine run_loop (α := Nat × Nat × UInt64 × Array α) (fun x => [(0, .iface 91 rv), (1, .int .i64 a), (6, .int .i64 l), (7, .pointer (some ⟨q, 0, none⟩)), (8, .int .u64 P), (9, .int .i64 (x.2.1 : Nat))]) (fun x => [L x.2.2.2, xsB q x.2.2.1])
    (fun x => x.1 + x.2.1 = a + l / 4 * 2 - 1 + 3 ∧ x.1 ≤ 3 ∧ x.2.2.2.size = n ∧ brk a l P x.1 x.2.1 (x.2.2.1, x.2.2.2) = F) (fun x => x.1)
    (3, a + l / 4 * 2 - 1, UInt64.ofNat l, d) ⟨by dsimp only; omega, Nat.le_refl _, hd, hFF⟩ (by rw [show ((a + l / 4 * 2 - 1 : Nat) : Int) = (a : Int) + ((l / 4 : Nat) : Int) * 2 - 1 by omega]; (repeat (first | exact Sub.nil _ | (refine Sub.cons rfl ?_)))) (by dsimp only [xsB]; rw [hr0]; (apply le_of_picks; (repeat (first | exact Picks.nil | (apply Picks.cons; (· (repeat (first | exact Pick.here | apply Pick.there)))) | apply Picks.empty)))) ?_
  rintro ⟨k, i, r, dk⟩ ⟨hki, hk3, hdk, hFk⟩
  dsimp only at hki hk3 hdk hFk ⊢
  cases k with
  | zero =>
    simp only [brk] at hFk
    subst hFk
    refine run_seq ?_
    refine run_seq ?_
    refine run_region rfl ?_
    refine op_move rfl rfl ?_
    refine op_move rfl rfl ?_
    refine op_move rfl rfl ?_
    (refine op_quoN (n := 4) rfl rfl rfl (by omega) (by simp only [kHi]; omega) ?_)
    (refine op_mul rfl rfl rfl (by simp only [kLo, kHi]; omega) ?_)
    refine op_add rfl rfl rfl (by simp only [kLo, kHi]; omega) ?_
    refine op_add rfl rfl rfl (by simp only [kLo, kHi]; omega) ?_
    refine op_cmp_f rfl rfl rfl rfl (by first | (simp only [cmpP]; done) | (simp only [cmpP]; omega)) ?_
    refine ops_nil ?_
    refine fin_code ?_
    refine run_cond_f rfl ?_
    refine run_exit ?_
    refine fin_exit_code ?_
    refine fin_exit_inv ?_
    refine fin_exit_here ?_
    refine fin_ret0 (.inr rfl) rfl ?_
    intro w' g
    exact hR _ _ (post_of g () trivial rfl (by (apply le_of_picks; (repeat (first | exact Picks.nil | (apply Picks.cons; (· (repeat (first | exact Pick.here | apply Pick.there)))) | apply Picks.empty)))))
  | succ k =>
    simp only [brk, Sort.breakStep] at hFk
    have hxn := fun w hw => xnext_any w q r hw
    generalize Sort.xorNext r = r' at *
    have hand : bitop .and .u64 (r'.toNat : Int) ((P : Int) - 1) = ((r'.toNat &&& (P - 1) : Nat) : Int) := by
      rw [show ((P : Int) - 1) = ((P - 1 : Nat) : Int) by omega]
      exact u64_and r' (P - 1) (by omega)
    have hob : r'.toNat &&& (P - 1) ≤ P - 1 := Nat.and_le_right
    generalize r'.toNat &&& (P - 1) = o at *
    by_cases hol : o ≥ l
    · rw [if_pos hol] at hFk
      refine run_seq ?_
      refine run_seq ?_
      refine run_region rfl ?_
      refine op_move rfl rfl ?_
      refine op_move rfl rfl ?_
      refine op_move rfl rfl ?_
      (refine op_quoN (n := 4) rfl rfl rfl (by omega) (by simp only [kHi]; omega) ?_)
      (refine op_mul rfl rfl rfl (by simp only [kLo, kHi]; omega) ?_)
      refine op_add rfl rfl rfl (by simp only [kLo, kHi]; omega) ?_
      refine op_add rfl rfl rfl (by simp only [kLo, kHi]; omega) ?_
      refine op_cmp_t rfl rfl rfl rfl (by first | (simp only [cmpP]; done) | (simp only [cmpP]; omega)) ?_
      refine ops_nil ?_
      refine fin_code ?_
      refine run_cond_t rfl ?_
      refine run_skip ?_
      refine fin_code ?_
      refine run_seq ?_
      refine run_block ?_
      refine run_seq ?_
      refine run_region rfl ?_
      ((first | (apply op_call; (· exact rfl)) | apply op_call0); (· exact rfl); rotate_left 1; (· exact fun w hG hw => hxn w hw); rotate_right 1; (· (repeat (first | exact Picks.nil | (apply Picks.cons; (· (repeat (first | exact Pick.here | apply Pick.there)))) | apply Picks.empty))))
      intro _ _
      refine op_move rfl rfl ?_
      refine op_sub rfl rfl rfl (by simp only [kLo, kHi]; omega) ?_
      (refine op_bitsE rfl rfl rfl rfl (by assumption) ?_)
      refine op_conv rfl rfl (by simp only [kLo, kHi]; omega) ?_
      refine op_assign rfl rfl ?_
      refine ops_nil ?_
      refine fin_code ?_
      refine run_seq ?_
      refine run_seq ?_
      refine run_region rfl ?_
      refine op_move rfl rfl ?_
      refine op_move rfl rfl ?_
      refine op_cmp_t rfl rfl rfl rfl (by first | (simp only [cmpP]; done) | (simp only [cmpP]; omega)) ?_
      refine ops_nil ?_
      refine fin_code ?_
      refine run_cond_t rfl ?_
      refine run_region rfl ?_
      refine op_move rfl rfl ?_
      refine op_move rfl rfl ?_
      refine op_sub rfl rfl rfl (by simp only [kLo, kHi]; omega) ?_
      refine op_assign rfl rfl ?_
      refine ops_nil ?_
      refine fin_code ?_
      refine run_region rfl ?_
      refine op_move rfl rfl ?_
      refine op_move rfl rfl ?_
      refine op_move rfl rfl ?_
      refine op_move rfl rfl ?_
      refine op_add rfl rfl rfl (by simp only [kLo, kHi]; omega) ?_
      ((first | (apply op_invE 91 86; (· infer_instance); (· infer_instance); (· exact rfl)) | (apply op_inv0E 91 86; (· infer_instance); (· infer_instance))); (· exact rfl); (· exact rfl); rotate_left 1; (· exact fun w hG hw => D.swap w dk _ _ i (a + (o - l)) hdk (by omega) (by omega) (by omega) (by omega) hw); rotate_right 1; (· (repeat (first | exact Picks.nil | (apply Picks.cons; (· (repeat (first | exact Pick.here | apply Pick.there)))) | apply Picks.empty))))
      intro _ _
      refine ops_nil ?_
      refine fin_block ?_
      refine fin_code ?_
      refine run_region rfl ?_
      refine op_move rfl rfl ?_
      refine op_add rfl rfl rfl (by simp only [kLo, kHi]; omega) ?_
      refine op_assign rfl rfl ?_
      refine ops_nil ?_
      refine fin_round (k, i + 1, r', Sort.swp dk i (a + (o - l))) (by dsimp only; omega) (by (repeat (first | exact Sub.nil _ | (refine Sub.cons rfl ?_)))) (by (apply le_of_picks; (repeat (first | exact Picks.nil | (apply Picks.cons; (· (repeat (first | exact Pick.here | apply Pick.there)))) | apply Picks.empty)))) ⟨by dsimp only; omega, by dsimp only; omega, by dsimp only; rw [swp_size', hdk], hFk⟩
    · rw [if_neg hol] at hFk
      refine run_seq ?_
      refine run_seq ?_
      refine run_region rfl ?_
      refine op_move rfl rfl ?_
      refine op_move rfl rfl ?_
      refine op_move rfl rfl ?_
      (refine op_quoN (n := 4) rfl rfl rfl (by omega) (by simp only [kHi]; omega) ?_)
      (refine op_mul rfl rfl rfl (by simp only [kLo, kHi]; omega) ?_)
      refine op_add rfl rfl rfl (by simp only [kLo, kHi]; omega) ?_
      refine op_add rfl rfl rfl (by simp only [kLo, kHi]; omega) ?_
      refine op_cmp_t rfl rfl rfl rfl (by first | (simp only [cmpP]; done) | (simp only [cmpP]; omega)) ?_
      refine ops_nil ?_
      refine fin_code ?_
      refine run_cond_t rfl ?_
      refine run_skip ?_
      refine fin_code ?_
      refine run_seq ?_
      refine run_block ?_
      refine run_seq ?_
      refine run_region rfl ?_
      ((first | (apply op_call; (· exact rfl)) | apply op_call0); (· exact rfl); rotate_left 1; (· exact fun w hG hw => hxn w hw); rotate_right 1; (· (repeat (first | exact Picks.nil | (apply Picks.cons; (· (repeat (first | exact Pick.here | apply Pick.there)))) | apply Picks.empty))))
      intro _ _
      refine op_move rfl rfl ?_
      refine op_sub rfl rfl rfl (by simp only [kLo, kHi]; omega) ?_
      (refine op_bitsE rfl rfl rfl rfl (by assumption) ?_)
      refine op_conv rfl rfl (by simp only [kLo, kHi]; omega) ?_
      refine op_assign rfl rfl ?_
      refine ops_nil ?_
      refine fin_code ?_
      refine run_seq ?_
      refine run_seq ?_
      refine run_region rfl ?_
      refine op_move rfl rfl ?_
      refine op_move rfl rfl ?_
      refine op_cmp_f rfl rfl rfl rfl (by first | (simp only [cmpP]; done) | (simp only [cmpP]; omega)) ?_
      refine ops_nil ?_
      refine fin_code ?_
      refine run_cond_f rfl ?_
      refine run_skip ?_
      refine fin_code ?_
      refine run_region rfl ?_
      refine op_move rfl rfl ?_
      refine op_move rfl rfl ?_
      refine op_move rfl rfl ?_
      refine op_move rfl rfl ?_
      refine op_add rfl rfl rfl (by simp only [kLo, kHi]; omega) ?_
      ((first | (apply op_invE 91 86; (· infer_instance); (· infer_instance); (· exact rfl)) | (apply op_inv0E 91 86; (· infer_instance); (· infer_instance))); (· exact rfl); (· exact rfl); rotate_left 1; (· exact fun w hG hw => D.swap w dk _ _ i (a + o) hdk (by omega) (by omega) (by omega) (by omega) hw); rotate_right 1; (· (repeat (first | exact Picks.nil | (apply Picks.cons; (· (repeat (first | exact Pick.here | apply Pick.there)))) | apply Picks.empty))))
      intro _ _
      refine ops_nil ?_
      refine fin_block ?_
      refine fin_code ?_
      refine run_region rfl ?_
      refine op_move rfl rfl ?_
      refine op_add rfl rfl rfl (by simp only [kLo, kHi]; omega) ?_
      refine op_assign rfl rfl ?_
      refine ops_nil ?_
      refine fin_round (k, i + 1, r', Sort.swp dk i (a + o)) (by dsimp only; omega) (by (repeat (first | exact Sub.nil _ | (refine Sub.cons rfl ?_)))) (by (apply le_of_picks; (repeat (first | exact Picks.nil | (apply Picks.cons; (· (repeat (first | exact Pick.here | apply Pick.there)))) | apply Picks.empty)))) ⟨by dsimp only; omega, by dsimp only; omega, by dsimp only; rw [swp_size', hdk], hFk⟩
theorem scanUp_ge (p : α → Bool) (d : Array α) (j : Nat) : ∀ (m i : Nat), j + 1 - i ≤ m → i ≤ Sort.scanUp p d j i ∧ (Sort.scanUp p d j i ≤ j + 1 ∨ Sort.scanUp p d j i = i)
  | 0, i, h => by
    unfold Sort.scanUp
    rw [if_neg (by simp; omega)]
    exact ⟨Nat.le_refl _, .inr rfl⟩
  | m + 1, i, h => by
    unfold Sort.scanUp
    split
    · rename_i h1
      simp at h1
      have := scanUp_ge p d j m (i + 1) (by omega)
      omega
    · exact ⟨Nat.le_refl _, .inr rfl⟩
theorem scanDown_le (p : α → Bool) (d : Array α) (i : Nat) : ∀ j, Sort.scanDown p d i j ≤ j
  | 0 => Nat.le_refl _
  | j + 1 => by
    unfold Sort.scanDown
    split
    · have := scanDown_le p d i j
      omega
    · exact Nat.le_refl _
theorem scanDown_ge (p : α → Bool) (d : Array α) (i : Nat) : ∀ j, Sort.scanDown p d i j = j ∨ i ≤ Sort.scanDown p d i j + 1
  | 0 => .inl rfl
  | j + 1 => by
    unfold Sort.scanDown
    split
    · rename_i h
      simp at h
      have := scanDown_ge p d i j
      omega
    · exact .inl rfl
end
end Go.Proofs.Eng
