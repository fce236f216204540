/- A part of the proof: what functions of the program do, step by step. -/
import Derived.Test.YtnomlnfdmoecoaaDoorN1
set_option linter.unusedVariables false
set_option linter.unusedSimpArgs false
namespace Go.Proofs.Eng
open Go.RowKit
section
variable {α : Type} [Inhabited α] {L : Array α → Hp} {rv : Value} {n : Nat} {lt : α → α → Bool}
theorem sift_size (lt : α → α → Bool) (hi first : Nat) : ∀ (m r : Nat) (d : Array α), hi - r ≤ m → (Sort.siftDown lt hi first r d).size = d.size
  | 0, r, d, h => by
    unfold Sort.siftDown
    rw [dif_pos (by omega)]
  | m + 1, r, d, h => by
    unfold Sort.siftDown
    have ih := sift_size lt hi first m
    split
    · rfl
    · split
      · split
        · rfl
        · split
          · rw [ih _ _ (by omega), swp_size']
          · rfl
      · split
        · rfl
        · rw [ih _ _ (by omega), swp_size']
theorem sift_size' (lt : α → α → Bool) (hi first r : Nat) (d : Array α) : (Sort.siftDown lt hi first r d).size = d.size := sift_size lt hi first (hi - r) r d (Nat.le_refl _)
theorem op_quoE {C : Ctx} {ks : List Kont} {E : Env} {Ls : List Hp} {ops : Array Oper} {rest : List Oper} {ty : Nat} {pos : String} {af : Array Edge} {d bt bt' : Nat} {x y : Operand} {ik : IntKind} {m n : Nat} {i j : Int}
    (hx : ev E x = some (.int ik i)) (hy : ev E y = some (.int ik j)) (hij : i = m ∧ j = n) (h : n ≠ 0) (hm : (m : Int) ≤ kHi ik) (hn : Nat.blt d C.fn.ntmps = true) (k : Ops C ops rest ks ((d, .int ik ((m / n : Nat) : Int)) :: E) Ls) : Ops C ops (⟨some d, .binOp .quo bt x y bt', ty, pos, af, none⟩ :: rest) ks E Ls := by
  obtain ⟨rfl, rfl⟩ := hij
  exact op_quoN hn hx hy h hm k
set_option maxRecDepth 100000 in
set_option maxHeartbeats 8000000 in
theorem heap_any (D : SD L rv n lt) (w : World) (d : Array α) (A B : Int) (a b : Nat) (hd : d.size = n) (hA : A = a) (hB : B = b) (hab : a < b) (hbn : b ≤ n) (hw : At w ([L d] : List Hp).flatten) :
    Calls Tryd.prog 50 #[.iface 91 rv, .int .i64 A, .int .i64 B] w (Post w ([L d] : List Hp).flatten (fun _ : Unit => .tuple #[]) (fun _ => ([L (Sort.heapSort lt d a b)] : List Hp).flatten) (fun _ => True)) := by
  subst hA hB
  have hfew := D.few
  refine enter [L d] Tryd.func50 rfl rfl hw (Le.refl _) ?_
  intro R hR
  unfold Sort.heapSort at hR
  generalize hF : Sort.heapPop lt a (b - a) (Sort.heapBuild lt (b - a) a ((b - a - 1) / 2 + 1) d) = F at hR
  have hq : ((b : Int) - a - 1) = ((b - a - 1 : Nat) : Int) ∧ (2 : Int) = ((2 : Nat) : Int) := by omega
  generalize hG : Sort.heapBuild lt (b - a) a ((b - a - 1) / 2 + 1) d = G at hF
  have hm : ((b : Int) - a) = ((b - a : Nat) : Int) := by omega
  have hmp : 0 < b - a := by omega
  refine run_seq ?_
  refine run_region rfl ?_
  refine op_move rfl rfl ?_
  refine op_assign rfl rfl ?_
  refine ops_nil ?_
  refine fin_code ?_
  refine run_seq ?_
  refine run_region rfl ?_
  refine op_assign rfl rfl ?_
  refine ops_nil ?_
  refine fin_code ?_
  refine run_seq ?_
  refine run_region rfl ?_
  refine op_move rfl rfl ?_
  refine op_move rfl rfl ?_
  refine op_sub rfl rfl rfl (by simp only [kLo, kHi]; omega) ?_
  refine op_assign rfl rfl ?_
  refine ops_nil ?_
  refine fin_code ?_
  refine run_seq ?_
  refine run_seq ?_
  refine run_region rfl ?_
  refine op_move rfl rfl ?_
  refine op_sub rfl rfl rfl (by simp only [kLo, kHi]; omega) ?_
  (refine op_quoE rfl rfl (by assumption) (by omega) (by simp only [kHi]; omega) rfl ?_)
  refine op_assign rfl rfl ?_
  refine ops_nil ?_
  refine fin_code ?_
  refine run_block ?_
  rw [hm]
  generalize hmm : b - a = m at *
  refine run_loop (α := Nat × Array α) (fun x => [(0, .iface 91 rv), (6, .int .i64 a), (7, .int .i64 0), (8, .int .i64 m), (9, .int .i64 ((x.1 : Nat) - 1))]) (fun x => [L x.2]) (fun x => x.1 ≤ m ∧ x.2.size = n ∧ Sort.heapBuild lt m a x.1 x.2 = G) (fun x => x.1)
    ((m - 1) / 2 + 1, d) ⟨by dsimp only; omega, hd, hG⟩ (by rw [show ((((m - 1) / 2 + 1 : Nat) : Int) - 1) = (((m - 1) / 2 : Nat) : Int) by omega]; (repeat (first | exact Sub.nil _ | (refine Sub.cons rfl ?_)))) (by (apply le_of_picks; (repeat (first | exact Picks.nil | (apply Picks.cons; (· (repeat (first | exact Pick.here | apply Pick.there)))) | apply Picks.empty)))) ?_
  rintro ⟨k, dk⟩ ⟨hkm, hdk, hGk⟩
  dsimp only at hkm hdk hGk ⊢
  cases k with
  | succ k =>
    simp only [Sort.heapBuild] at hGk
    rw [show (((k + 1 : Nat) : Int) - 1) = ((k : Nat) : Int) by omega]
    refine run_seq ?_
    refine run_seq ?_
    refine run_region rfl ?_
    refine op_move rfl rfl ?_
    refine op_cmp_t rfl rfl rfl rfl (by first | (simp only [cmpP]; done) | (simp only [cmpP]; omega)) ?_
    refine ops_nil ?_
    refine fin_code ?_
    refine run_cond_t rfl ?_
    refine run_skip ?_
    refine fin_code ?_
    refine run_seq ?_
    refine run_block ?_
    refine run_region rfl ?_
    refine op_move rfl rfl ?_
    refine op_move rfl rfl ?_
    refine op_move rfl rfl ?_
    refine op_move rfl rfl ?_
    ((first | (apply op_call; (· exact rfl)) | apply op_call0); (· exact rfl); rotate_left 1; (· exact fun w hG hw => sift_any D w dk _ _ _ k m a hdk rfl rfl rfl (by omega) (by omega) hw); rotate_right 1; (· (repeat (first | exact Picks.nil | (apply Picks.cons; (· (repeat (first | exact Pick.here | apply Pick.there)))) | apply Picks.empty))))
    intro _ _
    refine ops_nil ?_
    refine fin_block ?_
    refine fin_code ?_
    refine run_region rfl ?_
    refine op_move rfl rfl ?_
    refine op_sub rfl rfl rfl (by simp only [kLo, kHi]; omega) ?_
    refine op_assign rfl rfl ?_
    refine ops_nil ?_
    refine fin_round (k, Sort.siftDown lt m a k dk) (by dsimp only; omega) (by (repeat (first | exact Sub.nil _ | (refine Sub.cons rfl ?_)))) (by (apply le_of_picks; (repeat (first | exact Picks.nil | (apply Picks.cons; (· (repeat (first | exact Pick.here | apply Pick.there)))) | apply Picks.empty)))) ⟨by dsimp only; omega, by dsimp only; rw [sift_size', hdk], hGk⟩
  | zero =>
    simp only [Sort.heapBuild] at hGk
    subst hGk
    refine run_seq ?_
    refine run_seq ?_
    refine run_region rfl ?_
    refine op_move rfl rfl ?_
    refine op_cmp_f rfl rfl rfl rfl (by first | (simp only [cmpP]; done) | (simp only [cmpP]; omega)) ?_
    refine ops_nil ?_
    refine fin_code ?_
    refine run_cond_f rfl ?_
    refine run_exit ?_
    refine fin_exit_code ?_
    refine fin_exit_inv ?_
    refine fin_exit_here ?_
    refine fin_code ?_
    refine run_seq ?_
    refine run_region rfl ?_
    refine op_move rfl rfl ?_
    refine op_sub rfl rfl rfl (by simp only [kLo, kHi]; omega) ?_
    refine op_assign rfl rfl ?_
    refine ops_nil ?_
    refine fin_code ?_
    refine run_block ?_
    refine run_loop (α := Nat × Array α) (fun x => [(0, .iface 91 rv), (6, .int .i64 a), (7, .int .i64 0), (10, .int .i64 ((x.1 : Nat) - 1))]) (fun x => [L x.2]) (fun x => x.1 ≤ m ∧ x.2.size = n ∧ Sort.heapPop lt a x.1 x.2 = F) (fun x => x.1)
      (m, dk) ⟨Nat.le_refl _, hdk, hF⟩ (by (repeat (first | exact Sub.nil _ | (refine Sub.cons rfl ?_)))) (by (apply le_of_picks; (repeat (first | exact Picks.nil | (apply Picks.cons; (· (repeat (first | exact Pick.here | apply Pick.there)))) | apply Picks.empty)))) ?_
    rintro ⟨k, dp⟩ ⟨hkm2, hdp, hFk⟩
    dsimp only at hkm2 hdp hFk ⊢
    cases k with
    | succ k =>
      simp only [Sort.heapPop] at hFk
      rw [show (((k + 1 : Nat) : Int) - 1) = ((k : Nat) : Int) by omega]
      refine run_seq ?_
      refine run_seq ?_
      refine run_region rfl ?_
      refine op_move rfl rfl ?_
      refine op_cmp_t rfl rfl rfl rfl (by first | (simp only [cmpP]; done) | (simp only [cmpP]; omega)) ?_
      refine ops_nil ?_
      refine fin_code ?_
      refine run_cond_t rfl ?_
      refine run_skip ?_
      refine fin_code ?_
      refine run_seq ?_
      refine run_block ?_
      refine run_seq ?_
      refine run_region rfl ?_
      refine op_move rfl rfl ?_
      refine op_move rfl rfl ?_
      refine op_move rfl rfl ?_
      refine op_move rfl rfl ?_
      refine op_add rfl rfl rfl (by simp only [kLo, kHi]; omega) ?_
      ((first | (apply op_invE 91 86; (· infer_instance); (· infer_instance); (· exact rfl)) | (apply op_inv0E 91 86; (· infer_instance); (· infer_instance))); (· exact rfl); (· exact rfl); rotate_left 1; (· exact fun w hG hw => D.swap w dp _ _ a (a + k) hdp (by omega) (by omega) (by omega) (by omega) hw); rotate_right 1; (· (repeat (first | exact Picks.nil | (apply Picks.cons; (· (repeat (first | exact Pick.here | apply Pick.there)))) | apply Picks.empty))))
      intro _ _
      refine ops_nil ?_
      refine fin_code ?_
      refine run_region rfl ?_
      refine op_move rfl rfl ?_
      refine op_move rfl rfl ?_
      refine op_move rfl rfl ?_
      refine op_move rfl rfl ?_
      ((first | (apply op_call; (· exact rfl)) | apply op_call0); (· exact rfl); rotate_left 1; (· exact fun w hG hw => sift_any D w (Sort.swp dp a (a + k)) _ _ _ 0 k a (by rw [swp_size', hdp]) rfl rfl rfl (by omega) (by omega) hw); rotate_right 1; (· (repeat (first | exact Picks.nil | (apply Picks.cons; (· (repeat (first | exact Pick.here | apply Pick.there)))) | apply Picks.empty))))
      intro _ _
      refine ops_nil ?_
      refine fin_block ?_
      refine fin_code ?_
      refine run_region rfl ?_
      refine op_move rfl rfl ?_
      refine op_sub rfl rfl rfl (by simp only [kLo, kHi]; omega) ?_
      refine op_assign rfl rfl ?_
      refine ops_nil ?_
      refine fin_round (k, Sort.siftDown lt k a 0 (Sort.swp dp a (a + k))) (by dsimp only; omega) (by (repeat (first | exact Sub.nil _ | (refine Sub.cons rfl ?_)))) (by (apply le_of_picks; (repeat (first | exact Picks.nil | (apply Picks.cons; (· (repeat (first | exact Pick.here | apply Pick.there)))) | apply Picks.empty)))) ⟨by dsimp only; omega, by dsimp only; rw [sift_size', swp_size', hdp], hFk⟩
    | zero =>
      simp only [Sort.heapPop] at hFk
      subst hFk
      refine run_seq ?_
      refine run_seq ?_
      refine run_region rfl ?_
      refine op_move rfl rfl ?_
      refine op_cmp_f rfl rfl rfl rfl (by first | (simp only [cmpP]; done) | (simp only [cmpP]; omega)) ?_
      refine ops_nil ?_
      refine fin_code ?_
      refine run_cond_f rfl ?_
      refine run_exit ?_
      refine fin_exit_code ?_
      refine fin_exit_inv ?_
      refine fin_exit_here ?_
      refine fin_ret0 (.inr rfl) rfl ?_
      intro w' g
      exact hR _ _ (post_of g () trivial rfl (by (apply le_of_picks; (repeat (first | exact Picks.nil | (apply Picks.cons; (· (repeat (first | exact Pick.here | apply Pick.there)))) | apply Picks.empty)))))
set_option maxRecDepth 100000 in
set_option maxHeartbeats 8000000 in
theorem rev_any (D : SD L rv n lt) (w : World) (d : Array α) (A B : Int) (a b : Nat) (hd : d.size = n) (hA : A = a) (hB : B = b) (hab : a < b) (hbn : b ≤ n) (hw : At w ([L d] : List Hp).flatten) :
    Calls Tryd.prog 53 #[.iface 91 rv, .int .i64 A, .int .i64 B] w (Post w ([L d] : List Hp).flatten (fun _ : Unit => .tuple #[]) (fun _ => ([L (Sort.reverseRange d a b)] : List Hp).flatten) (fun _ => True)) := by
  subst hA hB
  have hfew := D.few
  refine enter [L d] Tryd.func53 rfl rfl hw (Le.refl _) ?_
  intro R hR
  unfold Sort.reverseRange at hR
  generalize hF : Sort.reverseLoop a (b - 1) d = F at hR
  refine run_seq ?_
  refine run_region rfl ?_
  refine op_move rfl rfl ?_
  refine op_assign rfl rfl ?_
  refine ops_nil ?_
  refine fin_code ?_
  refine run_seq ?_
  refine run_region rfl ?_
  refine op_move rfl rfl ?_
  refine op_sub rfl rfl rfl (by simp only [kLo, kHi]; omega) ?_
  refine op_assign rfl rfl ?_
  refine ops_nil ?_
  refine fin_code ?_
  refine run_block ?_
  refine run_loop (α := Nat × Nat × Array α) (fun x => [(0, .iface 91 rv), (6, .int .i64 (x.1 : Nat)), (7, .int .i64 (x.2.1 : Nat))]) (fun x => [L x.2.2]) (fun x => x.1 < n ∧ x.2.1 < n ∧ x.2.2.size = n ∧ Sort.reverseLoop x.1 x.2.1 x.2.2 = F) (fun x => x.2.1)
    (a, b - 1, d) ⟨by dsimp only; omega, by dsimp only; omega, hd, hF⟩ (by rw [show ((b - 1 : Nat) : Int) = (b : Int) - 1 by omega]; (repeat (first | exact Sub.nil _ | (refine Sub.cons rfl ?_)))) (by (apply le_of_picks; (repeat (first | exact Picks.nil | (apply Picks.cons; (· (repeat (first | exact Pick.here | apply Pick.there)))) | apply Picks.empty)))) ?_
  rintro ⟨i, j, dk⟩ ⟨hin, hjn, hdk, hFk⟩
  dsimp only at hin hjn hdk hFk ⊢
  unfold Sort.reverseLoop at hFk
  by_cases hij : i < j
  · rw [if_pos hij] at hFk
    refine run_seq ?_
    refine run_seq ?_
    refine run_region rfl ?_
    refine op_move rfl rfl ?_
    refine op_move rfl rfl ?_
    refine op_cmp_t rfl rfl rfl rfl (by first | (simp only [cmpP]; done) | (simp only [cmpP]; omega)) ?_
    refine ops_nil ?_
    refine fin_code ?_
    refine run_cond_t rfl ?_
    refine run_skip ?_
    refine fin_code ?_
    refine run_block ?_
    refine run_seq ?_
    refine run_region rfl ?_
    refine op_move rfl rfl ?_
    refine op_move rfl rfl ?_
    refine op_move rfl rfl ?_
    ((first | (apply op_invE 91 86; (· infer_instance); (· infer_instance); (· exact rfl)) | (apply op_inv0E 91 86; (· infer_instance); (· infer_instance))); (· exact rfl); (· exact rfl); rotate_left 1; (· exact fun w hG hw => D.swap w dk _ _ i j hdk (by omega) (by omega) (by omega) (by omega) hw); rotate_right 1; (· (repeat (first | exact Picks.nil | (apply Picks.cons; (· (repeat (first | exact Pick.here | apply Pick.there)))) | apply Picks.empty))))
    intro _ _
    refine ops_nil ?_
    refine fin_code ?_
    refine run_seq ?_
    refine run_region rfl ?_
    refine op_move rfl rfl ?_
    refine op_add rfl rfl rfl (by simp only [kLo, kHi]; omega) ?_
    refine op_assign rfl rfl ?_
    refine ops_nil ?_
    refine fin_code ?_
    refine run_region rfl ?_
    refine op_move rfl rfl ?_
    refine op_sub rfl rfl rfl (by simp only [kLo, kHi]; omega) ?_
    refine op_assign rfl rfl ?_
    refine ops_nil ?_
    refine fin_block ?_
    refine fin_round (i + 1, j - 1, Sort.swp dk i j) (by dsimp only; omega) (by rw [show ((j - 1 : Nat) : Int) = (j : Int) - 1 by omega]; (repeat (first | exact Sub.nil _ | (refine Sub.cons rfl ?_)))) (by (apply le_of_picks; (repeat (first | exact Picks.nil | (apply Picks.cons; (· (repeat (first | exact Pick.here | apply Pick.there)))) | apply Picks.empty)))) ⟨by dsimp only; omega, by dsimp only; omega, by dsimp only; rw [swp_size', hdk], hFk⟩
  · rw [if_neg hij] at hFk
    subst hFk
    refine run_seq ?_
    refine run_seq ?_
    refine run_region rfl ?_
    refine op_move rfl rfl ?_
    refine op_move rfl rfl ?_
    refine op_cmp_f rfl rfl rfl rfl (by first | (simp only [cmpP]; done) | (simp only [cmpP]; omega)) ?_
    refine ops_nil ?_
    refine fin_code ?_
    refine run_cond_f rfl ?_
    refine run_exit ?_
    refine fin_exit_code ?_
    refine fin_exit_inv ?_
    refine fin_exit_here ?_
    refine fin_ret0 (.inr rfl) rfl ?_
    intro w' g
    exact hR _ _ (post_of g () trivial rfl (by (apply le_of_picks; (repeat (first | exact Picks.nil | (apply Picks.cons; (· (repeat (first | exact Pick.here | apply Pick.there)))) | apply Picks.empty)))))
end
end Go.Proofs.Eng
