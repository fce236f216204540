/- A part of the proof: what functions of the program do, step by step. -/
import Derived.Test.YtnomlnfdmoecoaaDoorN2
set_option linter.unusedVariables false
set_option linter.unusedSimpArgs false
namespace Go.Proofs.Eng
open Go.RowKit
section
variable {α : Type} [Inhabited α] {L : Array α → Hp} {rv : Value} {n : Nat} {lt : α → α → Bool}
def swB (q s : Nat) : Hp := [⟨q, .cells #[.int .i64 s] 3 (0, 0)⟩]
theorem order2_lt {lt : α → α → Bool} {d : Array α} {a b s n : Nat} (ha : a < n) (hb : b < n) : (Sort.order2 lt d a b s).1 < n ∧ (Sort.order2 lt d a b s).2.1 < n ∧ (Sort.order2 lt d a b s).2.2 ≤ s + 1 := by
  unfold Sort.order2
  split
  · exact ⟨hb, ha, Nat.le_refl _⟩
  · exact ⟨ha, hb, Nat.le_succ _⟩
theorem median_lt {lt : α → α → Bool} {d : Array α} {a b c s n : Nat} (ha : a < n) (hb : b < n) (hc : c < n) : (Sort.median lt d a b c s).1 < n ∧ (Sort.median lt d a b c s).2 ≤ s + 3 := by
  unfold Sort.median
  have h1 := order2_lt (lt := lt) (d := d) (s := s) ha hb
  have h2 := order2_lt (lt := lt) (d := d) (s := (Sort.order2 lt d a b s).2.2) h1.2.1 hc
  have h3 := order2_lt (lt := lt) (d := d) (s := (Sort.order2 lt d (Sort.order2 lt d a b s).2.1 c (Sort.order2 lt d a b s).2.2).2.2) h1.1 h2.1
  dsimp only
  omega
set_option maxRecDepth 100000 in
set_option maxHeartbeats 8000000 in
theorem order2_any (D : SD L rv n lt) (w : World) (d : Array α) (A B : Int) (a b q s : Nat) (hd : d.size = n) (hA : A = a) (hB : B = b) (ha : a < n) (hb : b < n) (hs : s ≤ 1000) (hw : At w ([L d, swB q s] : List Hp).flatten) :
    Calls Tryd.prog 66 #[.iface 91 rv, .int .i64 A, .int .i64 B, .pointer (some ⟨q, 0, none⟩)] w (Post w ([L d, swB q s] : List Hp).flatten (fun _ : Unit => .tuple #[.int .i64 (Sort.order2 lt d a b s).1, .int .i64 (Sort.order2 lt d a b s).2.1]) (fun _ => ([L d, swB q (Sort.order2 lt d a b s).2.2] : List Hp).flatten) (fun _ => True)) := by
  subst hA hB
  have hfew := D.few
  refine enter [L d, swB q s] Tryd.func66 rfl rfl hw (Le.refl _) ?_
  intro R hR
  unfold Sort.order2 at hR
  dsimp only [swB] at hR ⊢
  refine run_seq ?_
  refine run_region rfl ?_
  refine op_assign rfl rfl ?_
  refine op_assign rfl rfl ?_
  refine ops_nil ?_
  refine fin_code ?_
  refine run_seq ?_
  refine run_seq ?_
  refine run_region rfl ?_
  refine op_move rfl rfl ?_
  refine op_move rfl rfl ?_
  refine op_move rfl rfl ?_
  ((first | (apply op_invE 91 85; (· infer_instance); (· infer_instance); (· exact rfl)) | (apply op_inv0E 91 85; (· infer_instance); (· infer_instance))); (· exact rfl); (· exact rfl); rotate_left 1; (· exact fun w hG hw => D.less w d _ _ b a hd (by omega) (by omega) (by omega) (by omega) hw); rotate_right 1; (· (repeat (first | exact Picks.nil | (apply Picks.cons; (· (repeat (first | exact Pick.here | apply Pick.there)))) | apply Picks.empty))))
  intro _ _
  cases hlt : lt d[b]! d[a]! with
  | true =>
    simp only [hlt, if_true] at hR
    refine ops_nil ?_
    refine fin_code ?_
    refine run_cond_t rfl ?_
    refine run_seq ?_
    refine run_region rfl ?_
    refine op_move rfl rfl ?_
    refine op_nilCheck rfl rfl ?_
    (apply op_load; (· exact rfl); (· exact rfl); (· apply cell_of_has; (· (repeat (first | exact Has.here | apply Has.there))); (· first | exact rfl | exact nats_get _ _ _ (by omega))))
    refine op_add rfl rfl rfl (by simp only [kLo, kHi]; omega) ?_
    refine op_nilCheck rfl rfl ?_
    (apply op_store; (· exact rfl); (· exact rfl); (· exact rfl); (· (repeat (first | exact Swap.here | apply Swap.there))); (· first | decide | (simp; done) | (simp; omega) | assumption))
    refine ops_nil ?_
    refine fin_code ?_
    refine run_seq ?_
    refine run_region rfl ?_
    refine op_move rfl rfl ?_
    refine op_move rfl rfl ?_
    refine op_assign rfl rfl ?_
    refine op_assign rfl rfl ?_
    refine ops_nil ?_
    refine fin_code ?_
    refine run_ret ?_
    refine fin_ret_code ?_
    refine fin_ret2 rfl rfl rfl ?_
    intro w' g
    exact hR _ _ (post_of g () trivial rfl (by (apply le_of_picks; (repeat (first | exact Picks.nil | (apply Picks.cons; (· (repeat (first | exact Pick.here | apply Pick.there)))) | apply Picks.empty)))))
  | false =>
    simp only [hlt, if_false, Bool.false_eq_true] at hR
    refine ops_nil ?_
    refine fin_code ?_
    refine run_cond_f rfl ?_
    refine run_skip ?_
    refine fin_code ?_
    refine run_seq ?_
    refine run_region rfl ?_
    refine op_move rfl rfl ?_
    refine op_move rfl rfl ?_
    refine op_assign rfl rfl ?_
    refine op_assign rfl rfl ?_
    refine ops_nil ?_
    refine fin_code ?_
    refine run_ret ?_
    refine fin_ret2 rfl rfl rfl ?_
    intro w' g
    exact hR _ _ (post_of g () trivial rfl (by (apply le_of_picks; (repeat (first | exact Picks.nil | (apply Picks.cons; (· (repeat (first | exact Pick.here | apply Pick.there)))) | apply Picks.empty)))))
set_option maxRecDepth 100000 in
set_option maxHeartbeats 8000000 in
theorem median_any (D : SD L rv n lt) (w : World) (d : Array α) (A B C' : Int) (a b c q s : Nat) (hd : d.size = n) (hA : A = a) (hB : B = b) (hC : C' = c) (ha : a < n) (hb : b < n) (hc : c < n) (hs : s ≤ 900) (hw : At w ([L d, swB q s] : List Hp).flatten) :
    Calls Tryd.prog 63 #[.iface 91 rv, .int .i64 A, .int .i64 B, .int .i64 C', .pointer (some ⟨q, 0, none⟩)] w (Post w ([L d, swB q s] : List Hp).flatten (fun _ : Unit => .int .i64 (Sort.median lt d a b c s).1) (fun _ => ([L d, swB q (Sort.median lt d a b c s).2] : List Hp).flatten) (fun _ => True)) := by
  subst hA hB hC
  have hfew := D.few
  refine enter [L d, swB q s] Tryd.func63 rfl rfl hw (Le.refl _) ?_
  intro R hR
  unfold Sort.median at hR
  dsimp only at hR
  have A1 := fun w hw => order2_any D w d a b a b q s hd rfl rfl ha hb (by omega) hw
  have B1 := order2_lt (lt := lt) (d := d) (s := s) ha hb
  generalize Sort.order2 lt d a b s = r1 at *
  obtain ⟨x1, y1, s1⟩ := r1
  dsimp only at A1 B1 hR
  have A2 := fun w hw => order2_any D w d y1 c y1 c q s1 hd rfl rfl B1.2.1 hc (by omega) hw
  have B2 := order2_lt (lt := lt) (d := d) (s := s1) B1.2.1 hc
  generalize Sort.order2 lt d y1 c s1 = r2 at *
  obtain ⟨x2, y2, s2⟩ := r2
  dsimp only at A2 B2 hR
  have A3 := fun w hw => order2_any D w d x1 x2 x1 x2 q s2 hd rfl rfl B1.1 B2.1 (by omega) hw
  generalize Sort.order2 lt d x1 x2 s2 = r3 at *
  obtain ⟨x3, y3, s3⟩ := r3
  dsimp only at A3 hR
  refine run_seq ?_
  refine run_region rfl ?_
  refine op_assign rfl rfl ?_
  refine ops_nil ?_
  refine fin_code ?_
  refine run_seq ?_
  refine run_region rfl ?_
  refine op_move rfl rfl ?_
  refine op_move rfl rfl ?_
  refine op_move rfl rfl ?_
  refine op_move rfl rfl ?_
  ((first | (apply op_call; (· exact rfl)) | apply op_call0); (· exact rfl); rotate_left 1; (· exact fun w hG hw => A1 w hw); rotate_right 1; (· (repeat (first | exact Picks.nil | (apply Picks.cons; (· (repeat (first | exact Pick.here | apply Pick.there)))) | apply Picks.empty))))
  intro _ _
  refine op_move rfl rfl ?_
  refine op_extract rfl rfl rfl ?_
  refine op_extract rfl rfl rfl ?_
  refine op_assign rfl rfl ?_
  refine op_assign rfl rfl ?_
  refine ops_nil ?_
  refine fin_code ?_
  refine run_seq ?_
  refine run_region rfl ?_
  refine op_move rfl rfl ?_
  refine op_move rfl rfl ?_
  refine op_move rfl rfl ?_
  refine op_move rfl rfl ?_
  ((first | (apply op_call; (· exact rfl)) | apply op_call0); (· exact rfl); rotate_left 1; (· exact fun w hG hw => A2 w hw); rotate_right 1; (· (repeat (first | exact Picks.nil | (apply Picks.cons; (· (repeat (first | exact Pick.here | apply Pick.there)))) | apply Picks.empty))))
  intro _ _
  refine op_move rfl rfl ?_
  refine op_extract rfl rfl rfl ?_
  refine op_extract rfl rfl rfl ?_
  refine op_assign rfl rfl ?_
  refine op_assign rfl rfl ?_
  refine ops_nil ?_
  refine fin_code ?_
  refine run_seq ?_
  refine run_region rfl ?_
  refine op_move rfl rfl ?_
  refine op_move rfl rfl ?_
  refine op_move rfl rfl ?_
  refine op_move rfl rfl ?_
  ((first | (apply op_call; (· exact rfl)) | apply op_call0); (· exact rfl); rotate_left 1; (· exact fun w hG hw => A3 w hw); rotate_right 1; (· (repeat (first | exact Picks.nil | (apply Picks.cons; (· (repeat (first | exact Pick.here | apply Pick.there)))) | apply Picks.empty))))
  intro _ _
  refine op_move rfl rfl ?_
  refine op_extract rfl rfl rfl ?_
  refine op_extract rfl rfl rfl ?_
  refine op_assign rfl rfl ?_
  refine op_assign rfl rfl ?_
  refine ops_nil ?_
  refine fin_code ?_
  refine run_seq ?_
  refine run_region rfl ?_
  refine op_move rfl rfl ?_
  refine op_assign rfl rfl ?_
  refine ops_nil ?_
  refine fin_code ?_
  refine run_ret ?_
  refine fin_ret1 rfl rfl ?_
  intro w' g
  exact hR _ _ (post_of g () trivial rfl (by (apply le_of_picks; (repeat (first | exact Picks.nil | (apply Picks.cons; (· (repeat (first | exact Pick.here | apply Pick.there)))) | apply Picks.empty)))))
set_option maxRecDepth 100000 in
set_option maxHeartbeats 8000000 in
theorem medAdj_any (D : SD L rv n lt) (w : World) (d : Array α) (A : Int) (a q s : Nat) (hd : d.size = n) (hA : A = a) (ha : 0 < a) (hb : a + 1 < n) (hs : s ≤ 900) (hw : At w ([L d, swB q s] : List Hp).flatten) :
    Calls Tryd.prog 62 #[.iface 91 rv, .int .i64 A, .pointer (some ⟨q, 0, none⟩)] w (Post w ([L d, swB q s] : List Hp).flatten (fun _ : Unit => .int .i64 (Sort.medianAdjacent lt d a s).1) (fun _ => ([L d, swB q (Sort.medianAdjacent lt d a s).2] : List Hp).flatten) (fun _ => True)) := by
  subst hA
  have hfew := D.few
  refine enter [L d, swB q s] Tryd.func62 rfl rfl hw (Le.refl _) ?_
  intro R hR
  unfold Sort.medianAdjacent at hR
  refine run_seq ?_
  refine run_region rfl ?_
  refine op_assign rfl rfl ?_
  refine ops_nil ?_
  refine fin_code ?_
  refine run_seq ?_
  refine run_region rfl ?_
  refine op_move rfl rfl ?_
  refine op_move rfl rfl ?_
  refine op_sub rfl rfl rfl (by simp only [kLo, kHi]; omega) ?_
  refine op_move rfl rfl ?_
  refine op_move rfl rfl ?_
  refine op_add rfl rfl rfl (by simp only [kLo, kHi]; omega) ?_
  refine op_move rfl rfl ?_
  ((first | (apply op_call; (· exact rfl)) | apply op_call0); (· exact rfl); rotate_left 1; (· exact fun w hG hw => median_any D w d _ _ _ (a - 1) a (a + 1) q s hd (by omega) rfl (by omega) (by omega) (by omega) (by omega) hs hw); rotate_right 1; (· (repeat (first | exact Picks.nil | (apply Picks.cons; (· (repeat (first | exact Pick.here | apply Pick.there)))) | apply Picks.empty))))
  intro _ _
  refine op_assign rfl rfl ?_
  refine ops_nil ?_
  refine fin_code ?_
  refine run_ret ?_
  refine fin_ret1 rfl rfl ?_
  intro w' g
  exact hR _ _ (post_of g () trivial rfl (by (apply le_of_picks; (repeat (first | exact Picks.nil | (apply Picks.cons; (· (repeat (first | exact Pick.here | apply Pick.there)))) | apply Picks.empty)))))
def hintN : Sort.Hint → Nat
  | .unknown => 0
  | .increasing => 1
  | .decreasing => 2
theorem pivot_lt {lt : α → α → Bool} {d : Array α} {a b n : Nat} (hab : a + 8 ≤ b) (hbn : b ≤ n) : (Sort.choosePivot lt d a b).1 < n := by
  unfold Sort.choosePivot
  dsimp only
  rw [if_pos (by omega)]
  split
  · have h1 := median_lt (lt := lt) (d := d) (a := a + (b - a) / 4 * 1 - 1) (b := a + (b - a) / 4 * 1) (c := a + (b - a) / 4 * 1 + 1) (s := 0) (n := n) (by omega) (by omega) (by omega)
    have h2 := median_lt (lt := lt) (d := d) (a := a + (b - a) / 4 * 2 - 1) (b := a + (b - a) / 4 * 2) (c := a + (b - a) / 4 * 2 + 1) (s := (Sort.medianAdjacent lt d (a + (b - a) / 4 * 1) 0).2) (n := n) (by omega) (by omega) (by omega)
    have h3 := median_lt (lt := lt) (d := d) (a := a + (b - a) / 4 * 3 - 1) (b := a + (b - a) / 4 * 3) (c := a + (b - a) / 4 * 3 + 1) (s := (Sort.medianAdjacent lt d (a + (b - a) / 4 * 2) (Sort.medianAdjacent lt d (a + (b - a) / 4 * 1) 0).2).2) (n := n) (by omega) (by omega) (by omega)
    exact (median_lt h1.1 h2.1 h3.1).1
  · exact (median_lt (by omega) (by omega) (by omega)).1
set_option maxRecDepth 100000 in
set_option maxHeartbeats 16000000 in
theorem pivot_any (D : SD L rv n lt) (w : World) (d : Array α) (A B : Int) (a b : Nat) (hd : d.size = n) (hA : A = a) (hB : B = b) (hab : a + 12 < b) (hbn : b ≤ n) (hw : At w ([L d] : List Hp).flatten) :
    Calls Tryd.prog 52 #[.iface 91 rv, .int .i64 A, .int .i64 B] w (Post w ([L d] : List Hp).flatten (fun _ : Unit => .tuple #[.int .i64 (Sort.choosePivot lt d a b).1, .int .i64 (hintN (Sort.choosePivot lt d a b).2)]) (fun _ => ([L d] : List Hp).flatten) (fun _ => True)) := by
  subst hA hB
  have hfew := D.few
  refine enter [L d] Tryd.func52 rfl rfl hw (Le.refl _) ?_
  intro R hR
  unfold Sort.choosePivot at hR
  dsimp only at hR
  rw [if_pos (by omega)] at hR
  have hm : ((b : Int) - a) = ((b - a : Nat) : Int) ∧ (4 : Int) = ((4 : Nat) : Int) := by omega
  have hend : ∀ (r : Nat × Nat), ((if r.2 = 0 then Sort.Hint.increasing else if r.2 = 12 then .decreasing else .unknown) = .increasing ∧ r.2 = 0) ∨ ((if r.2 = 0 then Sort.Hint.increasing else if r.2 = 12 then .decreasing else .unknown) = .decreasing ∧ r.2 = 12) ∨ ((if r.2 = 0 then Sort.Hint.increasing else if r.2 = 12 then .decreasing else .unknown) = .unknown ∧ r.2 ≠ 0 ∧ r.2 ≠ 12) := by
    intro r
    by_cases h1 : r.2 = 0
    · exact .inl ⟨by rw [if_pos h1], h1⟩
    · by_cases h2 : r.2 = 12
      · exact .inr (.inl ⟨by rw [if_neg h1, if_pos h2], h2⟩)
      · exact .inr (.inr ⟨by rw [if_neg h1, if_neg h2], h1, h2⟩)
  by_cases h50 : b - a ≥ 50
  · rw [if_pos h50] at hR
    have A1 := fun (A : Int) hA w q hw => medAdj_any D w d A (a + (b - a) / 4 * 1) q 0 hd hA (by omega) (by omega) (by omega) hw
    have B1 := median_lt (lt := lt) (d := d) (a := a + (b - a) / 4 * 1 - 1) (b := a + (b - a) / 4 * 1) (c := a + (b - a) / 4 * 1 + 1) (s := 0) (n := n) (by omega) (by omega) (by omega)
    change (Sort.medianAdjacent lt d (a + (b - a) / 4 * 1) 0).1 < n ∧ (Sort.medianAdjacent lt d (a + (b - a) / 4 * 1) 0).2 ≤ 0 + 3 at B1
    generalize Sort.medianAdjacent lt d (a + (b - a) / 4 * 1) 0 = r1 at *
    obtain ⟨x1, s1⟩ := r1
    dsimp only at A1 B1 hR
    have A2 := fun (A : Int) hA w q hw => medAdj_any D w d A (a + (b - a) / 4 * 2) q s1 hd hA (by omega) (by omega) (by omega) hw
    have B2 := median_lt (lt := lt) (d := d) (a := a + (b - a) / 4 * 2 - 1) (b := a + (b - a) / 4 * 2) (c := a + (b - a) / 4 * 2 + 1) (s := s1) (n := n) (by omega) (by omega) (by omega)
    change (Sort.medianAdjacent lt d (a + (b - a) / 4 * 2) s1).1 < n ∧ (Sort.medianAdjacent lt d (a + (b - a) / 4 * 2) s1).2 ≤ s1 + 3 at B2
    generalize Sort.medianAdjacent lt d (a + (b - a) / 4 * 2) s1 = r2 at *
    obtain ⟨x2, s2⟩ := r2
    dsimp only at A2 B2 hR
    have A3 := fun (A : Int) hA w q hw => medAdj_any D w d A (a + (b - a) / 4 * 3) q s2 hd hA (by omega) (by omega) (by omega) hw
    have B3 := median_lt (lt := lt) (d := d) (a := a + (b - a) / 4 * 3 - 1) (b := a + (b - a) / 4 * 3) (c := a + (b - a) / 4 * 3 + 1) (s := s2) (n := n) (by omega) (by omega) (by omega)
    change (Sort.medianAdjacent lt d (a + (b - a) / 4 * 3) s2).1 < n ∧ (Sort.medianAdjacent lt d (a + (b - a) / 4 * 3) s2).2 ≤ s2 + 3 at B3
    generalize Sort.medianAdjacent lt d (a + (b - a) / 4 * 3) s2 = r3 at *
    obtain ⟨x3, s3⟩ := r3
    dsimp only at A3 B3 hR
    have A4 := fun w q hw => median_any D w d _ _ _ x1 x2 x3 q s3 hd rfl rfl rfl B1.1 B2.1 B3.1 (by omega) hw
    have B4 := median_lt (lt := lt) (d := d) (s := s3) B1.1 B2.1 B3.1
    generalize Sort.median lt d x1 x2 x3 s3 = r4 at *
    obtain ⟨p, s'⟩ := r4
    dsimp only at A4 B4 hR
    dsimp only [swB] at A1 A2 A3 A4
    refine run_seq ?_
    refine run_region rfl ?_
    refine op_assign rfl rfl ?_
    refine op_assign rfl rfl ?_
    refine ops_nil ?_
    refine fin_code ?_
    refine run_seq ?_
    refine run_region rfl ?_
    refine op_move rfl rfl ?_
    refine op_move rfl rfl ?_
    refine op_sub rfl rfl rfl (by simp only [kLo, kHi]; omega) ?_
    refine op_assign rfl rfl ?_
    refine ops_nil ?_
    refine fin_code ?_
    refine run_seq ?_
    refine run_region rfl ?_
    (refine op_alloc rfl ?_; intro _ _)
    refine ops_nil ?_
    refine fin_code ?_
    refine run_seq ?_
    refine run_region rfl ?_
    refine op_move rfl rfl ?_
    refine op_move rfl rfl ?_
    (refine op_quoE rfl rfl (by assumption) (by omega) (by simp only [kHi]; omega) rfl ?_)
    (refine op_mul rfl rfl rfl (by simp only [kLo, kHi]; omega) ?_)
    refine op_add rfl rfl rfl (by simp only [kLo, kHi]; omega) ?_
    refine op_assign rfl rfl ?_
    refine ops_nil ?_
    refine fin_code ?_
    refine run_seq ?_
    refine run_region rfl ?_
    refine op_move rfl rfl ?_
    refine op_move rfl rfl ?_
    (refine op_quoE rfl rfl (by assumption) (by omega) (by simp only [kHi]; omega) rfl ?_)
    (refine op_mul rfl rfl rfl (by simp only [kLo, kHi]; omega) ?_)
    refine op_add rfl rfl rfl (by simp only [kLo, kHi]; omega) ?_
    refine op_assign rfl rfl ?_
    refine ops_nil ?_
    refine fin_code ?_
    refine run_seq ?_
    refine run_region rfl ?_
    refine op_move rfl rfl ?_
    refine op_move rfl rfl ?_
    (refine op_quoE rfl rfl (by assumption) (by omega) (by simp only [kHi]; omega) rfl ?_)
    (refine op_mul rfl rfl rfl (by simp only [kLo, kHi]; omega) ?_)
    refine op_add rfl rfl rfl (by simp only [kLo, kHi]; omega) ?_
    refine op_assign rfl rfl ?_
    refine ops_nil ?_
    refine fin_code ?_
    refine run_seq ?_
    refine run_seq ?_
    refine run_region rfl ?_
    refine op_move rfl rfl ?_
    refine op_cmp_t rfl rfl rfl rfl (by first | (simp only [cmpP]; done) | (simp only [cmpP]; omega)) ?_
    refine ops_nil ?_
    refine fin_code ?_
    refine run_cond_t rfl ?_
    refine run_seq ?_
    refine run_seq ?_
    refine run_region rfl ?_
    refine op_move rfl rfl ?_
    refine op_cmp_t rfl rfl rfl rfl (by first | (simp only [cmpP]; done) | (simp only [cmpP]; omega)) ?_
    refine ops_nil ?_
    refine fin_code ?_
    refine run_cond_t rfl ?_
    refine run_seq ?_
    refine run_region rfl ?_
    refine op_move rfl rfl ?_
    refine op_move rfl rfl ?_
    ((first | (apply op_call; (· exact rfl)) | apply op_call0); (· exact rfl); rotate_left 1; (· exact fun w hG hw => A1 _ (by omega) w _ hw); rotate_right 1; (· (repeat (first | exact Picks.nil | (apply Picks.cons; (· (repeat (first | exact Pick.here | apply Pick.there)))) | apply Picks.empty))))
    intro _ _
    refine op_assign rfl rfl ?_
    refine ops_nil ?_
    refine fin_code ?_
    refine run_seq ?_
    refine run_region rfl ?_
    refine op_move rfl rfl ?_
    refine op_move rfl rfl ?_
    ((first | (apply op_call; (· exact rfl)) | apply op_call0); (· exact rfl); rotate_left 1; (· exact fun w hG hw => A2 _ (by omega) w _ hw); rotate_right 1; (· (repeat (first | exact Picks.nil | (apply Picks.cons; (· (repeat (first | exact Pick.here | apply Pick.there)))) | apply Picks.empty))))
    intro _ _
    refine op_assign rfl rfl ?_
    refine ops_nil ?_
    refine fin_code ?_
    refine run_region rfl ?_
    refine op_move rfl rfl ?_
    refine op_move rfl rfl ?_
    ((first | (apply op_call; (· exact rfl)) | apply op_call0); (· exact rfl); rotate_left 1; (· exact fun w hG hw => A3 _ (by omega) w _ hw); rotate_right 1; (· (repeat (first | exact Picks.nil | (apply Picks.cons; (· (repeat (first | exact Pick.here | apply Pick.there)))) | apply Picks.empty))))
    intro _ _
    refine op_assign rfl rfl ?_
    refine ops_nil ?_
    refine fin_code ?_
    refine run_region rfl ?_
    refine op_move rfl rfl ?_
    refine op_move rfl rfl ?_
    refine op_move rfl rfl ?_
    refine op_move rfl rfl ?_
    ((first | (apply op_call; (· exact rfl)) | apply op_call0); (· exact rfl); rotate_left 1; (· exact fun w hG hw => A4 w _ hw); rotate_right 1; (· (repeat (first | exact Picks.nil | (apply Picks.cons; (· (repeat (first | exact Pick.here | apply Pick.there)))) | apply Picks.empty))))
    intro _ _
    rcases hend (p, s') with ⟨e, e2⟩ | ⟨e, e2⟩ | ⟨e, e2, e3⟩
    all_goals dsimp only at e2
    all_goals try (exfalso; omega)
    all_goals
      rw [e] at hR
      dsimp only [swB, hintN] at hR ⊢
      first | (refine op_assign rfl rfl ?_; refine ops_nil ?_; refine fin_code ?_; refine run_seq ?_; refine run_region rfl ?_; (apply op_load; (· exact rfl); (· exact rfl); (· apply cell_of_has; (· (repeat (first | exact Has.here | apply Has.there))); (· first | exact rfl | exact nats_get _ _ _ (by omega)))); refine ops_nil ?_; refine fin_code ?_; refine run_block ?_; refine run_seq ?_; refine run_region rfl ?_; refine op_cmp_f rfl rfl rfl rfl (by first | (simp only [cmpP]; done) | (simp only [cmpP]; omega)) ?_; refine op_assign rfl rfl ?_; refine ops_nil ?_; refine fin_code ?_; refine run_cond_f rfl ?_; refine run_seq ?_; refine run_region rfl ?_; refine op_cmp_t rfl rfl rfl rfl (by first | (simp only [cmpP]; done) | (simp only [cmpP]; omega)) ?_; refine op_assign rfl rfl ?_; refine ops_nil ?_; refine fin_code ?_; refine run_cond_t rfl ?_; refine run_seq ?_; refine run_region rfl ?_; refine op_move rfl rfl ?_; refine op_assign rfl rfl ?_; refine op_assign rfl rfl ?_; refine ops_nil ?_; refine fin_code ?_; refine run_ret ?_; refine fin_ret_block ?_) | (refine op_assign rfl rfl ?_; refine ops_nil ?_; refine fin_code ?_; refine run_seq ?_; refine run_region rfl ?_; (apply op_load; (· exact rfl); (· exact rfl); (· apply cell_of_has; (· (repeat (first | exact Has.here | apply Has.there))); (· first | exact rfl | exact nats_get _ _ _ (by omega)))); refine ops_nil ?_; refine fin_code ?_; refine run_block ?_; refine run_seq ?_; refine run_region rfl ?_; refine op_cmp_f rfl rfl rfl rfl (by first | (simp only [cmpP]; done) | (simp only [cmpP]; omega)) ?_; refine op_assign rfl rfl ?_; refine ops_nil ?_; refine fin_code ?_; refine run_cond_f rfl ?_; refine run_seq ?_; refine run_region rfl ?_; refine op_cmp_f rfl rfl rfl rfl (by first | (simp only [cmpP]; done) | (simp only [cmpP]; omega)) ?_; refine op_assign rfl rfl ?_; refine ops_nil ?_; refine fin_code ?_; refine run_cond_f rfl ?_; refine run_seq ?_; refine run_region rfl ?_; refine op_move rfl rfl ?_; refine op_assign rfl rfl ?_; refine op_assign rfl rfl ?_; refine ops_nil ?_; refine fin_code ?_; refine run_ret ?_; refine fin_ret_block ?_) | (refine op_assign rfl rfl ?_; refine ops_nil ?_; refine fin_code ?_; refine run_seq ?_; refine run_region rfl ?_; (apply op_load; (· exact rfl); (· exact rfl); (· apply cell_of_has; (· (repeat (first | exact Has.here | apply Has.there))); (· first | exact rfl | exact nats_get _ _ _ (by omega)))); refine ops_nil ?_; refine fin_code ?_; refine run_block ?_; refine run_seq ?_; refine run_region rfl ?_; refine op_cmp_t rfl rfl rfl rfl (by first | (simp only [cmpP]; done) | (simp only [cmpP]; omega)) ?_; refine op_assign rfl rfl ?_; refine ops_nil ?_; refine fin_code ?_; refine run_cond_t rfl ?_; refine run_seq ?_; refine run_region rfl ?_; refine op_move rfl rfl ?_; refine op_assign rfl rfl ?_; refine op_assign rfl rfl ?_; refine ops_nil ?_; refine fin_code ?_; refine run_ret ?_; refine fin_ret_block ?_)
      refine fin_ret2 rfl rfl rfl ?_
      intro w' g
      exact hR _ _ (post_of g () trivial rfl (by (apply le_of_picks; (repeat (first | exact Picks.nil | (apply Picks.cons; (· (repeat (first | exact Pick.here | apply Pick.there)))) | apply Picks.empty)))))
  · rw [if_neg h50] at hR
    have A4 := fun (A B C' : Int) hA hB hC w q hw => median_any D w d A B C' (a + (b - a) / 4 * 1) (a + (b - a) / 4 * 2) (a + (b - a) / 4 * 3) q 0 hd hA hB hC (by omega) (by omega) (by omega) (by omega) hw
    have B4 := median_lt (lt := lt) (d := d) (s := 0) (a := a + (b - a) / 4 * 1) (b := a + (b - a) / 4 * 2) (c := a + (b - a) / 4 * 3) (n := n) (by omega) (by omega) (by omega)
    generalize Sort.median lt d (a + (b - a) / 4 * 1) (a + (b - a) / 4 * 2) (a + (b - a) / 4 * 3) 0 = r4 at *
    obtain ⟨p, s'⟩ := r4
    dsimp only at A4 B4 hR
    dsimp only [swB] at A4
    refine run_seq ?_
    refine run_region rfl ?_
    refine op_assign rfl rfl ?_
    refine op_assign rfl rfl ?_
    refine ops_nil ?_
    refine fin_code ?_
    refine run_seq ?_
    refine run_region rfl ?_
    refine op_move rfl rfl ?_
    refine op_move rfl rfl ?_
    refine op_sub rfl rfl rfl (by simp only [kLo, kHi]; omega) ?_
    refine op_assign rfl rfl ?_
    refine ops_nil ?_
    refine fin_code ?_
    refine run_seq ?_
    refine run_region rfl ?_
    (refine op_alloc rfl ?_; intro _ _)
    refine ops_nil ?_
    refine fin_code ?_
    refine run_seq ?_
    refine run_region rfl ?_
    refine op_move rfl rfl ?_
    refine op_move rfl rfl ?_
    (refine op_quoE rfl rfl (by assumption) (by omega) (by simp only [kHi]; omega) rfl ?_)
    (refine op_mul rfl rfl rfl (by simp only [kLo, kHi]; omega) ?_)
    refine op_add rfl rfl rfl (by simp only [kLo, kHi]; omega) ?_
    refine op_assign rfl rfl ?_
    refine ops_nil ?_
    refine fin_code ?_
    refine run_seq ?_
    refine run_region rfl ?_
    refine op_move rfl rfl ?_
    refine op_move rfl rfl ?_
    (refine op_quoE rfl rfl (by assumption) (by omega) (by simp only [kHi]; omega) rfl ?_)
    (refine op_mul rfl rfl rfl (by simp only [kLo, kHi]; omega) ?_)
    refine op_add rfl rfl rfl (by simp only [kLo, kHi]; omega) ?_
    refine op_assign rfl rfl ?_
    refine ops_nil ?_
    refine fin_code ?_
    refine run_seq ?_
    refine run_region rfl ?_
    refine op_move rfl rfl ?_
    refine op_move rfl rfl ?_
    (refine op_quoE rfl rfl (by assumption) (by omega) (by simp only [kHi]; omega) rfl ?_)
    (refine op_mul rfl rfl rfl (by simp only [kLo, kHi]; omega) ?_)
    refine op_add rfl rfl rfl (by simp only [kLo, kHi]; omega) ?_
    refine op_assign rfl rfl ?_
    refine ops_nil ?_
    refine fin_code ?_
    refine run_seq ?_
    refine run_seq ?_
    refine run_region rfl ?_
    refine op_move rfl rfl ?_
    refine op_cmp_t rfl rfl rfl rfl (by first | (simp only [cmpP]; done) | (simp only [cmpP]; omega)) ?_
    refine ops_nil ?_
    refine fin_code ?_
    refine run_cond_t rfl ?_
    refine run_seq ?_
    refine run_seq ?_
    refine run_region rfl ?_
    refine op_move rfl rfl ?_
    refine op_cmp_f rfl rfl rfl rfl (by first | (simp only [cmpP]; done) | (simp only [cmpP]; omega)) ?_
    refine ops_nil ?_
    refine fin_code ?_
    refine run_cond_f rfl ?_
    refine run_skip ?_
    refine fin_code ?_
    refine run_region rfl ?_
    refine op_move rfl rfl ?_
    refine op_move rfl rfl ?_
    refine op_move rfl rfl ?_
    refine op_move rfl rfl ?_
    ((first | (apply op_call; (· exact rfl)) | apply op_call0); (· exact rfl); rotate_left 1; (· exact fun w hG hw => A4 _ _ _ (by omega) (by omega) (by omega) w _ hw); rotate_right 1; (· (repeat (first | exact Picks.nil | (apply Picks.cons; (· (repeat (first | exact Pick.here | apply Pick.there)))) | apply Picks.empty))))
    intro _ _
    rcases hend (p, s') with ⟨e, e2⟩ | ⟨e, e2⟩ | ⟨e, e2, e3⟩
    all_goals dsimp only at e2
    all_goals try (exfalso; omega)
    all_goals
      rw [e] at hR
      dsimp only [swB, hintN] at hR ⊢
      first | (refine op_assign rfl rfl ?_; refine ops_nil ?_; refine fin_code ?_; refine run_seq ?_; refine run_region rfl ?_; (apply op_load; (· exact rfl); (· exact rfl); (· apply cell_of_has; (· (repeat (first | exact Has.here | apply Has.there))); (· first | exact rfl | exact nats_get _ _ _ (by omega)))); refine ops_nil ?_; refine fin_code ?_; refine run_block ?_; refine run_seq ?_; refine run_region rfl ?_; refine op_cmp_f rfl rfl rfl rfl (by first | (simp only [cmpP]; done) | (simp only [cmpP]; omega)) ?_; refine op_assign rfl rfl ?_; refine ops_nil ?_; refine fin_code ?_; refine run_cond_f rfl ?_; refine run_seq ?_; refine run_region rfl ?_; refine op_cmp_f rfl rfl rfl rfl (by first | (simp only [cmpP]; done) | (simp only [cmpP]; omega)) ?_; refine op_assign rfl rfl ?_; refine ops_nil ?_; refine fin_code ?_; refine run_cond_f rfl ?_; refine run_seq ?_; refine run_region rfl ?_; refine op_move rfl rfl ?_; refine op_assign rfl rfl ?_; refine op_assign rfl rfl ?_; refine ops_nil ?_; refine fin_code ?_; refine run_ret ?_; refine fin_ret_block ?_) | (refine op_assign rfl rfl ?_; refine ops_nil ?_; refine fin_code ?_; refine run_seq ?_; refine run_region rfl ?_; (apply op_load; (· exact rfl); (· exact rfl); (· apply cell_of_has; (· (repeat (first | exact Has.here | apply Has.there))); (· first | exact rfl | exact nats_get _ _ _ (by omega)))); refine ops_nil ?_; refine fin_code ?_; refine run_block ?_; refine run_seq ?_; refine run_region rfl ?_; refine op_cmp_t rfl rfl rfl rfl (by first | (simp only [cmpP]; done) | (simp only [cmpP]; omega)) ?_; refine op_assign rfl rfl ?_; refine ops_nil ?_; refine fin_code ?_; refine run_cond_t rfl ?_; refine run_seq ?_; refine run_region rfl ?_; refine op_move rfl rfl ?_; refine op_assign rfl rfl ?_; refine op_assign rfl rfl ?_; refine ops_nil ?_; refine fin_code ?_; refine run_ret ?_; refine fin_ret_block ?_)
      refine fin_ret2 rfl rfl rfl ?_
      intro w' g
      exact hR _ _ (post_of g () trivial rfl (by (apply le_of_picks; (repeat (first | exact Picks.nil | (apply Picks.cons; (· (repeat (first | exact Pick.here | apply Pick.there)))) | apply Picks.empty)))))
end
end Go.Proofs.Eng
