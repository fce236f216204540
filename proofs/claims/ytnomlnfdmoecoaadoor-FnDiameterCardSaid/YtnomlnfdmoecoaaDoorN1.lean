/- A part of the proof: what functions of the program do, step by step. -/
import Derived.Test.YtnomlnfdmoecoaaDoorN0
set_option linter.unusedVariables false
set_option linter.unusedSimpArgs false
namespace Go.Proofs.Eng
open Go.RowKit
section
variable {C : Ctx} {ks : List Kont} {E : Env} {Ls Ls' : List Hp} {ops : Array Oper} {rest : List Oper}
variable {ty : Nat} {pos : String} {af : Array Edge} {d : Nat}
theorem op_invE {α : Type} (T f : Nat) {name : String} (i1 : TMeth C.P T name f) (i2 : TFn C.P f) {x : Operand} {rv : Value} {args : Array Operand} {ats : Array Nat} {vs : List Value} {ls R : List Hp} {ret : α → Value} {L' : α → List Hp} {φ : α → Prop}
    (hn : Nat.blt d C.fn.ntmps = true) (hr : ev E x = some (.iface T rv)) (hx : evs E args.toList = some vs) (hp : Picks Ls ls R)
    (hc : ∀ w, Goes C.w0 C.L0 w (ls ++ R).flatten → At w ls.flatten → Calls C.P f (rv :: vs).toArray w (Post w ls.flatten ret (fun x => (L' x).flatten) φ))
    (k : ∀ x, φ x → Ops C ops rest ks ((d, ret x) :: E) (L' x ++ R)) : Ops C ops (⟨some d, .call { callee := .invoke x name, args := args, argTypes := ats }, ty, pos, af, none⟩ :: rest) ks E Ls := op_inv hn hr hx hp hc k
theorem op_inv0E {α : Type} (T f : Nat) {name : String} (i1 : TMeth C.P T name f) (i2 : TFn C.P f) {x : Operand} {rv : Value} {args : Array Operand} {ats : Array Nat} {vs : List Value} {ls R : List Hp} {ret : α → Value} {L' : α → List Hp} {φ : α → Prop}
    (hr : ev E x = some (.iface T rv)) (hx : evs E args.toList = some vs) (hp : Picks Ls ls R)
    (hc : ∀ w, Goes C.w0 C.L0 w (ls ++ R).flatten → At w ls.flatten → Calls C.P f (rv :: vs).toArray w (Post w ls.flatten ret (fun x => (L' x).flatten) φ))
    (k : ∀ x, φ x → Ops C ops rest ks E (L' x ++ R)) : Ops C ops (⟨none, .call { callee := .invoke x name, args := args, argTypes := ats }, ty, pos, af, none⟩ :: rest) ks E Ls := op_inv0 hr hx hp hc k
end
/-- A row that can be sorted: what its methods do. -/
structure SD {α : Type} [Inhabited α] (L : Array α → Hp) (rv : Value) (n : Nat) (lt : α → α → Bool) : Prop where
  few : n ≤ 65535
  less : ∀ (w : World) (d : Array α) (a b : Int) (i j : Nat), d.size = n → a = i → b = j → i < n → j < n → At w ([L d] : List Hp).flatten →
    Calls Tryd.prog 85 #[rv, .int .i64 a, .int .i64 b] w (Post w ([L d] : List Hp).flatten (fun _ : Unit => .bool (lt d[i]! d[j]!)) (fun _ => ([L d] : List Hp).flatten) (fun _ => True))
  swap : ∀ (w : World) (d : Array α) (a b : Int) (i j : Nat), d.size = n → a = i → b = j → i < n → j < n → At w ([L d] : List Hp).flatten →
    Calls Tryd.prog 86 #[rv, .int .i64 a, .int .i64 b] w (Post w ([L d] : List Hp).flatten (fun _ : Unit => .tuple #[]) (fun _ => ([L (Sort.swp d i j)] : List Hp).flatten) (fun _ => True))
theorem SD.row {g n cap : Nat} {sp : List Value} (hn : n ≤ 65535) : SD (rowH g sp) (.slice (some ⟨g, 0, none⟩) n cap) n nsLt :=
  ⟨hn, fun w d a b i j hd ha hb hi hj hw => by subst hd; exact less_any w g cap sp d a b i j ha hb hi hj hw, fun w d a b i j hd ha hb hi hj hw => by subst hd; exact swap_any w g cap sp d a b i j ha hb hi hj hw⟩
theorem swp_size' {α : Type} [Inhabited α] (d : Array α) (i j : Nat) : (Sort.swp d i j).size = d.size := by simp [Sort.swp]
section
variable {α : Type} [Inhabited α] {L : Array α → Hp} {rv : Value} {n : Nat} {lt : α → α → Bool}
set_option maxRecDepth 100000 in
set_option maxHeartbeats 8000000 in
theorem insSort_any (D : SD L rv n lt) (w : World) (d : Array α) (A B : Int) (a b : Nat) (hd : d.size = n) (hA : A = a) (hB : B = b) (hab : a ≤ b) (hbn : b ≤ n) (hw : At w ([L d] : List Hp).flatten) :
    Calls Tryd.prog 49 #[.iface 91 rv, .int .i64 A, .int .i64 B] w (Post w ([L d] : List Hp).flatten (fun _ : Unit => .tuple #[]) (fun _ => ([L (Sort.insertionSort lt d a b)] : List Hp).flatten) (fun _ => True)) := by
  subst hA hB
  have hfew := D.few
  refine enter [L d] Tryd.func49 rfl rfl hw (Le.refl _) ?_
  intro R hR
  unfold Sort.insertionSort at hR
  generalize hF : Sort.insOuter lt a b (a + 1) d = F at hR
  refine run_seq ?_
  refine run_region rfl ?_
  refine op_move rfl rfl ?_
  refine op_add rfl rfl rfl (by simp only [kLo, kHi]; omega) ?_
  refine op_assign rfl rfl ?_
  refine ops_nil ?_
  refine fin_code ?_
  refine run_block ?_
  refine run_loop (α := Nat × Array α) (fun x => [(0, .iface 91 rv), (1, .int .i64 a), (2, .int .i64 b), (6, .int .i64 (x.1 : Nat))]) (fun x => [L x.2]) (fun x => a < x.1 ∧ x.1 ≤ b + 1 ∧ x.2.size = n ∧ Sort.insOuter lt a b x.1 x.2 = F) (fun x => b + 1 - x.1)
    (a + 1, d) ⟨by dsimp only; omega, by dsimp only; omega, hd, hF⟩ (by (repeat (first | exact Sub.nil _ | (refine Sub.cons rfl ?_)))) (by (apply le_of_picks; (repeat (first | exact Picks.nil | (apply Picks.cons; (· (repeat (first | exact Pick.here | apply Pick.there)))) | apply Picks.empty)))) ?_
  rintro ⟨i, dk⟩ ⟨hai, hib, hdk, hFi⟩
  dsimp only at hai hib hdk hFi ⊢
  unfold Sort.insOuter at hFi
  by_cases hi : i < b
  · rw [if_pos hi] at hFi
    generalize hG : Sort.insInner lt a i dk = G at hFi
    refine run_seq ?_
    refine run_seq ?_
    refine run_region rfl ?_
    refine op_move rfl rfl ?_
    refine op_move rfl rfl ?_
    refine op_cmp_t rfl rfl rfl rfl (by first | (simp only [cmpP]; done) | (simp only [cmpP]; omega)) ?_
    refine ops_nil ?_
    refine fin_code ?_
    refine run_cond_t rfl ?_
    refine run_skip ?_
    refine fin_code ?_
    refine run_seq ?_
    refine run_block ?_
    refine run_seq ?_
    refine run_region rfl ?_
    refine op_move rfl rfl ?_
    refine op_assign rfl rfl ?_
    refine ops_nil ?_
    refine fin_code ?_
    refine run_block ?_
    refine run_loop (α := Nat × Array α) (fun x => [(0, .iface 91 rv), (1, .int .i64 a), (2, .int .i64 b), (6, .int .i64 (i : Nat)), (7, .int .i64 (x.1 : Nat))]) (fun x => [L x.2]) (fun x => x.1 ≤ i ∧ x.2.size = n ∧ Sort.insInner lt a x.1 x.2 = G) (fun x => x.1)
      (i, dk) ⟨Nat.le_refl _, hdk, hG⟩ (by (repeat (first | exact Sub.nil _ | (refine Sub.cons rfl ?_)))) (by (apply le_of_picks; (repeat (first | exact Picks.nil | (apply Picks.cons; (· (repeat (first | exact Pick.here | apply Pick.there)))) | apply Picks.empty)))) ?_
    rintro ⟨j, dj⟩ ⟨hji, hdj, hGj⟩
    dsimp only at hji hdj hGj ⊢
    by_cases hj : a < j
    · obtain ⟨j', rfl⟩ : ∃ j', j = j' + 1 := ⟨j - 1, by omega⟩
      simp only [Sort.insInner, gt_iff_lt, hj, decide_true, Bool.true_and] at hGj
      refine run_seq ?_
      refine run_seq ?_
      refine run_region rfl ?_
      refine op_move rfl rfl ?_
      refine op_move rfl rfl ?_
      refine op_cmp_t rfl rfl rfl rfl (by first | (simp only [cmpP]; done) | (simp only [cmpP]; omega)) ?_
      refine op_move rfl rfl ?_
      refine ops_guard_yes rfl rfl rfl ?_
      refine op_move rfl rfl ?_
      refine ops_guard_yes rfl rfl rfl ?_
      refine op_move rfl rfl ?_
      refine ops_guard_yes rfl rfl rfl ?_
      refine op_move rfl rfl ?_
      refine ops_guard_yes rfl rfl rfl ?_
      refine op_sub rfl rfl rfl (by simp only [kLo, kHi]; omega) ?_
      refine ops_guard_yes rfl rfl rfl ?_
      ((first | (apply op_invE 91 85; (· infer_instance); (· infer_instance); (· exact rfl)) | (apply op_inv0E 91 85; (· infer_instance); (· infer_instance))); (· exact rfl); (· exact rfl); rotate_left 1; (· exact fun w hG hw => D.less w dj _ _ (j' + 1) j' hdj (by omega) (by omega) (by omega) (by omega) hw); rotate_right 1; (· (repeat (first | exact Picks.nil | (apply Picks.cons; (· (repeat (first | exact Pick.here | apply Pick.there)))) | apply Picks.empty))))
      intro _ _
      cases hlt : lt dj[j' + 1]! dj[j']! with
      | true =>
        rw [hlt, if_pos rfl] at hGj
        refine op_pick_t rfl rfl rfl ?_
        refine ops_nil ?_
        refine fin_code ?_
        refine run_cond_t rfl ?_
        refine run_skip ?_
        refine fin_code ?_
        refine run_seq ?_
        refine run_block ?_
        refine run_region rfl ?_
        refine op_move rfl rfl ?_
        refine op_move rfl rfl ?_
        refine op_move rfl rfl ?_
        refine op_sub rfl rfl rfl (by simp only [kLo, kHi]; omega) ?_
        ((first | (apply op_invE 91 86; (· infer_instance); (· infer_instance); (· exact rfl)) | (apply op_inv0E 91 86; (· infer_instance); (· infer_instance))); (· exact rfl); (· exact rfl); rotate_left 1; (· exact fun w hG hw => D.swap w dj _ _ (j' + 1) j' hdj (by omega) (by omega) (by omega) (by omega) hw); rotate_right 1; (· (repeat (first | exact Picks.nil | (apply Picks.cons; (· (repeat (first | exact Pick.here | apply Pick.there)))) | apply Picks.empty))))
        intro _ _
        refine ops_nil ?_
        refine fin_block ?_
        refine fin_code ?_
        refine run_region rfl ?_
        refine op_move rfl rfl ?_
        refine op_sub rfl rfl rfl (by simp only [kLo, kHi]; omega) ?_
        refine op_assign rfl rfl ?_
        refine ops_nil ?_
        refine fin_round (j', Sort.swp dj (j' + 1) j') (by dsimp only; omega) (by rw [show ((j' : Nat) : Int) = ((j' + 1 : Nat) : Int) - 1 by omega]; (repeat (first | exact Sub.nil _ | (refine Sub.cons rfl ?_)))) (by (apply le_of_picks; (repeat (first | exact Picks.nil | (apply Picks.cons; (· (repeat (first | exact Pick.here | apply Pick.there)))) | apply Picks.empty)))) ⟨by dsimp only; omega, by dsimp only; rw [swp_size', hdj], hGj⟩
      | false =>
        rw [hlt, if_neg (by decide)] at hGj
        subst hGj
        refine op_pick_t rfl rfl rfl ?_
        refine ops_nil ?_
        refine fin_code ?_
        refine run_cond_f rfl ?_
        refine run_exit ?_
        refine fin_exit_code ?_
        refine fin_exit_inv ?_
        refine fin_exit_here ?_
        refine fin_block ?_
        refine fin_code ?_
        refine run_region rfl ?_
        refine op_move rfl rfl ?_
        refine op_add rfl rfl rfl (by simp only [kLo, kHi]; omega) ?_
        refine op_assign rfl rfl ?_
        refine ops_nil ?_
        refine fin_round (i + 1, dj) (by dsimp only; omega) (by (repeat (first | exact Sub.nil _ | (refine Sub.cons rfl ?_)))) (by (apply le_of_picks; (repeat (first | exact Picks.nil | (apply Picks.cons; (· (repeat (first | exact Pick.here | apply Pick.there)))) | apply Picks.empty)))) ⟨by dsimp only; omega, by dsimp only; omega, hdj, hFi⟩
    · have hGe : dj = G := by
        rw [← hGj]
        cases j with
        | zero => rfl
        | succ j => simp only [Sort.insInner, gt_iff_lt, hj, decide_false, Bool.false_and]; rfl
      subst hGe
      refine run_seq ?_
      refine run_seq ?_
      refine run_region rfl ?_
      refine op_move rfl rfl ?_
      refine op_move rfl rfl ?_
      refine op_cmp_f rfl rfl rfl rfl (by first | (simp only [cmpP]; done) | (simp only [cmpP]; omega)) ?_
      refine op_move rfl rfl ?_
      refine ops_off1 rfl rfl ?_
      refine ops_off1 rfl rfl ?_
      refine ops_off1 rfl rfl ?_
      refine ops_off1 rfl rfl ?_
      refine ops_off1 rfl rfl ?_
      refine op_pick_f rfl rfl rfl ?_
      refine ops_nil ?_
      refine fin_code ?_
      refine run_cond_f rfl ?_
      refine run_exit ?_
      refine fin_exit_code ?_
      refine fin_exit_inv ?_
      refine fin_exit_here ?_
      refine fin_block ?_
      refine fin_code ?_
      refine run_region rfl ?_
      refine op_move rfl rfl ?_
      refine op_add rfl rfl rfl (by simp only [kLo, kHi]; omega) ?_
      refine op_assign rfl rfl ?_
      refine ops_nil ?_
      refine fin_round (i + 1, dj) (by dsimp only; omega) (by (repeat (first | exact Sub.nil _ | (refine Sub.cons rfl ?_)))) (by (apply le_of_picks; (repeat (first | exact Picks.nil | (apply Picks.cons; (· (repeat (first | exact Pick.here | apply Pick.there)))) | apply Picks.empty)))) ⟨by dsimp only; omega, by dsimp only; omega, hdj, hFi⟩
  · rw [if_neg hi] at hFi
    subst hFi
    refine run_seq ?_
    refine run_seq ?_
    refine run_region rfl ?_
    refine op_move rfl rfl ?_
    refine op_move rfl rfl ?_
    refine op_cmp_f rfl rfl rfl rfl (by first | (simp only [cmpP]; done) | (simp only [cmpP]; omega)) ?_
    refine ops_nil ?_
    refine fin_code ?_
    refine run_cond_f rfl ?_
    refine run_exit ?_
    refine fin_exit_code ?_
    refine fin_exit_inv ?_
    refine fin_exit_here ?_
    refine fin_ret0 (.inr rfl) rfl ?_
    intro w' g
    exact hR _ _ (post_of g () trivial rfl (by (apply le_of_picks; (repeat (first | exact Picks.nil | (apply Picks.cons; (· (repeat (first | exact Pick.here | apply Pick.there)))) | apply Picks.empty)))))
set_option maxRecDepth 100000 in
set_option maxHeartbeats 8000000 in
theorem sift_any (D : SD L rv n lt) (w : World) (d : Array α) (LO HI FI : Int) (lo hi first : Nat) (hd : d.size = n) (hL : LO = lo) (hH : HI = hi) (hFi : FI = first) (hfn : first + hi ≤ n) (hlo : lo ≤ n) (hw : At w ([L d] : List Hp).flatten) :
    Calls Tryd.prog 59 #[.iface 91 rv, .int .i64 LO, .int .i64 HI, .int .i64 FI] w (Post w ([L d] : List Hp).flatten (fun _ : Unit => .tuple #[]) (fun _ => ([L (Sort.siftDown lt hi first lo d)] : List Hp).flatten) (fun _ => True)) := by
  subst hL hH hFi
  have hfew := D.few
  refine enter [L d] Tryd.func59 rfl rfl hw (Le.refl _) ?_
  intro R hR
  generalize hF : Sort.siftDown lt hi first lo d = F at hR
  refine run_seq ?_
  refine run_region rfl ?_
  refine op_move rfl rfl ?_
  refine op_assign rfl rfl ?_
  refine ops_nil ?_
  refine fin_code ?_
  refine run_block ?_
  refine run_loop (α := Nat × Array α) (fun x => [(0, .iface 91 rv), (2, .int .i64 hi), (3, .int .i64 first), (8, .int .i64 (x.1 : Nat))]) (fun x => [L x.2]) (fun x => x.1 ≤ n ∧ x.2.size = n ∧ Sort.siftDown lt hi first x.1 x.2 = F) (fun x => n + 1 - x.1)
    (lo, d) ⟨hlo, hd, hF⟩ (by (repeat (first | exact Sub.nil _ | (refine Sub.cons rfl ?_)))) (by (apply le_of_picks; (repeat (first | exact Picks.nil | (apply Picks.cons; (· (repeat (first | exact Pick.here | apply Pick.there)))) | apply Picks.empty)))) ?_
  rintro ⟨r, dk⟩ ⟨hrn, hdk, hFr⟩
  dsimp only at hrn hdk hFr ⊢
  unfold Sort.siftDown at hFr
  by_cases h1 : 2 * r + 1 ≥ hi
  · rw [dif_pos h1] at hFr
    subst hFr
    refine run_block ?_
    refine run_seq ?_
    refine run_region rfl ?_
    refine op_move rfl rfl ?_
    (refine op_mul rfl rfl rfl (by simp only [kLo, kHi]; omega) ?_)
    refine op_add rfl rfl rfl (by simp only [kLo, kHi]; omega) ?_
    refine op_assign rfl rfl ?_
    refine ops_nil ?_
    refine fin_code ?_
    refine run_seq ?_
    refine run_seq ?_
    refine run_region rfl ?_
    refine op_move rfl rfl ?_
    refine op_move rfl rfl ?_
    refine op_cmp_t rfl rfl rfl rfl (by first | (simp only [cmpP]; done) | (simp only [cmpP]; omega)) ?_
    refine ops_nil ?_
    refine fin_code ?_
    refine run_cond_t rfl ?_
    refine run_exit ?_
    refine fin_exit_code ?_
    refine fin_exit_past rfl ?_
    refine fin_exit_inv ?_
    refine fin_exit_here ?_
    refine fin_ret0 (.inr rfl) rfl ?_
    intro w' g
    exact hR _ _ (post_of g () trivial rfl (by (apply le_of_picks; (repeat (first | exact Picks.nil | (apply Picks.cons; (· (repeat (first | exact Pick.here | apply Pick.there)))) | apply Picks.empty)))))
  rw [dif_neg h1] at hFr
  refine run_block ?_
  refine run_seq ?_
  refine run_region rfl ?_
  refine op_move rfl rfl ?_
  (refine op_mul rfl rfl rfl (by simp only [kLo, kHi]; omega) ?_)
  refine op_add rfl rfl rfl (by simp only [kLo, kHi]; omega) ?_
  refine op_assign rfl rfl ?_
  refine ops_nil ?_
  refine fin_code ?_
  refine run_seq ?_
  refine run_seq ?_
  refine run_region rfl ?_
  refine op_move rfl rfl ?_
  refine op_move rfl rfl ?_
  refine op_cmp_f rfl rfl rfl rfl (by first | (simp only [cmpP]; done) | (simp only [cmpP]; omega)) ?_
  refine ops_nil ?_
  refine fin_code ?_
  refine run_cond_f rfl ?_
  refine run_skip ?_
  refine fin_code ?_
  refine run_seq ?_
  refine run_seq ?_
  refine run_region rfl ?_
  refine op_move rfl rfl ?_
  refine op_add rfl rfl rfl (by simp only [kLo, kHi]; omega) ?_
  refine op_move rfl rfl ?_
  refine ops_join1 (α := Nat) (fun c => [(0, .iface 91 rv), (2, .int .i64 hi), (3, .int .i64 first), (8, .int .i64 (r : Nat)), (9, .int .i64 (c : Nat))]) (fun _ => [L dk])
    (fun c => r < c ∧ c < hi ∧ (if lt dk[first + r]! dk[first + c]! = true then Sort.siftDown lt hi first c (Sort.swp dk (first + r) (first + c)) else dk) = F) ?_ ?_
  rotate_left 1
  · intro J
    by_cases h2 : 2 * r + 1 + 1 < hi
    · refine op_cmp_t rfl rfl rfl rfl (by first | (simp only [cmpP]; done) | (simp only [cmpP]; omega)) ?_
      refine op_move rfl rfl ?_
      refine ops_guard_yes rfl rfl rfl ?_
      refine op_move rfl rfl ?_
      refine ops_guard_yes rfl rfl rfl ?_
      refine op_move rfl rfl ?_
      refine ops_guard_yes rfl rfl rfl ?_
      refine op_move rfl rfl ?_
      refine ops_guard_yes rfl rfl rfl ?_
      refine op_add rfl rfl rfl (by simp only [kLo, kHi]; omega) ?_
      refine ops_guard_yes rfl rfl rfl ?_
      refine op_move rfl rfl ?_
      refine ops_guard_yes rfl rfl rfl ?_
      refine op_move rfl rfl ?_
      refine ops_guard_yes rfl rfl rfl ?_
      refine op_add rfl rfl rfl (by simp only [kLo, kHi]; omega) ?_
      refine ops_guard_yes rfl rfl rfl ?_
      refine op_add rfl rfl rfl (by simp only [kLo, kHi]; omega) ?_
      refine ops_guard_yes rfl rfl rfl ?_
      ((first | (apply op_invE 91 85; (· infer_instance); (· infer_instance); (· exact rfl)) | (apply op_inv0E 91 85; (· infer_instance); (· infer_instance))); (· exact rfl); (· exact rfl); rotate_left 1; (· exact fun w hG hw => D.less w dk _ _ (first + (2 * r + 1)) (first + (2 * r + 1) + 1) hdk (by omega) (by omega) (by omega) (by omega) hw); rotate_right 1; (· (repeat (first | exact Picks.nil | (apply Picks.cons; (· (repeat (first | exact Pick.here | apply Pick.there)))) | apply Picks.empty))))
      intro _ _
      cases hlt : lt dk[first + (2 * r + 1)]! dk[first + (2 * r + 1) + 1]! with
      | true =>
        have J1 := J (2 * r + 2) ⟨by omega, by omega, by
          simp only [h2, decide_true, hlt, Bool.true_and, if_true] at hFr
          rw [← hFr]
          cases hl2 : lt dk[first + r]! dk[first + (2 * r + 2)]! with
          | true => simp [show 2 * r + 2 < hi by omega]
          | false => simp⟩
        rw [show ((2 * r + 2 : Nat) : Int) = 2 * (r : Int) + 1 + 1 by omega] at J1
        refine op_pick_t rfl rfl rfl ?_
        refine ops_nil ?_
        refine fin_code ?_
        refine run_cond_t rfl ?_
        refine run_region rfl ?_
        refine op_move rfl rfl ?_
        refine op_add rfl rfl rfl (by simp only [kLo, kHi]; omega) ?_
        refine op_assign rfl rfl ?_
        refine ops_nil ?_
        (apply J1)
        · (repeat (first | exact Sub.nil _ | (refine Sub.cons rfl ?_)))
        · (apply le_of_picks; (repeat (first | exact Picks.nil | (apply Picks.cons; (· (repeat (first | exact Pick.here | apply Pick.there)))) | apply Picks.empty)))
      | false =>
        have J1 := J (2 * r + 1) ⟨by omega, by omega, by
          simp only [hlt, Bool.and_false, if_false, Bool.false_eq_true] at hFr
          rw [← hFr]
          cases hl2 : lt dk[first + r]! dk[first + (2 * r + 1)]! <;> simp⟩
        rw [show ((2 * r + 1 : Nat) : Int) = 2 * (r : Int) + 1 by omega] at J1
        refine op_pick_t rfl rfl rfl ?_
        refine ops_nil ?_
        refine fin_code ?_
        refine run_cond_f rfl ?_
        refine run_skip ?_
        (apply J1)
        · (repeat (first | exact Sub.nil _ | (refine Sub.cons rfl ?_)))
        · (apply le_of_picks; (repeat (first | exact Picks.nil | (apply Picks.cons; (· (repeat (first | exact Pick.here | apply Pick.there)))) | apply Picks.empty)))
    · have J1 := J (2 * r + 1) ⟨by omega, by omega, by
        simp only [h2, decide_false, Bool.false_and, if_false, Bool.false_eq_true] at hFr
        rw [← hFr]
        cases hl2 : lt dk[first + r]! dk[first + (2 * r + 1)]! <;> simp⟩
      rw [show ((2 * r + 1 : Nat) : Int) = 2 * (r : Int) + 1 by omega] at J1
      refine op_cmp_f rfl rfl rfl rfl (by first | (simp only [cmpP]; done) | (simp only [cmpP]; omega)) ?_
      refine op_move rfl rfl ?_
      refine ops_off1 rfl rfl ?_
      refine ops_off1 rfl rfl ?_
      refine ops_off1 rfl rfl ?_
      refine ops_off1 rfl rfl ?_
      refine ops_off1 rfl rfl ?_
      refine ops_off1 rfl rfl ?_
      refine ops_off1 rfl rfl ?_
      refine ops_off1 rfl rfl ?_
      refine ops_off1 rfl rfl ?_
      refine op_pick_f rfl rfl rfl ?_
      refine ops_nil ?_
      refine fin_code ?_
      refine run_cond_f rfl ?_
      refine run_skip ?_
      (apply J1)
      · (repeat (first | exact Sub.nil _ | (refine Sub.cons rfl ?_)))
      · (apply le_of_picks; (repeat (first | exact Picks.nil | (apply Picks.cons; (· (repeat (first | exact Pick.here | apply Pick.there)))) | apply Picks.empty)))
  rintro c ⟨hrc, hch, hFc⟩
  refine fin_code ?_
  refine run_seq ?_
  refine run_seq ?_
  refine run_region rfl ?_
  refine op_move rfl rfl ?_
  refine op_move rfl rfl ?_
  refine op_move rfl rfl ?_
  refine op_add rfl rfl rfl (by simp only [kLo, kHi]; omega) ?_
  refine op_move rfl rfl ?_
  refine op_move rfl rfl ?_
  refine op_add rfl rfl rfl (by simp only [kLo, kHi]; omega) ?_
  ((first | (apply op_invE 91 85; (· infer_instance); (· infer_instance); (· exact rfl)) | (apply op_inv0E 91 85; (· infer_instance); (· infer_instance))); (· exact rfl); (· exact rfl); rotate_left 1; (· exact fun w hG hw => D.less w dk _ _ (first + r) (first + c) hdk (by omega) (by omega) (by omega) (by omega) hw); rotate_right 1; (· (repeat (first | exact Picks.nil | (apply Picks.cons; (· (repeat (first | exact Pick.here | apply Pick.there)))) | apply Picks.empty))))
  intro _ _
  cases hlt : lt dk[first + r]! dk[first + c]! with
  | true =>
    rw [hlt, if_pos rfl] at hFc
    refine op_not rfl rfl ?_
    refine ops_nil ?_
    refine fin_code ?_
    refine run_cond_f rfl ?_
    refine run_skip ?_
    refine fin_code ?_
    refine run_seq ?_
    refine run_region rfl ?_
    refine op_move rfl rfl ?_
    refine op_move rfl rfl ?_
    refine op_move rfl rfl ?_
    refine op_add rfl rfl rfl (by simp only [kLo, kHi]; omega) ?_
    refine op_move rfl rfl ?_
    refine op_move rfl rfl ?_
    refine op_add rfl rfl rfl (by simp only [kLo, kHi]; omega) ?_
    ((first | (apply op_invE 91 86; (· infer_instance); (· infer_instance); (· exact rfl)) | (apply op_inv0E 91 86; (· infer_instance); (· infer_instance))); (· exact rfl); (· exact rfl); rotate_left 1; (· exact fun w hG hw => D.swap w dk _ _ (first + r) (first + c) hdk (by omega) (by omega) (by omega) (by omega) hw); rotate_right 1; (· (repeat (first | exact Picks.nil | (apply Picks.cons; (· (repeat (first | exact Pick.here | apply Pick.there)))) | apply Picks.empty))))
    intro _ _
    refine ops_nil ?_
    refine fin_code ?_
    refine run_region rfl ?_
    refine op_move rfl rfl ?_
    refine op_assign rfl rfl ?_
    refine ops_nil ?_
    refine fin_block ?_
    refine fin_round (c, Sort.swp dk (first + r) (first + c)) (by dsimp only; omega) (by (repeat (first | exact Sub.nil _ | (refine Sub.cons rfl ?_)))) (by (apply le_of_picks; (repeat (first | exact Picks.nil | (apply Picks.cons; (· (repeat (first | exact Pick.here | apply Pick.there)))) | apply Picks.empty)))) ⟨by dsimp only; omega, by dsimp only; rw [swp_size', hdk], hFc⟩
  | false =>
    rw [hlt, if_neg (by decide)] at hFc
    subst hFc
    refine op_not rfl rfl ?_
    refine ops_nil ?_
    refine fin_code ?_
    refine run_cond_t rfl ?_
    refine run_ret ?_
    refine fin_ret_code ?_
    refine fin_ret_block ?_
    refine fin_ret_inv ?_
    refine fin_ret_block ?_
    refine fin_ret0 (.inl rfl) rfl ?_
    intro w' g
    exact hR _ _ (post_of g () trivial rfl (by (apply le_of_picks; (repeat (first | exact Picks.nil | (apply Picks.cons; (· (repeat (first | exact Pick.here | apply Pick.there)))) | apply Picks.empty)))))
end
end Go.Proofs.Eng
