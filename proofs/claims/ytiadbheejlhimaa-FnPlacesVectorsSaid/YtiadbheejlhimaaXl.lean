/- A part of the proof: what functions of the program do, step by step. -/
import Derived.Test.YtiadbheejlhimaaXj
import Derived.Test.YtiadbheejlhimaaXh
set_option linter.unusedVariables false
set_option linter.unusedSimpArgs false
namespace Go.Proofs.Eng
open Go.RowKit
theorem val_minE {C : Ctx} {E : Env} {ty : Nat} {pos : String} {af : Array Edge} {d : Option Nat} {gg : Option (Nat × Bool)} {x y : Operand} {a1 a2 : Nat} {ik ik' : IntKind} {m n r : Int} (hx : ev E x = some (.int ik m)) (hy : ev E y = some (.int ik' n)) (hr : (if n < m then n else m) = r) :
    Val C E ⟨d, .call { callee := .builtin .min, args := #[x, y], argTypes := #[a1, a2] }, ty, pos, af, gg⟩ (.int ik r) := ⟨fun a f w => by
    subst hr
    simp [execOp, f.ev hx, f.ev hy, resolve, invoke, builtin, Builtin.min_, Builtin.min2]⟩
set_option maxRecDepth 100000 in
set_option maxHeartbeats 8000000 in
theorem bit_any (w : World) (x i : Nat) (hx : x < 18446744073709551616) (hi : i ≤ 63) :
    Calls Try.prog 48 #[.int .u64 x, .int .i64 i] w (Post w ([] : List Hp).flatten (fun _ : Unit => .bool (bitN x i)) (fun _ => ([] : List Hp).flatten) (fun _ => True)) := by
  refine enter [] Try.func48 rfl rfl (At.nil w) (Le.refl _) ?_
  intro R hR
  unfold bitN at hR
  have hsh : ((x : Nat) : Int).fdiv (2 ^ (min ((i : Nat) : Int).toNat IntKind.u64.bits)) = ((x / 2 ^ i : Nat) : Int) := by
    rw [Int.toNat_natCast, show min i IntKind.u64.bits = i by simp [IntKind.bits]; omega, Int.fdiv_eq_ediv_of_nonneg _ (by exact Int.le_of_lt (Int.pow_pos (by omega)))]
    rw [Int.natCast_ediv, Int.natCast_pow]
    rfl
  have hle : x / 2 ^ i ≤ x := Nat.div_le_self _ _
  generalize x / 2 ^ i = y at *
  have hand : bitop .and .u64 (y : Int) 1 = ((y % 2 : Nat) : Int) := by
    have h := u64_and (UInt64.ofNat y) 1 (by omega)
    rw [show (UInt64.ofNat y).toNat = y by rw [UInt64.toNat_ofNat']; omega, Nat.and_one_is_mod] at h
    exact h
  by_cases h1 : y % 2 = 1
  · rw [decide_eq_true h1] at hR
    refine run_seq ?_
    refine run_region rfl ?_
    refine op_assign rfl rfl ?_
    refine ops_nil ?_
    refine fin_code ?_
    refine run_seq ?_
    refine run_region rfl ?_
    refine op_move rfl rfl ?_
    refine op_cmp_t rfl rfl rfl rfl (by first | (simp only [cmpP]; done) | (simp only [cmpP]; omega)) ?_
    refine op_move rfl rfl ?_
    refine ops_guard_yes rfl rfl rfl ?_
    refine op_move rfl rfl ?_
    refine ops_guard_yes rfl rfl rfl ?_
    refine op_cmp_t rfl rfl rfl rfl (by first | (simp only [cmpP]; done) | (simp only [cmpP]; omega)) ?_
    refine op_pick_t rfl rfl rfl ?_
    refine op_move rfl rfl ?_
    refine ops_guard_yes rfl rfl rfl ?_
    refine op_move rfl rfl ?_
    refine ops_guard_yes rfl rfl rfl ?_
    refine op_move rfl rfl ?_
    refine ops_guard_yes rfl rfl rfl ?_
    refine op_conv rfl rfl (by simp only [kLo, kHi]; omega) ?_
    refine ops_guard_yes rfl rfl rfl ?_
    (refine op_shrE rfl rfl rfl (by omega) (by assumption) ?_)
    refine ops_guard_yes rfl rfl rfl ?_
    (refine op_bitsE rfl rfl rfl rfl (by assumption) ?_)
    refine ops_guard_yes rfl rfl rfl ?_
    refine op_cmp_t rfl rfl rfl rfl (by first | (simp only [cmpP]; done) | (simp only [cmpP]; omega)) ?_
    refine op_pick_t rfl rfl rfl ?_
    refine op_assign rfl rfl ?_
    refine ops_nil ?_
    refine fin_code ?_
    refine run_ret ?_
    refine fin_ret1 rfl rfl ?_
    intro w' g
    exact hR _ _ (post_of g () trivial rfl (by (apply le_of_picks; (repeat (first | exact Picks.nil | (apply Picks.cons; (· (repeat (first | exact Pick.here | apply Pick.there)))) | apply Picks.empty)))))
  · rw [decide_eq_false h1] at hR
    refine run_seq ?_
    refine run_region rfl ?_
    refine op_assign rfl rfl ?_
    refine ops_nil ?_
    refine fin_code ?_
    refine run_seq ?_
    refine run_region rfl ?_
    refine op_move rfl rfl ?_
    refine op_cmp_t rfl rfl rfl rfl (by first | (simp only [cmpP]; done) | (simp only [cmpP]; omega)) ?_
    refine op_move rfl rfl ?_
    refine ops_guard_yes rfl rfl rfl ?_
    refine op_move rfl rfl ?_
    refine ops_guard_yes rfl rfl rfl ?_
    refine op_cmp_t rfl rfl rfl rfl (by first | (simp only [cmpP]; done) | (simp only [cmpP]; omega)) ?_
    refine op_pick_t rfl rfl rfl ?_
    refine op_move rfl rfl ?_
    refine ops_guard_yes rfl rfl rfl ?_
    refine op_move rfl rfl ?_
    refine ops_guard_yes rfl rfl rfl ?_
    refine op_move rfl rfl ?_
    refine ops_guard_yes rfl rfl rfl ?_
    refine op_conv rfl rfl (by simp only [kLo, kHi]; omega) ?_
    refine ops_guard_yes rfl rfl rfl ?_
    (refine op_shrE rfl rfl rfl (by omega) (by assumption) ?_)
    refine ops_guard_yes rfl rfl rfl ?_
    (refine op_bitsE rfl rfl rfl rfl (by assumption) ?_)
    refine ops_guard_yes rfl rfl rfl ?_
    refine op_cmp_f rfl rfl rfl rfl (by first | (simp only [cmpP]; done) | (simp only [cmpP]; omega)) ?_
    refine op_pick_t rfl rfl rfl ?_
    refine op_assign rfl rfl ?_
    refine ops_nil ?_
    refine fin_code ?_
    refine run_ret ?_
    refine fin_ret1 rfl rfl ?_
    intro w' g
    exact hR _ _ (post_of g () trivial rfl (by (apply le_of_picks; (repeat (first | exact Picks.nil | (apply Picks.cons; (· (repeat (first | exact Pick.here | apply Pick.there)))) | apply Picks.empty)))))
def u64s (l : List Nat) : List Value := l.map fun (x : Nat) => .int .u64 x
theorem u64s_get {v : List Nat} {i : Nat} (h : i < v.length) : (u64s v)[i]? = some (Value.int .u64 (v.getD i 0 : Nat)) := by
  simp [u64s, h]
theorem u64s_mem {v : List Nat} {i : Nat} (h : i < v.length) : v.getD i 0 ∈ v := by
  rw [List.getD_eq_getElem?_getD, List.getElem?_eq_getElem h]
  exact List.getElem_mem _
theorem D_bd {sw : Bool} {V : Nat → Nat → Bool} : ∀ i k : Nat, Dd sw V i k ≤ i + k
  | 0, k => by rw [D_0]; omega
  | i + 1, k => by have := D_bd (sw := sw) (V := V) i k; have := D_ins (sw := sw) (V := V) i k; omega
def Hide (p : Prop) : Prop := p
/-- The bits of some vectors. -/
def Vb (v : List Nat) (i k : Nat) : Bool := bitN (v.getD i 0) k
theorem min_if (x y : Nat) : (if (y : Int) < x then (y : Int) else x) = ((min x y : Nat) : Int) := by
  split <;> omega
set_option maxRecDepth 100000 in
set_option maxHeartbeats 32000000 in
theorem vstep_any (w : World) (q m : Nat) (rowsV : List Value) (A : Option Addr) (n c : Nat) (v : List Nat) (dam : Bool) (i k L : Nat) (hq : Rd w w.heap.size (some ⟨q, 0, none⟩) rowsV) (hqm : rowsV.length = m) (him : i < m) (hn : v.length = n) (hin : i ≤ n) (hr : Rd w w.heap.size A (u64s v)) (hb64 : ∀ x ∈ v, x < 18446744073709551616) (hkL : k ≤ L) (hL : L ≤ 60) (hn2 : n ≤ 60)
    (hrows : ∀ j, j ≤ i → ∃ g cc xs, rowsV[j]? = some (.slice (some ⟨g, 0, none⟩) (L + 1) cc) ∧ Rd w w.heap.size (some ⟨g, 0, none⟩) xs ∧ xs.length = L + 1 ∧ ∀ k', (j < i ∧ k' ≤ L ∨ k' < k) → xs[k']? = some (.int .i64 (Dd dam (Vb v) j k' : Nat))) :
    Calls Try.prog 33 #[.slice (some ⟨q, 0, none⟩) m m, .slice A n c, .int .i64 i, .int .i64 k, .bool dam] w (Post w ([] : List Hp).flatten (fun _ : Unit => .int .i64 (Dd dam (Vb v) i k : Nat)) (fun _ => ([] : List Hp).flatten) (fun _ => True)) := by
  refine enter [] Try.func33 rfl rfl (At.nil w) (Le.refl _) ?_
  intro R hR
  rcases Nat.eq_zero_or_pos i with hi0 | hi0
  · subst hi0
    rw [D_0] at hR
    refine run_seq ?_
    refine run_region rfl ?_
    refine op_assign rfl rfl ?_
    refine ops_nil ?_
    refine fin_code ?_
    refine run_seq ?_
    refine run_seq ?_
    refine run_region rfl ?_
    refine op_move rfl rfl ?_
    refine op_cmp_t rfl rfl rfl rfl (by first | (simp only [cmpP]; done) | (simp only [cmpP]; omega)) ?_
    refine op_move rfl rfl ?_
    refine ops_off1 rfl rfl ?_
    refine ops_off1 rfl rfl ?_
    refine op_pick_t rfl rfl rfl ?_
    refine ops_nil ?_
    refine fin_code ?_
    refine run_cond_t rfl ?_
    refine run_seq ?_
    refine run_region rfl ?_
    refine op_move rfl rfl ?_
    refine op_move rfl rfl ?_
    refine op_add rfl rfl rfl (by simp only [kLo, kHi]; omega) ?_
    refine op_assign rfl rfl ?_
    refine ops_nil ?_
    refine fin_code ?_
    refine run_ret ?_
    refine fin_ret_code ?_
    refine fin_ret1 rfl rfl ?_
    intro w' g
    exact hR _ _ (post_of g () trivial (by simp) (by (apply le_of_picks; (repeat (first | exact Picks.nil | (apply Picks.cons; (· (repeat (first | exact Pick.here | apply Pick.there)))) | apply Picks.empty)))))
  rcases Nat.eq_zero_or_pos k with hk0 | hk0
  · subst hk0
    obtain ⟨i', rfl⟩ : ∃ i', i = i' + 1 := ⟨i - 1, by omega⟩
    rw [D_10] at hR
    refine run_seq ?_
    refine run_region rfl ?_
    refine op_assign rfl rfl ?_
    refine ops_nil ?_
    refine fin_code ?_
    refine run_seq ?_
    refine run_seq ?_
    refine run_region rfl ?_
    refine op_move rfl rfl ?_
    refine op_cmp_f rfl rfl rfl rfl (by first | (simp only [cmpP]; done) | (simp only [cmpP]; omega)) ?_
    refine op_move rfl rfl ?_
    refine ops_guard_yes rfl rfl rfl ?_
    refine op_move rfl rfl ?_
    refine ops_guard_yes rfl rfl rfl ?_
    refine op_cmp_t rfl rfl rfl rfl (by first | (simp only [cmpP]; done) | (simp only [cmpP]; omega)) ?_
    refine op_pick_f rfl rfl rfl ?_
    refine ops_nil ?_
    refine fin_code ?_
    refine run_cond_t rfl ?_
    refine run_seq ?_
    refine run_region rfl ?_
    refine op_move rfl rfl ?_
    refine op_move rfl rfl ?_
    refine op_add rfl rfl rfl (by simp only [kLo, kHi]; omega) ?_
    refine op_assign rfl rfl ?_
    refine ops_nil ?_
    refine fin_code ?_
    refine run_ret ?_
    refine fin_ret_code ?_
    refine fin_ret1 rfl rfl ?_
    intro w' g
    exact hR _ _ (post_of g () trivial (by simp) (by (apply le_of_picks; (repeat (first | exact Picks.nil | (apply Picks.cons; (· (repeat (first | exact Pick.here | apply Pick.there)))) | apply Picks.empty)))))
  obtain ⟨i', rfl⟩ : ∃ i', i = i' + 1 := ⟨i - 1, by omega⟩
  obtain ⟨k', rfl⟩ : ∃ k', k = k' + 1 := ⟨k - 1, by omega⟩
  obtain ⟨gq, oq, hqe, hgq, hcq⟩ := hq.some (by omega)
  simp only [Option.some.injEq, Addr.mk.injEq, and_true] at hqe
  obtain ⟨rfl, rfl⟩ := hqe
  obtain ⟨ga0, cca, xa, hA1, hrA, hlA, hxA⟩ := hrows i' (by omega)
  obtain ⟨ga, oa, hae, hga, hca⟩ := hrA.some (by omega)
  simp only [Option.some.injEq, Addr.mk.injEq, and_true] at hae
  obtain ⟨rfl, rfl⟩ := hae
  have ha1 := hxA (k' + 1) (.inl ⟨by omega, by omega⟩)
  have ha2 := hxA k' (.inl ⟨by omega, by omega⟩)
  obtain ⟨gb0, ccb, xb, hB1, hrB, hlB, hxB⟩ := hrows (i' + 1) (by omega)
  obtain ⟨gb, ob, hbe, hgb, hcb⟩ := hrB.some (by omega)
  simp only [Option.some.injEq, Addr.mk.injEq, and_true] at hbe
  obtain ⟨rfl, rfl⟩ := hbe
  have hb1 := hxB k' (.inr (by omega))
  obtain ⟨gv, ov, rfl, hgv, hcv⟩ := hr.some (by simp [u64s]; omega)
  have hv1 := u64s_get (v := v) (i := i') (by omega)
  have hvb1 := hb64 _ (u64s_mem (v := v) (i := i') (by omega))
  have d1 := D_bd (sw := dam) (V := Vb v) i' (k' + 1)
  have d2 := D_bd (sw := dam) (V := Vb v) i' k'
  have d3 := D_bd (sw := dam) (V := Vb v) (i' + 1) k'
  have hmn := min_if (Dd dam (Vb v) i' (k' + 1)) (Dd dam (Vb v) (i' + 1) k')
  have hgen : Dd dam (Vb v) (i' + 1) (k' + 1) = if (dam && decide (0 < i') && decide (0 < k') && bitN (v.getD i' 0) (k' - 1) && bitN (v.getD (i' - 1) 0) k') = true then min (stepD (bitN (v.getD i' 0) k') (Dd dam (Vb v) i' (k' + 1)) (Dd dam (Vb v) (i' + 1) k') (Dd dam (Vb v) i' k')) (Dd dam (Vb v) (i' - 1) (k' - 1) + 1)
      else stepD (bitN (v.getD i' 0) k') (Dd dam (Vb v) i' (k' + 1)) (Dd dam (Vb v) (i' + 1) k') (Dd dam (Vb v) i' k') := by
    match i', k' with
    | 0, k => rw [D_11]; simp [Vb]
    | i + 1, 0 => rw [D_21]; simp [Vb]
    | i + 1, k + 1 => rw [D_22]; simp [Vb]
  have d4 := D_bd (sw := dam) (V := Vb v) (i' - 1) (k' - 1)
  have hC : Hide (0 < i' → ∃ (gc ccc : Nat) (xc : List Value), rowsV[i' - 1]? = some (.slice (some ⟨gc, 0, none⟩) (L + 1) ccc) ∧ gc < w.heap.size ∧ (∀ (j : Nat) v, xc[j]? = some v → w.cell? ⟨gc, 0 + j, none⟩ = some v) ∧ xc[k' - 1]? = some (Value.int .i64 (Dd dam (Vb v) (i' - 1) (k' - 1) : Nat))) := by
    show _ → _
    intro h
    obtain ⟨gc0, ccc, xc, hC1, hrC, hlC, hxC⟩ := hrows (i' - 1) (by omega)
    obtain ⟨gc, oc, hce, hgc, hcc⟩ := hrC.some (by omega)
    simp only [Option.some.injEq, Addr.mk.injEq, and_true] at hce
    obtain ⟨rfl, rfl⟩ := hce
    exact ⟨_, ccc, xc, hC1, hgc, hcc, hxC (k' - 1) (.inl ⟨by omega, by omega⟩)⟩
  have hv2 : Hide (0 < i' → _) := fun (h : 0 < i') => u64s_get (v := v) (i := i' - 1) (by omega)
  have hvb2 : Hide (0 < i' → _) := fun (h : 0 < i') => hb64 _ (u64s_mem (v := v) (i := i' - 1) (by omega))
  rw [hgen] at hR
  clear hgen hrows hxA hxB hrA hrB
  generalize Dd dam (Vb v) i' (k' + 1) = y1 at *
  generalize Dd dam (Vb v) (i' + 1) k' = y2 at *
  generalize Dd dam (Vb v) i' k' = y3 at *
  generalize Dd dam (Vb v) (i' - 1) (k' - 1) = y4 at *
  generalize v.getD i' 0 = x1 at *
  generalize v.getD (i' - 1) 0 = x2 at *
  have hkk : ((k' + 1 : Nat) : Int) - 1 = ((k' : Nat) : Int) := by omega
  generalize hz : min y1 y2 = z at hmn
  have B1 := fun w => bit_any w x1 k' hvb1 (by omega)
  have B2 := fun w => bit_any w x1 (k' - 1) hvb1 (by omega)
  have B3 := fun w (h : x2 < 18446744073709551616) => bit_any w x2 k' h (by omega)
  generalize bitN x1 k' = b1 at B1 hR
  generalize bitN x1 (k' - 1) = b2 at B2 hR
  generalize bitN x2 k' = b3 at B3 hR
  have hFf : ∀ a b z : Nat, stepD false a b z = min (min a b + 1) (z + 1) := fun a b z => rfl
  have hFt : ∀ a b z : Nat, stepD true a b z = min (min a b + 1) z := fun a b z => rfl
  refine run_seq ?_
  refine run_region rfl ?_
  refine op_assign rfl rfl ?_
  refine ops_nil ?_
  refine fin_code ?_
  refine run_seq ?_
  refine run_seq ?_
  refine run_region rfl ?_
  refine op_move rfl rfl ?_
  refine op_cmp_f rfl rfl rfl rfl (by first | (simp only [cmpP]; done) | (simp only [cmpP]; omega)) ?_
  refine op_move rfl rfl ?_
  refine ops_guard_yes rfl rfl rfl ?_
  refine op_move rfl rfl ?_
  refine ops_guard_yes rfl rfl rfl ?_
  refine op_cmp_f rfl rfl rfl rfl (by first | (simp only [cmpP]; done) | (simp only [cmpP]; omega)) ?_
  refine op_pick_f rfl rfl rfl ?_
  refine ops_nil ?_
  refine fin_code ?_
  refine run_cond_f rfl ?_
  refine run_skip ?_
  refine fin_code ?_
  refine run_seq ?_
  refine run_drawS [] (by kernel_rfl) ?_
  refine dr_stab 0 rfl rfl (Val.s (val_move rfl)) (by decide +kernel) rfl rfl ?_
  refine dr_stab 1 rfl rfl (Val.s (val_move rfl)) (by decide +kernel) rfl rfl ?_
  refine dr_stab 2 rfl rfl (Val.s (val_sub rfl rfl (by simp only [kLo, kHi]; omega))) (by decide +kernel) rfl rfl ?_
  refine dr_stab 3 rfl rfl (Val.s (val_index rfl rfl (by omega) (by first | (rw [Int.toNat_natCast, Nat.mul_one, Nat.zero_add]) | (rw [Int.toNat_natCast, Nat.mul_one]) | (rw [Int.toNat_natCast, Nat.zero_add]) | (rw [Int.toNat_natCast]) | exact rfl))) (by decide +kernel) rfl rfl ?_
  (apply dr_stab 4; (· exact rfl); (· exact rfl); (· apply ValAt.s; (first | (apply val_load; (· exact rfl); (· apply cell_of_has; (· (repeat (first | exact Has.here | apply Has.there))); (· first | exact rfl))) | (apply val_load; (· exact rfl); (· first | exact Rd.cellE hcq hgq (by simp [ids]) (by first | rfl | omega) hA1 | exact Rd.cellE hcq hgq (by simp [ids]) (by first | rfl | omega) hB1 | exact Rd.cellE hcq hgq (by simp [ids]) (by first | rfl | omega) hC1 | exact Rd.cellE hca hga (by simp [ids]) (by first | rfl | omega) ha1 | exact Rd.cellE hca hga (by simp [ids]) (by first | rfl | omega) ha2 | exact Rd.cellE hcb hgb (by simp [ids]) (by first | rfl | omega) hb1 | exact Rd.cellE hcc hgc (by simp [ids]) (by first | rfl | omega) hc1 | exact Rd.cellE hcv hgv (by simp [ids]) (by first | rfl | omega) hv1 | exact Rd.cellE hcv hgv (by simp [ids]) (by first | rfl | omega) hv2)))); (· decide +kernel); (· exact rfl); (· exact rfl))
  refine dr_stab 5 rfl rfl (Val.s (val_move rfl)) (by decide +kernel) rfl rfl ?_
  refine dr_stab 6 rfl rfl (Val.s (val_index rfl rfl (by omega) (by first | (rw [Int.toNat_natCast, Nat.mul_one, Nat.zero_add]) | (rw [Int.toNat_natCast, Nat.mul_one]) | (rw [Int.toNat_natCast, Nat.zero_add]) | (rw [Int.toNat_natCast]) | exact rfl))) (by decide +kernel) rfl rfl ?_
  (apply dr_stab 7; (· exact rfl); (· exact rfl); (· apply ValAt.s; (first | (apply val_load; (· exact rfl); (· apply cell_of_has; (· (repeat (first | exact Has.here | apply Has.there))); (· first | exact rfl))) | (apply val_load; (· exact rfl); (· first | exact Rd.cellE hcq hgq (by simp [ids]) (by first | rfl | omega) hA1 | exact Rd.cellE hcq hgq (by simp [ids]) (by first | rfl | omega) hB1 | exact Rd.cellE hcq hgq (by simp [ids]) (by first | rfl | omega) hC1 | exact Rd.cellE hca hga (by simp [ids]) (by first | rfl | omega) ha1 | exact Rd.cellE hca hga (by simp [ids]) (by first | rfl | omega) ha2 | exact Rd.cellE hcb hgb (by simp [ids]) (by first | rfl | omega) hb1 | exact Rd.cellE hcc hgc (by simp [ids]) (by first | rfl | omega) hc1 | exact Rd.cellE hcv hgv (by simp [ids]) (by first | rfl | omega) hv1 | exact Rd.cellE hcv hgv (by simp [ids]) (by first | rfl | omega) hv2)))); (· decide +kernel); (· exact rfl); (· exact rfl))
  refine dr_stab 8 rfl rfl (Val.s (val_move rfl)) (by decide +kernel) rfl rfl ?_
  refine dr_stab 9 rfl rfl (Val.s (val_move rfl)) (by decide +kernel) rfl rfl ?_
  refine dr_stab 10 rfl rfl (Val.s (val_index rfl rfl (by omega) (by first | (rw [Int.toNat_natCast, Nat.mul_one, Nat.zero_add]) | (rw [Int.toNat_natCast, Nat.mul_one]) | (rw [Int.toNat_natCast, Nat.zero_add]) | (rw [Int.toNat_natCast]) | exact rfl))) (by decide +kernel) rfl rfl ?_
  (apply dr_stab 11; (· exact rfl); (· exact rfl); (· apply ValAt.s; (first | (apply val_load; (· exact rfl); (· apply cell_of_has; (· (repeat (first | exact Has.here | apply Has.there))); (· first | exact rfl))) | (apply val_load; (· exact rfl); (· first | exact Rd.cellE hcq hgq (by simp [ids]) (by first | rfl | omega) hA1 | exact Rd.cellE hcq hgq (by simp [ids]) (by first | rfl | omega) hB1 | exact Rd.cellE hcq hgq (by simp [ids]) (by first | rfl | omega) hC1 | exact Rd.cellE hca hga (by simp [ids]) (by first | rfl | omega) ha1 | exact Rd.cellE hca hga (by simp [ids]) (by first | rfl | omega) ha2 | exact Rd.cellE hcb hgb (by simp [ids]) (by first | rfl | omega) hb1 | exact Rd.cellE hcc hgc (by simp [ids]) (by first | rfl | omega) hc1 | exact Rd.cellE hcv hgv (by simp [ids]) (by first | rfl | omega) hv1 | exact Rd.cellE hcv hgv (by simp [ids]) (by first | rfl | omega) hv2)))); (· decide +kernel); (· exact rfl); (· exact rfl))
  refine dr_stab 12 rfl rfl (Val.s (val_move rfl)) (by decide +kernel) rfl rfl ?_
  refine dr_stab 13 rfl rfl (Val.s (val_sub rfl rfl (by simp only [kLo, kHi]; omega))) (by decide +kernel) rfl rfl ?_
  refine dr_stab 14 rfl rfl (Val.s (val_index rfl rfl (by omega) (by first | (rw [Int.toNat_natCast, Nat.mul_one, Nat.zero_add]) | (rw [Int.toNat_natCast, Nat.mul_one]) | (rw [Int.toNat_natCast, Nat.zero_add]) | (rw [Int.toNat_natCast]) | exact rfl))) (by decide +kernel) rfl rfl ?_
  (apply dr_stab 15; (· exact rfl); (· exact rfl); (· apply ValAt.s; (first | (apply val_load; (· exact rfl); (· apply cell_of_has; (· (repeat (first | exact Has.here | apply Has.there))); (· first | exact rfl))) | (apply val_load; (· exact rfl); (· first | exact Rd.cellE hcq hgq (by simp [ids]) (by first | rfl | omega) hA1 | exact Rd.cellE hcq hgq (by simp [ids]) (by first | rfl | omega) hB1 | exact Rd.cellE hcq hgq (by simp [ids]) (by first | rfl | omega) hC1 | exact Rd.cellE hca hga (by simp [ids]) (by first | rfl | omega) ha1 | exact Rd.cellE hca hga (by simp [ids]) (by first | rfl | omega) ha2 | exact Rd.cellE hcb hgb (by simp [ids]) (by first | rfl | omega) hb1 | exact Rd.cellE hcc hgc (by simp [ids]) (by first | rfl | omega) hc1 | exact Rd.cellE hcv hgv (by simp [ids]) (by first | rfl | omega) hv1 | exact Rd.cellE hcv hgv (by simp [ids]) (by first | rfl | omega) hv2)))); (· decide +kernel); (· exact rfl); (· exact rfl))
  refine dr_stab 16 rfl rfl (Val.s (val_minE rfl rfl (by assumption))) (by decide +kernel) rfl rfl ?_
  refine dr_stab 17 rfl rfl (Val.s (val_add rfl rfl (by simp only [kLo, kHi]; omega))) (by decide +kernel) rfl rfl ?_
  refine dr_stab 18 rfl rfl (Val.s (val_assign rfl)) (by decide +kernel) rfl rfl ?_
  (refine dr_done (by decide +kernel) (by (apply le_of_picks; (repeat (first | exact Picks.nil | (apply Picks.cons; (· (repeat (first | exact Pick.here | apply Pick.there)))) | apply Picks.empty)))) ?_)
  refine fin_code ?_
  refine run_seq ?_
  refine run_seq ?_
  refine run_region rfl ?_
  refine op_move rfl rfl ?_
  refine op_move rfl rfl ?_
  refine op_sub rfl rfl rfl (by simp only [kLo, kHi]; omega) ?_
  refine op_index rfl rfl rfl (by omega) (by first | (rw [Int.toNat_natCast, Nat.mul_one, Nat.zero_add]) | (rw [Int.toNat_natCast, Nat.mul_one]) | (rw [Int.toNat_natCast, Nat.zero_add]) | (rw [Int.toNat_natCast]) | exact rfl) ?_
  (apply op_load; (· exact rfl); (· exact rfl); (· first | exact Rd.cellE hcq hgq (by simp [ids]) (by first | rfl | omega) hA1 | exact Rd.cellE hcq hgq (by simp [ids]) (by first | rfl | omega) hB1 | exact Rd.cellE hcq hgq (by simp [ids]) (by first | rfl | omega) hC1 | exact Rd.cellE hca hga (by simp [ids]) (by first | rfl | omega) ha1 | exact Rd.cellE hca hga (by simp [ids]) (by first | rfl | omega) ha2 | exact Rd.cellE hcb hgb (by simp [ids]) (by first | rfl | omega) hb1 | exact Rd.cellE hcc hgc (by simp [ids]) (by first | rfl | omega) hc1 | exact Rd.cellE hcv hgv (by simp [ids]) (by first | rfl | omega) hv1 | exact Rd.cellE hcv hgv (by simp [ids]) (by first | rfl | omega) hv2))
  refine op_move rfl rfl ?_
  refine op_sub rfl rfl rfl (by simp only [kLo, kHi]; omega) ?_
  rw [hkk]
  ((first | (apply op_call; (· exact rfl)) | apply op_call0); (· exact rfl); rotate_left 1; (· exact fun w hG hw => B1 w); rotate_right 1; (· (repeat (first | exact Picks.nil | (apply Picks.cons; (· (repeat (first | exact Pick.here | apply Pick.there)))) | apply Picks.empty))))
  intro _ _
  cases dam with
  | false =>
    simp only [Bool.false_and, Bool.false_eq_true, if_false] at hR
    cases b1
    · rw [hFf] at hR
      refine ops_nil ?_
      refine fin_code ?_
      refine run_cond_f rfl ?_
      refine run_region rfl ?_
      refine op_move rfl rfl ?_
      refine op_move rfl rfl ?_
      refine op_move rfl rfl ?_
      refine op_sub rfl rfl rfl (by simp only [kLo, kHi]; omega) ?_
      refine op_index rfl rfl rfl (by omega) (by first | (rw [Int.toNat_natCast, Nat.mul_one, Nat.zero_add]) | (rw [Int.toNat_natCast, Nat.mul_one]) | (rw [Int.toNat_natCast, Nat.zero_add]) | (rw [Int.toNat_natCast]) | exact rfl) ?_
      (apply op_load; (· exact rfl); (· exact rfl); (· first | exact Rd.cellE hcq hgq (by simp [ids]) (by first | rfl | omega) hA1 | exact Rd.cellE hcq hgq (by simp [ids]) (by first | rfl | omega) hB1 | exact Rd.cellE hcq hgq (by simp [ids]) (by first | rfl | omega) hC1 | exact Rd.cellE hca hga (by simp [ids]) (by first | rfl | omega) ha1 | exact Rd.cellE hca hga (by simp [ids]) (by first | rfl | omega) ha2 | exact Rd.cellE hcb hgb (by simp [ids]) (by first | rfl | omega) hb1 | exact Rd.cellE hcc hgc (by simp [ids]) (by first | rfl | omega) hc1 | exact Rd.cellE hcv hgv (by simp [ids]) (by first | rfl | omega) hv1 | exact Rd.cellE hcv hgv (by simp [ids]) (by first | rfl | omega) hv2))
      refine op_move rfl rfl ?_
      refine op_sub rfl rfl rfl (by simp only [kLo, kHi]; omega) ?_
      refine op_index rfl rfl rfl (by omega) (by first | (rw [Int.toNat_natCast, Nat.mul_one, Nat.zero_add]) | (rw [Int.toNat_natCast, Nat.mul_one]) | (rw [Int.toNat_natCast, Nat.zero_add]) | (rw [Int.toNat_natCast]) | exact rfl) ?_
      (apply op_load; (· exact rfl); (· exact rfl); (· first | exact Rd.cellE hcq hgq (by simp [ids]) (by first | rfl | omega) hA1 | exact Rd.cellE hcq hgq (by simp [ids]) (by first | rfl | omega) hB1 | exact Rd.cellE hcq hgq (by simp [ids]) (by first | rfl | omega) hC1 | exact Rd.cellE hca hga (by simp [ids]) (by first | rfl | omega) ha1 | exact Rd.cellE hca hga (by simp [ids]) (by first | rfl | omega) ha2 | exact Rd.cellE hcb hgb (by simp [ids]) (by first | rfl | omega) hb1 | exact Rd.cellE hcc hgc (by simp [ids]) (by first | rfl | omega) hc1 | exact Rd.cellE hcv hgv (by simp [ids]) (by first | rfl | omega) hv1 | exact Rd.cellE hcv hgv (by simp [ids]) (by first | rfl | omega) hv2))
      refine op_add rfl rfl rfl (by simp only [kLo, kHi]; omega) ?_
      refine op_min rfl rfl rfl ?_
      refine op_assign rfl rfl ?_
      refine ops_nil ?_
      refine fin_code ?_
      refine run_seq ?_
      refine run_seq ?_
      refine run_region rfl ?_
      refine op_move rfl rfl ?_
      refine op_move rfl rfl ?_
      refine ops_off1 rfl rfl ?_
      refine ops_off1 rfl rfl ?_
      refine op_pick_f rfl rfl rfl ?_
      refine op_move rfl rfl ?_
      refine ops_off1 rfl rfl ?_
      refine ops_off1 rfl rfl ?_
      refine op_pick_f rfl rfl rfl ?_
      refine op_move rfl rfl ?_
      refine ops_off1 rfl rfl ?_
      refine ops_off1 rfl rfl ?_
      refine ops_off1 rfl rfl ?_
      refine ops_off1 rfl rfl ?_
      refine ops_off1 rfl rfl ?_
      refine ops_off1 rfl rfl ?_
      refine ops_off1 rfl rfl ?_
      refine ops_off1 rfl rfl ?_
      refine op_pick_f rfl rfl rfl ?_
      refine op_move rfl rfl ?_
      refine ops_off1 rfl rfl ?_
      refine ops_off1 rfl rfl ?_
      refine ops_off1 rfl rfl ?_
      refine ops_off1 rfl rfl ?_
      refine ops_off1 rfl rfl ?_
      refine ops_off1 rfl rfl ?_
      refine ops_off1 rfl rfl ?_
      refine ops_off1 rfl rfl ?_
      refine op_pick_f rfl rfl rfl ?_
      refine ops_nil ?_
      refine fin_code ?_
      refine run_cond_f rfl ?_
      refine run_skip ?_
      refine fin_code ?_
      refine run_seq ?_
      refine run_region rfl ?_
      refine op_move rfl rfl ?_
      refine op_assign rfl rfl ?_
      refine ops_nil ?_
      refine fin_code ?_
      refine run_ret ?_
      (refine fin_ret1 rfl rfl ?_; intro w' g; exact hR _ _ (post_of g () trivial (by congr 1; (repeat' split) <;> omega) (by (apply le_of_picks; (repeat (first | exact Picks.nil | (apply Picks.cons; (· (repeat (first | exact Pick.here | apply Pick.there)))) | apply Picks.empty))))))
    · rw [hFt] at hR
      refine ops_nil ?_
      refine fin_code ?_
      refine run_cond_t rfl ?_
      refine run_region rfl ?_
      refine op_move rfl rfl ?_
      refine op_move rfl rfl ?_
      refine op_move rfl rfl ?_
      refine op_sub rfl rfl rfl (by simp only [kLo, kHi]; omega) ?_
      refine op_index rfl rfl rfl (by omega) (by first | (rw [Int.toNat_natCast, Nat.mul_one, Nat.zero_add]) | (rw [Int.toNat_natCast, Nat.mul_one]) | (rw [Int.toNat_natCast, Nat.zero_add]) | (rw [Int.toNat_natCast]) | exact rfl) ?_
      (apply op_load; (· exact rfl); (· exact rfl); (· first | exact Rd.cellE hcq hgq (by simp [ids]) (by first | rfl | omega) hA1 | exact Rd.cellE hcq hgq (by simp [ids]) (by first | rfl | omega) hB1 | exact Rd.cellE hcq hgq (by simp [ids]) (by first | rfl | omega) hC1 | exact Rd.cellE hca hga (by simp [ids]) (by first | rfl | omega) ha1 | exact Rd.cellE hca hga (by simp [ids]) (by first | rfl | omega) ha2 | exact Rd.cellE hcb hgb (by simp [ids]) (by first | rfl | omega) hb1 | exact Rd.cellE hcc hgc (by simp [ids]) (by first | rfl | omega) hc1 | exact Rd.cellE hcv hgv (by simp [ids]) (by first | rfl | omega) hv1 | exact Rd.cellE hcv hgv (by simp [ids]) (by first | rfl | omega) hv2))
      refine op_move rfl rfl ?_
      refine op_sub rfl rfl rfl (by simp only [kLo, kHi]; omega) ?_
      refine op_index rfl rfl rfl (by omega) (by first | (rw [Int.toNat_natCast, Nat.mul_one, Nat.zero_add]) | (rw [Int.toNat_natCast, Nat.mul_one]) | (rw [Int.toNat_natCast, Nat.zero_add]) | (rw [Int.toNat_natCast]) | exact rfl) ?_
      (apply op_load; (· exact rfl); (· exact rfl); (· first | exact Rd.cellE hcq hgq (by simp [ids]) (by first | rfl | omega) hA1 | exact Rd.cellE hcq hgq (by simp [ids]) (by first | rfl | omega) hB1 | exact Rd.cellE hcq hgq (by simp [ids]) (by first | rfl | omega) hC1 | exact Rd.cellE hca hga (by simp [ids]) (by first | rfl | omega) ha1 | exact Rd.cellE hca hga (by simp [ids]) (by first | rfl | omega) ha2 | exact Rd.cellE hcb hgb (by simp [ids]) (by first | rfl | omega) hb1 | exact Rd.cellE hcc hgc (by simp [ids]) (by first | rfl | omega) hc1 | exact Rd.cellE hcv hgv (by simp [ids]) (by first | rfl | omega) hv1 | exact Rd.cellE hcv hgv (by simp [ids]) (by first | rfl | omega) hv2))
      refine op_min rfl rfl rfl ?_
      refine op_assign rfl rfl ?_
      refine ops_nil ?_
      refine fin_code ?_
      refine run_seq ?_
      refine run_seq ?_
      refine run_region rfl ?_
      refine op_move rfl rfl ?_
      refine op_move rfl rfl ?_
      refine ops_off1 rfl rfl ?_
      refine ops_off1 rfl rfl ?_
      refine op_pick_f rfl rfl rfl ?_
      refine op_move rfl rfl ?_
      refine ops_off1 rfl rfl ?_
      refine ops_off1 rfl rfl ?_
      refine op_pick_f rfl rfl rfl ?_
      refine op_move rfl rfl ?_
      refine ops_off1 rfl rfl ?_
      refine ops_off1 rfl rfl ?_
      refine ops_off1 rfl rfl ?_
      refine ops_off1 rfl rfl ?_
      refine ops_off1 rfl rfl ?_
      refine ops_off1 rfl rfl ?_
      refine ops_off1 rfl rfl ?_
      refine ops_off1 rfl rfl ?_
      refine op_pick_f rfl rfl rfl ?_
      refine op_move rfl rfl ?_
      refine ops_off1 rfl rfl ?_
      refine ops_off1 rfl rfl ?_
      refine ops_off1 rfl rfl ?_
      refine ops_off1 rfl rfl ?_
      refine ops_off1 rfl rfl ?_
      refine ops_off1 rfl rfl ?_
      refine ops_off1 rfl rfl ?_
      refine ops_off1 rfl rfl ?_
      refine op_pick_f rfl rfl rfl ?_
      refine ops_nil ?_
      refine fin_code ?_
      refine run_cond_f rfl ?_
      refine run_skip ?_
      refine fin_code ?_
      refine run_seq ?_
      refine run_region rfl ?_
      refine op_move rfl rfl ?_
      refine op_assign rfl rfl ?_
      refine ops_nil ?_
      refine fin_code ?_
      refine run_ret ?_
      (refine fin_ret1 rfl rfl ?_; intro w' g; exact hR _ _ (post_of g () trivial (by congr 1; (repeat' split) <;> omega) (by (apply le_of_picks; (repeat (first | exact Picks.nil | (apply Picks.cons; (· (repeat (first | exact Pick.here | apply Pick.there)))) | apply Picks.empty))))))
  | true =>
  rcases Nat.eq_zero_or_pos i' with hi2 | hi2
  · subst hi2
    simp only [Bool.true_and, Nat.lt_irrefl, decide_false, Bool.false_and, Bool.false_eq_true, if_false] at hR
    cases b1
    · rw [hFf] at hR
      refine ops_nil ?_
      refine fin_code ?_
      refine run_cond_f rfl ?_
      refine run_region rfl ?_
      refine op_move rfl rfl ?_
      refine op_move rfl rfl ?_
      refine op_move rfl rfl ?_
      refine op_sub rfl rfl rfl (by simp only [kLo, kHi]; omega) ?_
      refine op_index rfl rfl rfl (by omega) (by first | (rw [Int.toNat_natCast, Nat.mul_one, Nat.zero_add]) | (rw [Int.toNat_natCast, Nat.mul_one]) | (rw [Int.toNat_natCast, Nat.zero_add]) | (rw [Int.toNat_natCast]) | exact rfl) ?_
      (apply op_load; (· exact rfl); (· exact rfl); (· first | exact Rd.cellE hcq hgq (by simp [ids]) (by first | rfl | omega) hA1 | exact Rd.cellE hcq hgq (by simp [ids]) (by first | rfl | omega) hB1 | exact Rd.cellE hcq hgq (by simp [ids]) (by first | rfl | omega) hC1 | exact Rd.cellE hca hga (by simp [ids]) (by first | rfl | omega) ha1 | exact Rd.cellE hca hga (by simp [ids]) (by first | rfl | omega) ha2 | exact Rd.cellE hcb hgb (by simp [ids]) (by first | rfl | omega) hb1 | exact Rd.cellE hcc hgc (by simp [ids]) (by first | rfl | omega) hc1 | exact Rd.cellE hcv hgv (by simp [ids]) (by first | rfl | omega) hv1 | exact Rd.cellE hcv hgv (by simp [ids]) (by first | rfl | omega) hv2))
      refine op_move rfl rfl ?_
      refine op_sub rfl rfl rfl (by simp only [kLo, kHi]; omega) ?_
      refine op_index rfl rfl rfl (by omega) (by first | (rw [Int.toNat_natCast, Nat.mul_one, Nat.zero_add]) | (rw [Int.toNat_natCast, Nat.mul_one]) | (rw [Int.toNat_natCast, Nat.zero_add]) | (rw [Int.toNat_natCast]) | exact rfl) ?_
      (apply op_load; (· exact rfl); (· exact rfl); (· first | exact Rd.cellE hcq hgq (by simp [ids]) (by first | rfl | omega) hA1 | exact Rd.cellE hcq hgq (by simp [ids]) (by first | rfl | omega) hB1 | exact Rd.cellE hcq hgq (by simp [ids]) (by first | rfl | omega) hC1 | exact Rd.cellE hca hga (by simp [ids]) (by first | rfl | omega) ha1 | exact Rd.cellE hca hga (by simp [ids]) (by first | rfl | omega) ha2 | exact Rd.cellE hcb hgb (by simp [ids]) (by first | rfl | omega) hb1 | exact Rd.cellE hcc hgc (by simp [ids]) (by first | rfl | omega) hc1 | exact Rd.cellE hcv hgv (by simp [ids]) (by first | rfl | omega) hv1 | exact Rd.cellE hcv hgv (by simp [ids]) (by first | rfl | omega) hv2))
      refine op_add rfl rfl rfl (by simp only [kLo, kHi]; omega) ?_
      refine op_min rfl rfl rfl ?_
      refine op_assign rfl rfl ?_
      refine ops_nil ?_
      refine fin_code ?_
      refine run_seq ?_
      refine run_seq ?_
      refine run_region rfl ?_
      refine op_move rfl rfl ?_
      refine op_move rfl rfl ?_
      refine ops_guard_yes rfl rfl rfl ?_
      refine op_move rfl rfl ?_
      refine ops_guard_yes rfl rfl rfl ?_
      refine op_cmp_f rfl rfl rfl rfl (by first | (simp only [cmpP]; done) | (simp only [cmpP]; omega)) ?_
      refine op_pick_t rfl rfl rfl ?_
      refine op_move rfl rfl ?_
      refine ops_off1 rfl rfl ?_
      refine ops_off1 rfl rfl ?_
      refine op_pick_f rfl rfl rfl ?_
      refine op_move rfl rfl ?_
      refine ops_off1 rfl rfl ?_
      refine ops_off1 rfl rfl ?_
      refine ops_off1 rfl rfl ?_
      refine ops_off1 rfl rfl ?_
      refine ops_off1 rfl rfl ?_
      refine ops_off1 rfl rfl ?_
      refine ops_off1 rfl rfl ?_
      refine ops_off1 rfl rfl ?_
      refine op_pick_f rfl rfl rfl ?_
      refine op_move rfl rfl ?_
      refine ops_off1 rfl rfl ?_
      refine ops_off1 rfl rfl ?_
      refine ops_off1 rfl rfl ?_
      refine ops_off1 rfl rfl ?_
      refine ops_off1 rfl rfl ?_
      refine ops_off1 rfl rfl ?_
      refine ops_off1 rfl rfl ?_
      refine ops_off1 rfl rfl ?_
      refine op_pick_f rfl rfl rfl ?_
      refine ops_nil ?_
      refine fin_code ?_
      refine run_cond_f rfl ?_
      refine run_skip ?_
      refine fin_code ?_
      refine run_seq ?_
      refine run_region rfl ?_
      refine op_move rfl rfl ?_
      refine op_assign rfl rfl ?_
      refine ops_nil ?_
      refine fin_code ?_
      refine run_ret ?_
      (refine fin_ret1 rfl rfl ?_; intro w' g; exact hR _ _ (post_of g () trivial (by congr 1; (repeat' split) <;> omega) (by (apply le_of_picks; (repeat (first | exact Picks.nil | (apply Picks.cons; (· (repeat (first | exact Pick.here | apply Pick.there)))) | apply Picks.empty))))))
    · rw [hFt] at hR
      refine ops_nil ?_
      refine fin_code ?_
      refine run_cond_t rfl ?_
      refine run_region rfl ?_
      refine op_move rfl rfl ?_
      refine op_move rfl rfl ?_
      refine op_move rfl rfl ?_
      refine op_sub rfl rfl rfl (by simp only [kLo, kHi]; omega) ?_
      refine op_index rfl rfl rfl (by omega) (by first | (rw [Int.toNat_natCast, Nat.mul_one, Nat.zero_add]) | (rw [Int.toNat_natCast, Nat.mul_one]) | (rw [Int.toNat_natCast, Nat.zero_add]) | (rw [Int.toNat_natCast]) | exact rfl) ?_
      (apply op_load; (· exact rfl); (· exact rfl); (· first | exact Rd.cellE hcq hgq (by simp [ids]) (by first | rfl | omega) hA1 | exact Rd.cellE hcq hgq (by simp [ids]) (by first | rfl | omega) hB1 | exact Rd.cellE hcq hgq (by simp [ids]) (by first | rfl | omega) hC1 | exact Rd.cellE hca hga (by simp [ids]) (by first | rfl | omega) ha1 | exact Rd.cellE hca hga (by simp [ids]) (by first | rfl | omega) ha2 | exact Rd.cellE hcb hgb (by simp [ids]) (by first | rfl | omega) hb1 | exact Rd.cellE hcc hgc (by simp [ids]) (by first | rfl | omega) hc1 | exact Rd.cellE hcv hgv (by simp [ids]) (by first | rfl | omega) hv1 | exact Rd.cellE hcv hgv (by simp [ids]) (by first | rfl | omega) hv2))
      refine op_move rfl rfl ?_
      refine op_sub rfl rfl rfl (by simp only [kLo, kHi]; omega) ?_
      refine op_index rfl rfl rfl (by omega) (by first | (rw [Int.toNat_natCast, Nat.mul_one, Nat.zero_add]) | (rw [Int.toNat_natCast, Nat.mul_one]) | (rw [Int.toNat_natCast, Nat.zero_add]) | (rw [Int.toNat_natCast]) | exact rfl) ?_
      (apply op_load; (· exact rfl); (· exact rfl); (· first | exact Rd.cellE hcq hgq (by simp [ids]) (by first | rfl | omega) hA1 | exact Rd.cellE hcq hgq (by simp [ids]) (by first | rfl | omega) hB1 | exact Rd.cellE hcq hgq (by simp [ids]) (by first | rfl | omega) hC1 | exact Rd.cellE hca hga (by simp [ids]) (by first | rfl | omega) ha1 | exact Rd.cellE hca hga (by simp [ids]) (by first | rfl | omega) ha2 | exact Rd.cellE hcb hgb (by simp [ids]) (by first | rfl | omega) hb1 | exact Rd.cellE hcc hgc (by simp [ids]) (by first | rfl | omega) hc1 | exact Rd.cellE hcv hgv (by simp [ids]) (by first | rfl | omega) hv1 | exact Rd.cellE hcv hgv (by simp [ids]) (by first | rfl | omega) hv2))
      refine op_min rfl rfl rfl ?_
      refine op_assign rfl rfl ?_
      refine ops_nil ?_
      refine fin_code ?_
      refine run_seq ?_
      refine run_seq ?_
      refine run_region rfl ?_
      refine op_move rfl rfl ?_
      refine op_move rfl rfl ?_
      refine ops_guard_yes rfl rfl rfl ?_
      refine op_move rfl rfl ?_
      refine ops_guard_yes rfl rfl rfl ?_
      refine op_cmp_f rfl rfl rfl rfl (by first | (simp only [cmpP]; done) | (simp only [cmpP]; omega)) ?_
      refine op_pick_t rfl rfl rfl ?_
      refine op_move rfl rfl ?_
      refine ops_off1 rfl rfl ?_
      refine ops_off1 rfl rfl ?_
      refine op_pick_f rfl rfl rfl ?_
      refine op_move rfl rfl ?_
      refine ops_off1 rfl rfl ?_
      refine ops_off1 rfl rfl ?_
      refine ops_off1 rfl rfl ?_
      refine ops_off1 rfl rfl ?_
      refine ops_off1 rfl rfl ?_
      refine ops_off1 rfl rfl ?_
      refine ops_off1 rfl rfl ?_
      refine ops_off1 rfl rfl ?_
      refine op_pick_f rfl rfl rfl ?_
      refine op_move rfl rfl ?_
      refine ops_off1 rfl rfl ?_
      refine ops_off1 rfl rfl ?_
      refine ops_off1 rfl rfl ?_
      refine ops_off1 rfl rfl ?_
      refine ops_off1 rfl rfl ?_
      refine ops_off1 rfl rfl ?_
      refine ops_off1 rfl rfl ?_
      refine ops_off1 rfl rfl ?_
      refine op_pick_f rfl rfl rfl ?_
      refine ops_nil ?_
      refine fin_code ?_
      refine run_cond_f rfl ?_
      refine run_skip ?_
      refine fin_code ?_
      refine run_seq ?_
      refine run_region rfl ?_
      refine op_move rfl rfl ?_
      refine op_assign rfl rfl ?_
      refine ops_nil ?_
      refine fin_code ?_
      refine run_ret ?_
      (refine fin_ret1 rfl rfl ?_; intro w' g; exact hR _ _ (post_of g () trivial (by congr 1; (repeat' split) <;> omega) (by (apply le_of_picks; (repeat (first | exact Picks.nil | (apply Picks.cons; (· (repeat (first | exact Pick.here | apply Pick.there)))) | apply Picks.empty))))))
  rcases Nat.eq_zero_or_pos k' with hk2 | hk2
  · subst hk2
    simp only [Bool.true_and, Nat.lt_irrefl, decide_false, Bool.false_and, Bool.and_false, Bool.false_eq_true, if_false] at hR
    cases b1
    · rw [hFf] at hR
      refine ops_nil ?_
      refine fin_code ?_
      refine run_cond_f rfl ?_
      refine run_region rfl ?_
      refine op_move rfl rfl ?_
      refine op_move rfl rfl ?_
      refine op_move rfl rfl ?_
      refine op_sub rfl rfl rfl (by simp only [kLo, kHi]; omega) ?_
      refine op_index rfl rfl rfl (by omega) (by first | (rw [Int.toNat_natCast, Nat.mul_one, Nat.zero_add]) | (rw [Int.toNat_natCast, Nat.mul_one]) | (rw [Int.toNat_natCast, Nat.zero_add]) | (rw [Int.toNat_natCast]) | exact rfl) ?_
      (apply op_load; (· exact rfl); (· exact rfl); (· first | exact Rd.cellE hcq hgq (by simp [ids]) (by first | rfl | omega) hA1 | exact Rd.cellE hcq hgq (by simp [ids]) (by first | rfl | omega) hB1 | exact Rd.cellE hcq hgq (by simp [ids]) (by first | rfl | omega) hC1 | exact Rd.cellE hca hga (by simp [ids]) (by first | rfl | omega) ha1 | exact Rd.cellE hca hga (by simp [ids]) (by first | rfl | omega) ha2 | exact Rd.cellE hcb hgb (by simp [ids]) (by first | rfl | omega) hb1 | exact Rd.cellE hcc hgc (by simp [ids]) (by first | rfl | omega) hc1 | exact Rd.cellE hcv hgv (by simp [ids]) (by first | rfl | omega) hv1 | exact Rd.cellE hcv hgv (by simp [ids]) (by first | rfl | omega) hv2))
      refine op_move rfl rfl ?_
      refine op_sub rfl rfl rfl (by simp only [kLo, kHi]; omega) ?_
      refine op_index rfl rfl rfl (by omega) (by first | (rw [Int.toNat_natCast, Nat.mul_one, Nat.zero_add]) | (rw [Int.toNat_natCast, Nat.mul_one]) | (rw [Int.toNat_natCast, Nat.zero_add]) | (rw [Int.toNat_natCast]) | exact rfl) ?_
      (apply op_load; (· exact rfl); (· exact rfl); (· first | exact Rd.cellE hcq hgq (by simp [ids]) (by first | rfl | omega) hA1 | exact Rd.cellE hcq hgq (by simp [ids]) (by first | rfl | omega) hB1 | exact Rd.cellE hcq hgq (by simp [ids]) (by first | rfl | omega) hC1 | exact Rd.cellE hca hga (by simp [ids]) (by first | rfl | omega) ha1 | exact Rd.cellE hca hga (by simp [ids]) (by first | rfl | omega) ha2 | exact Rd.cellE hcb hgb (by simp [ids]) (by first | rfl | omega) hb1 | exact Rd.cellE hcc hgc (by simp [ids]) (by first | rfl | omega) hc1 | exact Rd.cellE hcv hgv (by simp [ids]) (by first | rfl | omega) hv1 | exact Rd.cellE hcv hgv (by simp [ids]) (by first | rfl | omega) hv2))
      refine op_add rfl rfl rfl (by simp only [kLo, kHi]; omega) ?_
      refine op_min rfl rfl rfl ?_
      refine op_assign rfl rfl ?_
      refine ops_nil ?_
      refine fin_code ?_
      refine run_seq ?_
      refine run_seq ?_
      refine run_region rfl ?_
      refine op_move rfl rfl ?_
      refine op_move rfl rfl ?_
      refine ops_guard_yes rfl rfl rfl ?_
      refine op_move rfl rfl ?_
      refine ops_guard_yes rfl rfl rfl ?_
      refine op_cmp_t rfl rfl rfl rfl (by first | (simp only [cmpP]; done) | (simp only [cmpP]; omega)) ?_
      refine op_pick_t rfl rfl rfl ?_
      refine op_move rfl rfl ?_
      refine ops_guard_yes rfl rfl rfl ?_
      refine op_move rfl rfl ?_
      refine ops_guard_yes rfl rfl rfl ?_
      refine op_cmp_f rfl rfl rfl rfl (by first | (simp only [cmpP]; done) | (simp only [cmpP]; omega)) ?_
      refine op_pick_t rfl rfl rfl ?_
      refine op_move rfl rfl ?_
      refine ops_off1 rfl rfl ?_
      refine ops_off1 rfl rfl ?_
      refine ops_off1 rfl rfl ?_
      refine ops_off1 rfl rfl ?_
      refine ops_off1 rfl rfl ?_
      refine ops_off1 rfl rfl ?_
      refine ops_off1 rfl rfl ?_
      refine ops_off1 rfl rfl ?_
      refine op_pick_f rfl rfl rfl ?_
      refine op_move rfl rfl ?_
      refine ops_off1 rfl rfl ?_
      refine ops_off1 rfl rfl ?_
      refine ops_off1 rfl rfl ?_
      refine ops_off1 rfl rfl ?_
      refine ops_off1 rfl rfl ?_
      refine ops_off1 rfl rfl ?_
      refine ops_off1 rfl rfl ?_
      refine ops_off1 rfl rfl ?_
      refine op_pick_f rfl rfl rfl ?_
      refine ops_nil ?_
      refine fin_code ?_
      refine run_cond_f rfl ?_
      refine run_skip ?_
      refine fin_code ?_
      refine run_seq ?_
      refine run_region rfl ?_
      refine op_move rfl rfl ?_
      refine op_assign rfl rfl ?_
      refine ops_nil ?_
      refine fin_code ?_
      refine run_ret ?_
      (refine fin_ret1 rfl rfl ?_; intro w' g; exact hR _ _ (post_of g () trivial (by congr 1; (repeat' split) <;> omega) (by (apply le_of_picks; (repeat (first | exact Picks.nil | (apply Picks.cons; (· (repeat (first | exact Pick.here | apply Pick.there)))) | apply Picks.empty))))))
    · rw [hFt] at hR
      refine ops_nil ?_
      refine fin_code ?_
      refine run_cond_t rfl ?_
      refine run_region rfl ?_
      refine op_move rfl rfl ?_
      refine op_move rfl rfl ?_
      refine op_move rfl rfl ?_
      refine op_sub rfl rfl rfl (by simp only [kLo, kHi]; omega) ?_
      refine op_index rfl rfl rfl (by omega) (by first | (rw [Int.toNat_natCast, Nat.mul_one, Nat.zero_add]) | (rw [Int.toNat_natCast, Nat.mul_one]) | (rw [Int.toNat_natCast, Nat.zero_add]) | (rw [Int.toNat_natCast]) | exact rfl) ?_
      (apply op_load; (· exact rfl); (· exact rfl); (· first | exact Rd.cellE hcq hgq (by simp [ids]) (by first | rfl | omega) hA1 | exact Rd.cellE hcq hgq (by simp [ids]) (by first | rfl | omega) hB1 | exact Rd.cellE hcq hgq (by simp [ids]) (by first | rfl | omega) hC1 | exact Rd.cellE hca hga (by simp [ids]) (by first | rfl | omega) ha1 | exact Rd.cellE hca hga (by simp [ids]) (by first | rfl | omega) ha2 | exact Rd.cellE hcb hgb (by simp [ids]) (by first | rfl | omega) hb1 | exact Rd.cellE hcc hgc (by simp [ids]) (by first | rfl | omega) hc1 | exact Rd.cellE hcv hgv (by simp [ids]) (by first | rfl | omega) hv1 | exact Rd.cellE hcv hgv (by simp [ids]) (by first | rfl | omega) hv2))
      refine op_move rfl rfl ?_
      refine op_sub rfl rfl rfl (by simp only [kLo, kHi]; omega) ?_
      refine op_index rfl rfl rfl (by omega) (by first | (rw [Int.toNat_natCast, Nat.mul_one, Nat.zero_add]) | (rw [Int.toNat_natCast, Nat.mul_one]) | (rw [Int.toNat_natCast, Nat.zero_add]) | (rw [Int.toNat_natCast]) | exact rfl) ?_
      (apply op_load; (· exact rfl); (· exact rfl); (· first | exact Rd.cellE hcq hgq (by simp [ids]) (by first | rfl | omega) hA1 | exact Rd.cellE hcq hgq (by simp [ids]) (by first | rfl | omega) hB1 | exact Rd.cellE hcq hgq (by simp [ids]) (by first | rfl | omega) hC1 | exact Rd.cellE hca hga (by simp [ids]) (by first | rfl | omega) ha1 | exact Rd.cellE hca hga (by simp [ids]) (by first | rfl | omega) ha2 | exact Rd.cellE hcb hgb (by simp [ids]) (by first | rfl | omega) hb1 | exact Rd.cellE hcc hgc (by simp [ids]) (by first | rfl | omega) hc1 | exact Rd.cellE hcv hgv (by simp [ids]) (by first | rfl | omega) hv1 | exact Rd.cellE hcv hgv (by simp [ids]) (by first | rfl | omega) hv2))
      refine op_min rfl rfl rfl ?_
      refine op_assign rfl rfl ?_
      refine ops_nil ?_
      refine fin_code ?_
      refine run_seq ?_
      refine run_seq ?_
      refine run_region rfl ?_
      refine op_move rfl rfl ?_
      refine op_move rfl rfl ?_
      refine ops_guard_yes rfl rfl rfl ?_
      refine op_move rfl rfl ?_
      refine ops_guard_yes rfl rfl rfl ?_
      refine op_cmp_t rfl rfl rfl rfl (by first | (simp only [cmpP]; done) | (simp only [cmpP]; omega)) ?_
      refine op_pick_t rfl rfl rfl ?_
      refine op_move rfl rfl ?_
      refine ops_guard_yes rfl rfl rfl ?_
      refine op_move rfl rfl ?_
      refine ops_guard_yes rfl rfl rfl ?_
      refine op_cmp_f rfl rfl rfl rfl (by first | (simp only [cmpP]; done) | (simp only [cmpP]; omega)) ?_
      refine op_pick_t rfl rfl rfl ?_
      refine op_move rfl rfl ?_
      refine ops_off1 rfl rfl ?_
      refine ops_off1 rfl rfl ?_
      refine ops_off1 rfl rfl ?_
      refine ops_off1 rfl rfl ?_
      refine ops_off1 rfl rfl ?_
      refine ops_off1 rfl rfl ?_
      refine ops_off1 rfl rfl ?_
      refine ops_off1 rfl rfl ?_
      refine op_pick_f rfl rfl rfl ?_
      refine op_move rfl rfl ?_
      refine ops_off1 rfl rfl ?_
      refine ops_off1 rfl rfl ?_
      refine ops_off1 rfl rfl ?_
      refine ops_off1 rfl rfl ?_
      refine ops_off1 rfl rfl ?_
      refine ops_off1 rfl rfl ?_
      refine ops_off1 rfl rfl ?_
      refine ops_off1 rfl rfl ?_
      refine op_pick_f rfl rfl rfl ?_
      refine ops_nil ?_
      refine fin_code ?_
      refine run_cond_f rfl ?_
      refine run_skip ?_
      refine fin_code ?_
      refine run_seq ?_
      refine run_region rfl ?_
      refine op_move rfl rfl ?_
      refine op_assign rfl rfl ?_
      refine ops_nil ?_
      refine fin_code ?_
      refine run_ret ?_
      (refine fin_ret1 rfl rfl ?_; intro w' g; exact hR _ _ (post_of g () trivial (by congr 1; (repeat' split) <;> omega) (by (apply le_of_picks; (repeat (first | exact Picks.nil | (apply Picks.cons; (· (repeat (first | exact Pick.here | apply Pick.there)))) | apply Picks.empty))))))
  simp only [decide_eq_true hi2, decide_eq_true hk2, Bool.true_and] at hR
  have hkk2 : ((k' + 1 : Nat) : Int) - 2 = ((k' - 1 : Nat) : Int) := by omega
  have hv2 := hv2 hi2
  have hvb2 := hvb2 hi2
  obtain ⟨gc0, ccc, xc, hC1, hgc, hcc, hc1⟩ := hC hi2
  cases b1
  · rw [hFf] at hR
    refine ops_nil ?_
    refine fin_code ?_
    refine run_cond_f rfl ?_
    refine run_region rfl ?_
    refine op_move rfl rfl ?_
    refine op_move rfl rfl ?_
    refine op_move rfl rfl ?_
    refine op_sub rfl rfl rfl (by simp only [kLo, kHi]; omega) ?_
    refine op_index rfl rfl rfl (by omega) (by first | (rw [Int.toNat_natCast, Nat.mul_one, Nat.zero_add]) | (rw [Int.toNat_natCast, Nat.mul_one]) | (rw [Int.toNat_natCast, Nat.zero_add]) | (rw [Int.toNat_natCast]) | exact rfl) ?_
    (apply op_load; (· exact rfl); (· exact rfl); (· first | exact Rd.cellE hcq hgq (by simp [ids]) (by first | rfl | omega) hA1 | exact Rd.cellE hcq hgq (by simp [ids]) (by first | rfl | omega) hB1 | exact Rd.cellE hcq hgq (by simp [ids]) (by first | rfl | omega) hC1 | exact Rd.cellE hca hga (by simp [ids]) (by first | rfl | omega) ha1 | exact Rd.cellE hca hga (by simp [ids]) (by first | rfl | omega) ha2 | exact Rd.cellE hcb hgb (by simp [ids]) (by first | rfl | omega) hb1 | exact Rd.cellE hcc hgc (by simp [ids]) (by first | rfl | omega) hc1 | exact Rd.cellE hcv hgv (by simp [ids]) (by first | rfl | omega) hv1 | exact Rd.cellE hcv hgv (by simp [ids]) (by first | rfl | omega) hv2))
    refine op_move rfl rfl ?_
    refine op_sub rfl rfl rfl (by simp only [kLo, kHi]; omega) ?_
    refine op_index rfl rfl rfl (by omega) (by first | (rw [Int.toNat_natCast, Nat.mul_one, Nat.zero_add]) | (rw [Int.toNat_natCast, Nat.mul_one]) | (rw [Int.toNat_natCast, Nat.zero_add]) | (rw [Int.toNat_natCast]) | exact rfl) ?_
    (apply op_load; (· exact rfl); (· exact rfl); (· first | exact Rd.cellE hcq hgq (by simp [ids]) (by first | rfl | omega) hA1 | exact Rd.cellE hcq hgq (by simp [ids]) (by first | rfl | omega) hB1 | exact Rd.cellE hcq hgq (by simp [ids]) (by first | rfl | omega) hC1 | exact Rd.cellE hca hga (by simp [ids]) (by first | rfl | omega) ha1 | exact Rd.cellE hca hga (by simp [ids]) (by first | rfl | omega) ha2 | exact Rd.cellE hcb hgb (by simp [ids]) (by first | rfl | omega) hb1 | exact Rd.cellE hcc hgc (by simp [ids]) (by first | rfl | omega) hc1 | exact Rd.cellE hcv hgv (by simp [ids]) (by first | rfl | omega) hv1 | exact Rd.cellE hcv hgv (by simp [ids]) (by first | rfl | omega) hv2))
    refine op_add rfl rfl rfl (by simp only [kLo, kHi]; omega) ?_
    refine op_min rfl rfl rfl ?_
    refine op_assign rfl rfl ?_
    refine ops_nil ?_
    refine fin_code ?_
    refine run_seq ?_
    refine run_seq ?_
    refine run_region rfl ?_
    refine op_move rfl rfl ?_
    refine op_move rfl rfl ?_
    refine ops_guard_yes rfl rfl rfl ?_
    refine op_move rfl rfl ?_
    refine ops_guard_yes rfl rfl rfl ?_
    refine op_cmp_t rfl rfl rfl rfl (by first | (simp only [cmpP]; done) | (simp only [cmpP]; omega)) ?_
    refine op_pick_t rfl rfl rfl ?_
    refine op_move rfl rfl ?_
    refine ops_guard_yes rfl rfl rfl ?_
    refine op_move rfl rfl ?_
    refine ops_guard_yes rfl rfl rfl ?_
    refine op_cmp_t rfl rfl rfl rfl (by first | (simp only [cmpP]; done) | (simp only [cmpP]; omega)) ?_
    refine op_pick_t rfl rfl rfl ?_
    refine op_move rfl rfl ?_
    refine ops_guard_yes rfl rfl rfl ?_
    refine op_move rfl rfl ?_
    refine ops_guard_yes rfl rfl rfl ?_
    refine op_move rfl rfl ?_
    refine ops_guard_yes rfl rfl rfl ?_
    refine op_sub rfl rfl rfl (by simp only [kLo, kHi]; omega) ?_
    refine ops_guard_yes rfl rfl rfl ?_
    refine op_index rfl rfl rfl (by omega) (by first | (rw [Int.toNat_natCast, Nat.mul_one, Nat.zero_add]) | (rw [Int.toNat_natCast, Nat.mul_one]) | (rw [Int.toNat_natCast, Nat.zero_add]) | (rw [Int.toNat_natCast]) | exact rfl) ?_
    refine ops_guard_yes rfl rfl rfl ?_
    (apply op_load; (· exact rfl); (· exact rfl); (· first | exact Rd.cellE hcq hgq (by simp [ids]) (by first | rfl | omega) hA1 | exact Rd.cellE hcq hgq (by simp [ids]) (by first | rfl | omega) hB1 | exact Rd.cellE hcq hgq (by simp [ids]) (by first | rfl | omega) hC1 | exact Rd.cellE hca hga (by simp [ids]) (by first | rfl | omega) ha1 | exact Rd.cellE hca hga (by simp [ids]) (by first | rfl | omega) ha2 | exact Rd.cellE hcb hgb (by simp [ids]) (by first | rfl | omega) hb1 | exact Rd.cellE hcc hgc (by simp [ids]) (by first | rfl | omega) hc1 | exact Rd.cellE hcv hgv (by simp [ids]) (by first | rfl | omega) hv1 | exact Rd.cellE hcv hgv (by simp [ids]) (by first | rfl | omega) hv2))
    refine ops_guard_yes rfl rfl rfl ?_
    refine op_move rfl rfl ?_
    refine ops_guard_yes rfl rfl rfl ?_
    refine op_sub rfl rfl rfl (by simp only [kLo, kHi]; omega) ?_
    refine ops_guard_yes rfl rfl rfl ?_
    rw [hkk2]
    ((first | (apply op_call; (· exact rfl)) | apply op_call0); (· exact rfl); rotate_left 1; (· exact fun w hG hw => B2 w); rotate_right 1; (· (repeat (first | exact Picks.nil | (apply Picks.cons; (· (repeat (first | exact Pick.here | apply Pick.there)))) | apply Picks.empty))))
    intro _ _
    cases b2
    · simp only [Bool.false_and, Bool.false_eq_true, if_false] at hR
      refine op_pick_t rfl rfl rfl ?_
      refine op_move rfl rfl ?_
      refine ops_off1 rfl rfl ?_
      refine ops_off1 rfl rfl ?_
      refine ops_off1 rfl rfl ?_
      refine ops_off1 rfl rfl ?_
      refine ops_off1 rfl rfl ?_
      refine ops_off1 rfl rfl ?_
      refine ops_off1 rfl rfl ?_
      refine ops_off1 rfl rfl ?_
      refine op_pick_f rfl rfl rfl ?_
      refine ops_nil ?_
      refine fin_code ?_
      refine run_cond_f rfl ?_
      refine run_skip ?_
      refine fin_code ?_
      refine run_seq ?_
      refine run_region rfl ?_
      refine op_move rfl rfl ?_
      refine op_assign rfl rfl ?_
      refine ops_nil ?_
      refine fin_code ?_
      refine run_ret ?_
      (refine fin_ret1 rfl rfl ?_; intro w' g; exact hR _ _ (post_of g () trivial (by congr 1; (repeat' split) <;> omega) (by (apply le_of_picks; (repeat (first | exact Picks.nil | (apply Picks.cons; (· (repeat (first | exact Pick.here | apply Pick.there)))) | apply Picks.empty))))))
    · refine op_pick_t rfl rfl rfl ?_
      refine op_move rfl rfl ?_
      refine ops_guard_yes rfl rfl rfl ?_
      refine op_move rfl rfl ?_
      refine ops_guard_yes rfl rfl rfl ?_
      refine op_move rfl rfl ?_
      refine ops_guard_yes rfl rfl rfl ?_
      refine op_sub rfl rfl rfl (by simp only [kLo, kHi]; omega) ?_
      refine ops_guard_yes rfl rfl rfl ?_
      refine op_index rfl rfl rfl (by omega) (by first | (rw [Int.toNat_natCast, Nat.mul_one, Nat.zero_add]) | (rw [Int.toNat_natCast, Nat.mul_one]) | (rw [Int.toNat_natCast, Nat.zero_add]) | (rw [Int.toNat_natCast]) | exact rfl) ?_
      refine ops_guard_yes rfl rfl rfl ?_
      (apply op_load; (· exact rfl); (· exact rfl); (· first | exact Rd.cellE hcq hgq (by simp [ids]) (by first | rfl | omega) hA1 | exact Rd.cellE hcq hgq (by simp [ids]) (by first | rfl | omega) hB1 | exact Rd.cellE hcq hgq (by simp [ids]) (by first | rfl | omega) hC1 | exact Rd.cellE hca hga (by simp [ids]) (by first | rfl | omega) ha1 | exact Rd.cellE hca hga (by simp [ids]) (by first | rfl | omega) ha2 | exact Rd.cellE hcb hgb (by simp [ids]) (by first | rfl | omega) hb1 | exact Rd.cellE hcc hgc (by simp [ids]) (by first | rfl | omega) hc1 | exact Rd.cellE hcv hgv (by simp [ids]) (by first | rfl | omega) hv1 | exact Rd.cellE hcv hgv (by simp [ids]) (by first | rfl | omega) hv2))
      refine ops_guard_yes rfl rfl rfl ?_
      refine op_move rfl rfl ?_
      refine ops_guard_yes rfl rfl rfl ?_
      refine op_sub rfl rfl rfl (by simp only [kLo, kHi]; omega) ?_
      refine ops_guard_yes rfl rfl rfl ?_
      rw [hkk]
      ((first | (apply op_call; (· exact rfl)) | apply op_call0); (· exact rfl); rotate_left 1; (· exact fun w hG hw => B3 w hvb2); rotate_right 1; (· (repeat (first | exact Picks.nil | (apply Picks.cons; (· (repeat (first | exact Pick.here | apply Pick.there)))) | apply Picks.empty))))
      intro _ _
      cases b3
      · simp only [Bool.and_false, Bool.false_eq_true, if_false] at hR
        refine op_pick_t rfl rfl rfl ?_
        refine ops_nil ?_
        refine fin_code ?_
        refine run_cond_f rfl ?_
        refine run_skip ?_
        refine fin_code ?_
        refine run_seq ?_
        refine run_region rfl ?_
        refine op_move rfl rfl ?_
        refine op_assign rfl rfl ?_
        refine ops_nil ?_
        refine fin_code ?_
        refine run_ret ?_
        (refine fin_ret1 rfl rfl ?_; intro w' g; exact hR _ _ (post_of g () trivial (by congr 1; (repeat' split) <;> omega) (by (apply le_of_picks; (repeat (first | exact Picks.nil | (apply Picks.cons; (· (repeat (first | exact Pick.here | apply Pick.there)))) | apply Picks.empty))))))
      · simp only [Bool.and_true, if_true] at hR
        refine op_pick_t rfl rfl rfl ?_
        refine ops_nil ?_
        refine fin_code ?_
        refine run_cond_t rfl ?_
        refine run_region rfl ?_
        refine op_move rfl rfl ?_
        refine op_move rfl rfl ?_
        refine op_move rfl rfl ?_
        refine op_sub rfl rfl rfl (by simp only [kLo, kHi]; omega) ?_
        refine op_index rfl rfl rfl (by omega) (by first | (rw [Int.toNat_natCast, Nat.mul_one, Nat.zero_add]) | (rw [Int.toNat_natCast, Nat.mul_one]) | (rw [Int.toNat_natCast, Nat.zero_add]) | (rw [Int.toNat_natCast]) | exact rfl) ?_
        (apply op_load; (· exact rfl); (· exact rfl); (· first | exact Rd.cellE hcq hgq (by simp [ids]) (by first | rfl | omega) hA1 | exact Rd.cellE hcq hgq (by simp [ids]) (by first | rfl | omega) hB1 | exact Rd.cellE hcq hgq (by simp [ids]) (by first | rfl | omega) hC1 | exact Rd.cellE hca hga (by simp [ids]) (by first | rfl | omega) ha1 | exact Rd.cellE hca hga (by simp [ids]) (by first | rfl | omega) ha2 | exact Rd.cellE hcb hgb (by simp [ids]) (by first | rfl | omega) hb1 | exact Rd.cellE hcc hgc (by simp [ids]) (by first | rfl | omega) hc1 | exact Rd.cellE hcv hgv (by simp [ids]) (by first | rfl | omega) hv1 | exact Rd.cellE hcv hgv (by simp [ids]) (by first | rfl | omega) hv2))
        refine op_move rfl rfl ?_
        refine op_sub rfl rfl rfl (by simp only [kLo, kHi]; omega) ?_
        refine op_index rfl rfl rfl (by omega) (by first | (rw [Int.toNat_natCast, Nat.mul_one, Nat.zero_add]) | (rw [Int.toNat_natCast, Nat.mul_one]) | (rw [Int.toNat_natCast, Nat.zero_add]) | (rw [Int.toNat_natCast]) | exact rfl) ?_
        (apply op_load; (· exact rfl); (· exact rfl); (· first | exact Rd.cellE hcq hgq (by simp [ids]) (by first | rfl | omega) hA1 | exact Rd.cellE hcq hgq (by simp [ids]) (by first | rfl | omega) hB1 | exact Rd.cellE hcq hgq (by simp [ids]) (by first | rfl | omega) hC1 | exact Rd.cellE hca hga (by simp [ids]) (by first | rfl | omega) ha1 | exact Rd.cellE hca hga (by simp [ids]) (by first | rfl | omega) ha2 | exact Rd.cellE hcb hgb (by simp [ids]) (by first | rfl | omega) hb1 | exact Rd.cellE hcc hgc (by simp [ids]) (by first | rfl | omega) hc1 | exact Rd.cellE hcv hgv (by simp [ids]) (by first | rfl | omega) hv1 | exact Rd.cellE hcv hgv (by simp [ids]) (by first | rfl | omega) hv2))
        refine op_add rfl rfl rfl (by simp only [kLo, kHi]; omega) ?_
        refine op_min rfl rfl rfl ?_
        refine op_assign rfl rfl ?_
        refine ops_nil ?_
        refine fin_code ?_
        refine run_seq ?_
        refine run_region rfl ?_
        refine op_move rfl rfl ?_
        refine op_assign rfl rfl ?_
        refine ops_nil ?_
        refine fin_code ?_
        refine run_ret ?_
        (refine fin_ret1 rfl rfl ?_; intro w' g; exact hR _ _ (post_of g () trivial (by congr 1; (repeat' split) <;> omega) (by (apply le_of_picks; (repeat (first | exact Picks.nil | (apply Picks.cons; (· (repeat (first | exact Pick.here | apply Pick.there)))) | apply Picks.empty))))))
  · rw [hFt] at hR
    refine ops_nil ?_
    refine fin_code ?_
    refine run_cond_t rfl ?_
    refine run_region rfl ?_
    refine op_move rfl rfl ?_
    refine op_move rfl rfl ?_
    refine op_move rfl rfl ?_
    refine op_sub rfl rfl rfl (by simp only [kLo, kHi]; omega) ?_
    refine op_index rfl rfl rfl (by omega) (by first | (rw [Int.toNat_natCast, Nat.mul_one, Nat.zero_add]) | (rw [Int.toNat_natCast, Nat.mul_one]) | (rw [Int.toNat_natCast, Nat.zero_add]) | (rw [Int.toNat_natCast]) | exact rfl) ?_
    (apply op_load; (· exact rfl); (· exact rfl); (· first | exact Rd.cellE hcq hgq (by simp [ids]) (by first | rfl | omega) hA1 | exact Rd.cellE hcq hgq (by simp [ids]) (by first | rfl | omega) hB1 | exact Rd.cellE hcq hgq (by simp [ids]) (by first | rfl | omega) hC1 | exact Rd.cellE hca hga (by simp [ids]) (by first | rfl | omega) ha1 | exact Rd.cellE hca hga (by simp [ids]) (by first | rfl | omega) ha2 | exact Rd.cellE hcb hgb (by simp [ids]) (by first | rfl | omega) hb1 | exact Rd.cellE hcc hgc (by simp [ids]) (by first | rfl | omega) hc1 | exact Rd.cellE hcv hgv (by simp [ids]) (by first | rfl | omega) hv1 | exact Rd.cellE hcv hgv (by simp [ids]) (by first | rfl | omega) hv2))
    refine op_move rfl rfl ?_
    refine op_sub rfl rfl rfl (by simp only [kLo, kHi]; omega) ?_
    refine op_index rfl rfl rfl (by omega) (by first | (rw [Int.toNat_natCast, Nat.mul_one, Nat.zero_add]) | (rw [Int.toNat_natCast, Nat.mul_one]) | (rw [Int.toNat_natCast, Nat.zero_add]) | (rw [Int.toNat_natCast]) | exact rfl) ?_
    (apply op_load; (· exact rfl); (· exact rfl); (· first | exact Rd.cellE hcq hgq (by simp [ids]) (by first | rfl | omega) hA1 | exact Rd.cellE hcq hgq (by simp [ids]) (by first | rfl | omega) hB1 | exact Rd.cellE hcq hgq (by simp [ids]) (by first | rfl | omega) hC1 | exact Rd.cellE hca hga (by simp [ids]) (by first | rfl | omega) ha1 | exact Rd.cellE hca hga (by simp [ids]) (by first | rfl | omega) ha2 | exact Rd.cellE hcb hgb (by simp [ids]) (by first | rfl | omega) hb1 | exact Rd.cellE hcc hgc (by simp [ids]) (by first | rfl | omega) hc1 | exact Rd.cellE hcv hgv (by simp [ids]) (by first | rfl | omega) hv1 | exact Rd.cellE hcv hgv (by simp [ids]) (by first | rfl | omega) hv2))
    refine op_min rfl rfl rfl ?_
    refine op_assign rfl rfl ?_
    refine ops_nil ?_
    refine fin_code ?_
    refine run_seq ?_
    refine run_seq ?_
    refine run_region rfl ?_
    refine op_move rfl rfl ?_
    refine op_move rfl rfl ?_
    refine ops_guard_yes rfl rfl rfl ?_
    refine op_move rfl rfl ?_
    refine ops_guard_yes rfl rfl rfl ?_
    refine op_cmp_t rfl rfl rfl rfl (by first | (simp only [cmpP]; done) | (simp only [cmpP]; omega)) ?_
    refine op_pick_t rfl rfl rfl ?_
    refine op_move rfl rfl ?_
    refine ops_guard_yes rfl rfl rfl ?_
    refine op_move rfl rfl ?_
    refine ops_guard_yes rfl rfl rfl ?_
    refine op_cmp_t rfl rfl rfl rfl (by first | (simp only [cmpP]; done) | (simp only [cmpP]; omega)) ?_
    refine op_pick_t rfl rfl rfl ?_
    refine op_move rfl rfl ?_
    refine ops_guard_yes rfl rfl rfl ?_
    refine op_move rfl rfl ?_
    refine ops_guard_yes rfl rfl rfl ?_
    refine op_move rfl rfl ?_
    refine ops_guard_yes rfl rfl rfl ?_
    refine op_sub rfl rfl rfl (by simp only [kLo, kHi]; omega) ?_
    refine ops_guard_yes rfl rfl rfl ?_
    refine op_index rfl rfl rfl (by omega) (by first | (rw [Int.toNat_natCast, Nat.mul_one, Nat.zero_add]) | (rw [Int.toNat_natCast, Nat.mul_one]) | (rw [Int.toNat_natCast, Nat.zero_add]) | (rw [Int.toNat_natCast]) | exact rfl) ?_
    refine ops_guard_yes rfl rfl rfl ?_
    (apply op_load; (· exact rfl); (· exact rfl); (· first | exact Rd.cellE hcq hgq (by simp [ids]) (by first | rfl | omega) hA1 | exact Rd.cellE hcq hgq (by simp [ids]) (by first | rfl | omega) hB1 | exact Rd.cellE hcq hgq (by simp [ids]) (by first | rfl | omega) hC1 | exact Rd.cellE hca hga (by simp [ids]) (by first | rfl | omega) ha1 | exact Rd.cellE hca hga (by simp [ids]) (by first | rfl | omega) ha2 | exact Rd.cellE hcb hgb (by simp [ids]) (by first | rfl | omega) hb1 | exact Rd.cellE hcc hgc (by simp [ids]) (by first | rfl | omega) hc1 | exact Rd.cellE hcv hgv (by simp [ids]) (by first | rfl | omega) hv1 | exact Rd.cellE hcv hgv (by simp [ids]) (by first | rfl | omega) hv2))
    refine ops_guard_yes rfl rfl rfl ?_
    refine op_move rfl rfl ?_
    refine ops_guard_yes rfl rfl rfl ?_
    refine op_sub rfl rfl rfl (by simp only [kLo, kHi]; omega) ?_
    refine ops_guard_yes rfl rfl rfl ?_
    rw [hkk2]
    ((first | (apply op_call; (· exact rfl)) | apply op_call0); (· exact rfl); rotate_left 1; (· exact fun w hG hw => B2 w); rotate_right 1; (· (repeat (first | exact Picks.nil | (apply Picks.cons; (· (repeat (first | exact Pick.here | apply Pick.there)))) | apply Picks.empty))))
    intro _ _
    cases b2
    · simp only [Bool.false_and, Bool.false_eq_true, if_false] at hR
      refine op_pick_t rfl rfl rfl ?_
      refine op_move rfl rfl ?_
      refine ops_off1 rfl rfl ?_
      refine ops_off1 rfl rfl ?_
      refine ops_off1 rfl rfl ?_
      refine ops_off1 rfl rfl ?_
      refine ops_off1 rfl rfl ?_
      refine ops_off1 rfl rfl ?_
      refine ops_off1 rfl rfl ?_
      refine ops_off1 rfl rfl ?_
      refine op_pick_f rfl rfl rfl ?_
      refine ops_nil ?_
      refine fin_code ?_
      refine run_cond_f rfl ?_
      refine run_skip ?_
      refine fin_code ?_
      refine run_seq ?_
      refine run_region rfl ?_
      refine op_move rfl rfl ?_
      refine op_assign rfl rfl ?_
      refine ops_nil ?_
      refine fin_code ?_
      refine run_ret ?_
      (refine fin_ret1 rfl rfl ?_; intro w' g; exact hR _ _ (post_of g () trivial (by congr 1; (repeat' split) <;> omega) (by (apply le_of_picks; (repeat (first | exact Picks.nil | (apply Picks.cons; (· (repeat (first | exact Pick.here | apply Pick.there)))) | apply Picks.empty))))))
    · refine op_pick_t rfl rfl rfl ?_
      refine op_move rfl rfl ?_
      refine ops_guard_yes rfl rfl rfl ?_
      refine op_move rfl rfl ?_
      refine ops_guard_yes rfl rfl rfl ?_
      refine op_move rfl rfl ?_
      refine ops_guard_yes rfl rfl rfl ?_
      refine op_sub rfl rfl rfl (by simp only [kLo, kHi]; omega) ?_
      refine ops_guard_yes rfl rfl rfl ?_
      refine op_index rfl rfl rfl (by omega) (by first | (rw [Int.toNat_natCast, Nat.mul_one, Nat.zero_add]) | (rw [Int.toNat_natCast, Nat.mul_one]) | (rw [Int.toNat_natCast, Nat.zero_add]) | (rw [Int.toNat_natCast]) | exact rfl) ?_
      refine ops_guard_yes rfl rfl rfl ?_
      (apply op_load; (· exact rfl); (· exact rfl); (· first | exact Rd.cellE hcq hgq (by simp [ids]) (by first | rfl | omega) hA1 | exact Rd.cellE hcq hgq (by simp [ids]) (by first | rfl | omega) hB1 | exact Rd.cellE hcq hgq (by simp [ids]) (by first | rfl | omega) hC1 | exact Rd.cellE hca hga (by simp [ids]) (by first | rfl | omega) ha1 | exact Rd.cellE hca hga (by simp [ids]) (by first | rfl | omega) ha2 | exact Rd.cellE hcb hgb (by simp [ids]) (by first | rfl | omega) hb1 | exact Rd.cellE hcc hgc (by simp [ids]) (by first | rfl | omega) hc1 | exact Rd.cellE hcv hgv (by simp [ids]) (by first | rfl | omega) hv1 | exact Rd.cellE hcv hgv (by simp [ids]) (by first | rfl | omega) hv2))
      refine ops_guard_yes rfl rfl rfl ?_
      refine op_move rfl rfl ?_
      refine ops_guard_yes rfl rfl rfl ?_
      refine op_sub rfl rfl rfl (by simp only [kLo, kHi]; omega) ?_
      refine ops_guard_yes rfl rfl rfl ?_
      rw [hkk]
      ((first | (apply op_call; (· exact rfl)) | apply op_call0); (· exact rfl); rotate_left 1; (· exact fun w hG hw => B3 w hvb2); rotate_right 1; (· (repeat (first | exact Picks.nil | (apply Picks.cons; (· (repeat (first | exact Pick.here | apply Pick.there)))) | apply Picks.empty))))
      intro _ _
      cases b3
      · simp only [Bool.and_false, Bool.false_eq_true, if_false] at hR
        refine op_pick_t rfl rfl rfl ?_
        refine ops_nil ?_
        refine fin_code ?_
        refine run_cond_f rfl ?_
        refine run_skip ?_
        refine fin_code ?_
        refine run_seq ?_
        refine run_region rfl ?_
        refine op_move rfl rfl ?_
        refine op_assign rfl rfl ?_
        refine ops_nil ?_
        refine fin_code ?_
        refine run_ret ?_
        (refine fin_ret1 rfl rfl ?_; intro w' g; exact hR _ _ (post_of g () trivial (by congr 1; (repeat' split) <;> omega) (by (apply le_of_picks; (repeat (first | exact Picks.nil | (apply Picks.cons; (· (repeat (first | exact Pick.here | apply Pick.there)))) | apply Picks.empty))))))
      · simp only [Bool.and_true, if_true] at hR
        refine op_pick_t rfl rfl rfl ?_
        refine ops_nil ?_
        refine fin_code ?_
        refine run_cond_t rfl ?_
        refine run_region rfl ?_
        refine op_move rfl rfl ?_
        refine op_move rfl rfl ?_
        refine op_move rfl rfl ?_
        refine op_sub rfl rfl rfl (by simp only [kLo, kHi]; omega) ?_
        refine op_index rfl rfl rfl (by omega) (by first | (rw [Int.toNat_natCast, Nat.mul_one, Nat.zero_add]) | (rw [Int.toNat_natCast, Nat.mul_one]) | (rw [Int.toNat_natCast, Nat.zero_add]) | (rw [Int.toNat_natCast]) | exact rfl) ?_
        (apply op_load; (· exact rfl); (· exact rfl); (· first | exact Rd.cellE hcq hgq (by simp [ids]) (by first | rfl | omega) hA1 | exact Rd.cellE hcq hgq (by simp [ids]) (by first | rfl | omega) hB1 | exact Rd.cellE hcq hgq (by simp [ids]) (by first | rfl | omega) hC1 | exact Rd.cellE hca hga (by simp [ids]) (by first | rfl | omega) ha1 | exact Rd.cellE hca hga (by simp [ids]) (by first | rfl | omega) ha2 | exact Rd.cellE hcb hgb (by simp [ids]) (by first | rfl | omega) hb1 | exact Rd.cellE hcc hgc (by simp [ids]) (by first | rfl | omega) hc1 | exact Rd.cellE hcv hgv (by simp [ids]) (by first | rfl | omega) hv1 | exact Rd.cellE hcv hgv (by simp [ids]) (by first | rfl | omega) hv2))
        refine op_move rfl rfl ?_
        refine op_sub rfl rfl rfl (by simp only [kLo, kHi]; omega) ?_
        refine op_index rfl rfl rfl (by omega) (by first | (rw [Int.toNat_natCast, Nat.mul_one, Nat.zero_add]) | (rw [Int.toNat_natCast, Nat.mul_one]) | (rw [Int.toNat_natCast, Nat.zero_add]) | (rw [Int.toNat_natCast]) | exact rfl) ?_
        (apply op_load; (· exact rfl); (· exact rfl); (· first | exact Rd.cellE hcq hgq (by simp [ids]) (by first | rfl | omega) hA1 | exact Rd.cellE hcq hgq (by simp [ids]) (by first | rfl | omega) hB1 | exact Rd.cellE hcq hgq (by simp [ids]) (by first | rfl | omega) hC1 | exact Rd.cellE hca hga (by simp [ids]) (by first | rfl | omega) ha1 | exact Rd.cellE hca hga (by simp [ids]) (by first | rfl | omega) ha2 | exact Rd.cellE hcb hgb (by simp [ids]) (by first | rfl | omega) hb1 | exact Rd.cellE hcc hgc (by simp [ids]) (by first | rfl | omega) hc1 | exact Rd.cellE hcv hgv (by simp [ids]) (by first | rfl | omega) hv1 | exact Rd.cellE hcv hgv (by simp [ids]) (by first | rfl | omega) hv2))
        refine op_add rfl rfl rfl (by simp only [kLo, kHi]; omega) ?_
        refine op_min rfl rfl rfl ?_
        refine op_assign rfl rfl ?_
        refine ops_nil ?_
        refine fin_code ?_
        refine run_seq ?_
        refine run_region rfl ?_
        refine op_move rfl rfl ?_
        refine op_assign rfl rfl ?_
        refine ops_nil ?_
        refine fin_code ?_
        refine run_ret ?_
        (refine fin_ret1 rfl rfl ?_; intro w' g; exact hR _ _ (post_of g () trivial (by congr 1; (repeat' split) <;> omega) (by (apply le_of_picks; (repeat (first | exact Picks.nil | (apply Picks.cons; (· (repeat (first | exact Pick.here | apply Pick.there)))) | apply Picks.empty))))))
end Go.Proofs.Eng
