/- A part of the proof: what functions of the program do, step by step. -/
import Derived.Test.YtjfpcckdelocpaaDoorEngT2
import Derived.Test.YtjfpcckdelocpaaDoorEngL
import Derived.Test.YtjfpcckdelocpaaDoorU2
import Derived.Test.YtjfpcckdelocpaaDoorU3
set_option linter.unusedVariables false
set_option linter.unusedSimpArgs false
namespace Go.Proofs.Eng
open Go.RowKit
instance : TStr2 Tryd.prog 113 21 21 := ⟨by kernel_rfl, by kernel_rfl, by kernel_rfl, by kernel_rfl⟩
instance : TStr2 Tryd.prog 71 5 5 := ⟨by kernel_rfl, by kernel_rfl, by kernel_rfl, by kernel_rfl⟩
instance : TIface Tryd.prog 60 := ⟨by kernel_rfl⟩
def r2 (p : Nat × Nat) : List Value := [.int .i32 p.1, .int .i32 p.2]
def encR2 (l : List (Nat × Nat)) : List Value := l.flatMap r2
theorem r2_one (a b : Int) : ∀ v ∈ (#[Value.int .i32 a, .int .i32 b]).toList, v.oneCell' = true := by
  intro v hv
  simp at hv
  rcases hv with rfl | rfl <;> rfl
theorem encR2_snoc (l : List (Nat × Nat)) (p : Nat × Nat) : encR2 (l ++ [p]) = encR2 l ++ r2 p := by simp [encR2]
theorem encR2_len (l : List (Nat × Nat)) : (encR2 l).length = l.length * 2 := flat_len r2 2 (fun _ => rfl) l
theorem RdB.nowB {w0 w : World} {L : Hp} {q : Nat} {cs : List Value} (h : RdB w0 w0.heap.size q cs) (g : Goes w0 [] w L) : RdB w w0.heap.size q cs := by
  refine ⟨h.1, fun j v hv => ?_⟩
  have := (h.now g).2 j v hv
  exact this
theorem newB {w0 w : World} {Ls R : List Hp} {l : Hp} (g : Goes w0 [] w Ls.flatten) (p : Pick Ls l R) : ∀ k ∈ ids l, w0.heap.size ≤ k := by
  intro k hk
  obtain ⟨x, hx, rfl⟩ := List.mem_map.1 hk
  have hm : x ∈ Ls.flatten := p.perm.mem_iff.2 (List.mem_append.2 (.inl hx))
  rcases g.new x.id (List.mem_map.2 ⟨x, hm, rfl⟩) with h | h
  · simp [ids] at h
  · exact h
set_option maxRecDepth 100000 in
theorem push_any (w : World) (v : Value) (n : Nat) (S : List (Nat × Nat)) (l : Hp) (ho : Own 113 2 v n (encR2 S) l) (hn : n ≤ 100000000) (s e : Nat) (a b : Int) (ha : a = s) (hb : b = e) (hw : At w ([l] : List Hp).flatten) :
    Calls Tryd.prog 40 #[v, .agg #[.int .i32 a, .int .i32 b]] w (Post w ([l] : List Hp).flatten (fun r : Value × Hp => r.1) (fun r => ([r.2] : List Hp).flatten) (fun r => Own 113 2 r.1 (n + 1) (encR2 (S ++ [(s, e)])) r.2)) := by
  subst ha; subst hb
  refine enter [l] Tryd.func40 rfl rfl hw (Le.refl _) ?_
  intro R hR
  refine run_seq ?_
  refine run_region rfl ?_
  (refine op_box rfl rfl ?_; intro _ _)
  refine op_assign rfl rfl ?_
  refine ops_nil ?_
  refine fin_code ?_
  refine run_seq ?_
  refine run_region rfl ?_
  refine op_move rfl rfl ?_
  (apply op_loadAll; (· exact rfl); (· exact rfl); (· (repeat (first | exact Has.here | apply Has.there))); (· exact rfl))
  (refine op_slice1 rfl rfl (by first | rfl | simp [Value.cells]) (by decide) ?_; intro _ _)
  (apply op_append1; (· exact rfl); (· exact rfl); (· exact rfl); (· exact ho); (· (repeat (first | exact Pick.here | apply Pick.there))); (· (repeat (first | exact Has.here | apply Has.there))); (· exact rfl); (· first | exact onesC rfl | (intro u hu; simp [Value.cells] at hu; rcases hu with rfl | rfl | rfl | rfl | rfl | rfl <;> rfl) | (intro u hu; simp [Value.cells] at hu; rcases hu with rfl | rfl | rfl <;> rfl) | (intro u hu; simp [Value.cells] at hu; rcases hu with rfl | rfl <;> rfl) | (intro u hu; simp [Value.cells] at hu; subst hu; rfl)); (· omega); (· omega); (· exact rfl))
  intro v' l' ho'
  refine op_assign rfl rfl ?_
  refine ops_nil ?_
  refine fin_code ?_
  refine run_ret ?_
  refine fin_ret1 rfl rfl ?_
  intro w' g
  exact hR _ _ (post_of g (v', l') (by rw [encR2_snoc]; exact ho') rfl (by (apply le_of_picks; (repeat (first | exact Picks.nil | (apply Picks.cons; (· (repeat (first | exact Pick.here | apply Pick.there)))) | apply Picks.empty)))))
set_option maxRecDepth 100000 in
set_option maxHeartbeats 1000000 in
theorem pop0_any (w : World) (B : Nat) (v : Value) (l : Hp) (hgl : RdB w B 5 (r2 (65535, 0))) (hl : ∀ k ∈ ids l, B ≤ k) (ho : Own 113 2 v 0 (encR2 []) l) (hw : At w ([l] : List Hp).flatten) :
    Calls Tryd.prog 41 #[v] w (Post w ([l] : List Hp).flatten (fun _ : Unit => .tuple #[v, .agg (r2 (65535, 0)).toArray]) (fun _ => ([l] : List Hp).flatten) (fun _ => True)) := by
  refine enter [l] Tryd.func41 rfl rfl hw (Le.refl _) ?_
  intro R hR
  obtain ⟨A, c, rfl⟩ := ho.isSlice
  have hLL : ∀ k ∈ ids (([l] : List Hp).flatten), B ≤ k := by simpa using hl
  refine run_seq ?_
  refine run_region rfl ?_
  refine op_assign rfl rfl ?_
  (refine op_alloc rfl ?_; intro _ _)
  refine ops_nil ?_
  refine fin_code ?_
  refine run_seq ?_
  refine run_region rfl ?_
  refine op_move rfl rfl ?_
  refine op_len rfl rfl ?_
  refine op_assign rfl rfl ?_
  refine ops_nil ?_
  refine fin_code ?_
  refine run_seq ?_
  refine run_seq ?_
  refine run_region rfl ?_
  refine op_move rfl rfl ?_
  refine op_cmp_t rfl rfl rfl rfl (by first | (simp only [cmpP]; done) | (simp only [cmpP]; omega)) ?_
  refine ops_nil ?_
  refine fin_code ?_
  refine run_cond_t rfl ?_
  refine run_seq ?_
  refine run_drawS [] (by kernel_rfl) ?_
  refine dr_stab 0 rfl rfl (Val.s (val_move rfl)) (by decide +kernel) rfl rfl ?_
  (apply dr_stab 1; (· exact rfl); (· exact rfl); (· apply ValAt.s; (first | (apply val_load; (· exact rfl); (· apply cell_of_has; (· (repeat (first | exact Has.here | apply Has.there))); (· first | exact rfl | exact nats_get _ _ _ (by omega)))) | exact val_loadA rfl (show (r2 (65535, 0)).length = 2 from rfl) (fun j v hv => by rw [Nat.zero_add]; exact RdB.cell hgl hLL hv) | exact val_loadA (vs := r2 p) rfl rfl (fun j v hv => cell_of_has (by (repeat (first | exact Has.here | apply Has.there))) (hlast j v hv)))); (· decide +kernel); (· exact rfl); (· exact rfl))
  refine dr_stab 2 rfl rfl (Val.s (val_assign rfl)) (by decide +kernel) rfl rfl ?_
  (refine dr_one 3 rfl (by decide +kernel) (by (apply le_of_picks; (repeat (first | exact Picks.nil | (apply Picks.cons; (· (repeat (first | exact Pick.here | apply Pick.there)))) | apply Picks.empty)))) ?_)
  (apply op_storeAll; (· exact rfl); (· exact rfl); (· exact rfl); (· exact r2_one _ _); (· (repeat (first | exact Swap.here | apply Swap.there))); (· exact rfl))
  refine ops_nil ?_
  refine fin_draw ?_
  (refine dr_done (by decide +kernel) (by (apply le_of_picks; (repeat (first | exact Picks.nil | (apply Picks.cons; (· (repeat (first | exact Pick.here | apply Pick.there)))) | apply Picks.empty)))) ?_)
  refine fin_code ?_
  refine run_ret ?_
  refine fin_ret_code ?_
  refine fin_retTC (n := 2) rfl rfl rfl (by (repeat (first | exact Has.here | apply Has.there))) rfl ?_
  intro w' g
  exact hR _ _ (post_of g () trivial rfl (by (apply le_of_picks; (repeat (first | exact Picks.nil | (apply Picks.cons; (· (repeat (first | exact Pick.here | apply Pick.there)))) | apply Picks.empty)))))
set_option maxRecDepth 100000 in
set_option maxHeartbeats 1000000 in
theorem pop1_any (w : World) (B : Nat) (v : Value) (n : Nat) (S : List (Nat × Nat)) (p : Nat × Nat) (l : Hp) (hgl : RdB w B 5 (r2 (65535, 0))) (hl : ∀ k ∈ ids l, B ≤ k) (hS : S.length = n) (hn : n ≤ 100000000) (ho : Own 113 2 v (n + 1) (encR2 (S ++ [p])) l) (hw : At w ([l] : List Hp).flatten) :
    Calls Tryd.prog 41 #[v] w (Post w ([l] : List Hp).flatten (fun r : Value => .tuple #[r, .agg (r2 p).toArray]) (fun _ => ([l] : List Hp).flatten) (fun r => Own 113 2 r n (encR2 S) l)) := by
  refine enter [l] Tryd.func41 rfl rfl hw (Le.refl _) ?_
  intro R hR
  have hLL : ∀ k ∈ ids (([l] : List Hp).flatten), B ≤ k := by simpa using hl
  have hcut := ho
  obtain ⟨g, cap, cur, rfl, rfl, hc1, hc2, hc3, hc4, hc5⟩ := ho.openN (by omega)
  have hcut := hcut.cutN (m := n) (by omega)
  have hidx : (((n + 1 : Nat) : Int) - 1).toNat = n := by omega
  have hlast : ∀ (j : Nat) u, (r2 p)[j]? = some u → aget cur (0 + (((n + 1 : Nat) : Int) - 1).toNat * 2 + j) = some u := fun j u hj => by
    rw [hidx, Nat.zero_add]
    apply hc4
    rw [encR2_snoc, List.getElem?_append_right (by rw [encR2_len, hS]; omega), encR2_len, hS]
    rw [show n * 2 + j - n * 2 = j by omega]
    exact hj
  refine run_seq ?_
  refine run_region rfl ?_
  refine op_assign rfl rfl ?_
  (refine op_alloc rfl ?_; intro _ _)
  refine ops_nil ?_
  refine fin_code ?_
  refine run_seq ?_
  refine run_region rfl ?_
  refine op_move rfl rfl ?_
  refine op_len rfl rfl ?_
  refine op_assign rfl rfl ?_
  refine ops_nil ?_
  refine fin_code ?_
  refine run_seq ?_
  refine run_seq ?_
  refine run_region rfl ?_
  refine op_move rfl rfl ?_
  refine op_cmp_f rfl rfl rfl rfl (by first | (simp only [cmpP]; done) | (simp only [cmpP]; omega)) ?_
  refine ops_nil ?_
  refine fin_code ?_
  refine run_cond_f rfl ?_
  refine run_skip ?_
  refine fin_code ?_
  refine run_seq ?_
  refine run_drawS [] (by kernel_rfl) ?_
  refine dr_stab 0 rfl rfl (Val.s (val_move rfl)) (by decide +kernel) rfl rfl ?_
  refine dr_stab 1 rfl rfl (Val.s (val_move rfl)) (by decide +kernel) rfl rfl ?_
  refine dr_stab 2 rfl rfl (Val.s (val_sub rfl rfl (by simp only [kLo, kHi]; omega))) (by decide +kernel) rfl rfl ?_
  refine dr_stab 3 rfl rfl (Val.s (val_sliceH rfl rfl (by omega))) (by decide +kernel) rfl rfl ?_
  refine dr_stab 4 rfl rfl (Val.s (val_move rfl)) (by decide +kernel) rfl rfl ?_
  refine dr_stab 5 rfl rfl (Val.s (val_move rfl)) (by decide +kernel) rfl rfl ?_
  refine dr_stab 6 rfl rfl (Val.s (val_sub rfl rfl (by simp only [kLo, kHi]; omega))) (by decide +kernel) rfl rfl ?_
  refine dr_stab 7 rfl rfl (Val.s (val_index rfl rfl (by omega) (by first | (rw [Int.toNat_natCast, Nat.mul_one, Nat.zero_add]) | (rw [Int.toNat_natCast, Nat.mul_one]) | (rw [Int.toNat_natCast, Nat.zero_add]) | (rw [Int.toNat_natCast]) | exact rfl))) (by decide +kernel) rfl rfl ?_
  (apply dr_read 8; (· exact rfl); (· exact rfl); (· (first | (apply val_load; (· exact rfl); (· apply cell_of_has; (· (repeat (first | exact Has.here | apply Has.there))); (· first | exact rfl | exact nats_get _ _ _ (by omega)))) | exact val_loadA rfl (show (r2 (65535, 0)).length = 2 from rfl) (fun j v hv => by rw [Nat.zero_add]; exact RdB.cell hgl hLL hv) | exact val_loadA (vs := r2 p) rfl rfl (fun j v hv => cell_of_has (by (repeat (first | exact Has.here | apply Has.there))) (hlast j v hv)))); (· decide +kernel); (· exact rfl); (· exact rfl))
  refine dr_stab 9 rfl rfl (Val.s (val_assign rfl)) (by decide +kernel) rfl rfl ?_
  (refine dr_one 10 rfl (by decide +kernel) (by (apply le_of_picks; (repeat (first | exact Picks.nil | (apply Picks.cons; (· (repeat (first | exact Pick.here | apply Pick.there)))) | apply Picks.empty)))) ?_)
  (apply op_storeAll; (· exact rfl); (· exact rfl); (· exact rfl); (· exact r2_one _ _); (· (repeat (first | exact Swap.here | apply Swap.there))); (· exact rfl))
  refine ops_nil ?_
  refine fin_draw ?_
  (refine dr_done (by decide +kernel) (by (apply le_of_picks; (repeat (first | exact Picks.nil | (apply Picks.cons; (· (repeat (first | exact Pick.here | apply Pick.there)))) | apply Picks.empty)))) ?_)
  refine fin_code ?_
  refine run_ret ?_
  refine fin_retTC (n := 2) rfl rfl rfl (by (repeat (first | exact Has.here | apply Has.there))) rfl ?_
  intro w' g'
  refine hR _ _ (post_of g' _ ?_ rfl (by (apply le_of_picks; (repeat (first | exact Picks.nil | (apply Picks.cons; (· (repeat (first | exact Pick.here | apply Pick.there)))) | apply Picks.empty)))))
  rw [hidx]
  have e : (encR2 (S ++ [p])).take (n * 2) = encR2 S := by
    rw [encR2_snoc, List.take_append_of_le_length (by rw [encR2_len]; omega), List.take_of_length_le (by rw [encR2_len]; omega)]
  rw [e] at hcut
  exact hcut
end Go.Proofs.Eng
