/- A part of the proof: what functions of the program do, step by step. -/
import Derived.Test.YtnomlnfdmoecoaaDoorNa
set_option linter.unusedVariables false
set_option linter.unusedSimpArgs false
namespace Go.Proofs.Eng
open Go.RowKit
theorem val_loadAll {C : Ctx} {E : Env} {Ls : List Hp} {ty : Nat} {pos : String} {af : Array Edge} {d : Option Nat} {gg : Option (Nat × Bool)} {x : Operand} {g t n : Nat} {cs : Array Value} {fr : Nat × Nat} {lt : Nat} [TAgg C.P lt n] (hx : ev E x = some (.pointer (some ⟨g, 0, none⟩))) (hh : Has Ls g (.cells cs t fr)) (hsz : cs.size = n) :
    ValAt C E Ls ⟨d, .load lt x, ty, pos, af, gg⟩ (.agg cs) := by
  have := val_loadN (d := d) (ty := ty) (pos := pos) (af := af) (gg := gg) (C := C) (E := E) (lt := lt) (n := n) hx hh (by omega)
  rwa [Nat.zero_add, ← hsz, Array.extract_size] at this
theorem val_sliceLow {C : Ctx} {E : Env} {ty : Nat} {pos : String} {af : Array Edge} {dd : Option Nat} {gg : Option (Nat × Bool)} {x y : Operand} {t e size bytes : Nat} {z : Value} [c : TSlice C.P t e size bytes z] {g len cap : Nat} (l : Nat) {ik : IntKind} {i : Int}
    (hx : ev E x = some (.slice (some ⟨g, 0, none⟩) len cap)) (hy : ev E y = some (.int ik i)) (hi : i = (l : Nat)) (hb : l ≤ len) :
    Val C E ⟨dd, .slice t x (some y) none none, ty, pos, af, gg⟩ (.slice (some (if cap = l then ⟨g, 0, none⟩ else ⟨g, l * size, none⟩)) (len - l) (cap - l)) := ⟨fun a f w => by
    subst hi
    obtain ⟨ii, hi, hz0, hz1, hz2⟩ := infoParts c.h2
    have h1 : (l : Int) ≤ len := by omega
    have e : (if cap = l then some (⟨g, 0, none⟩ : Addr) else (some (⟨g, 0, none⟩ : Addr)).map (·.add (l * size))) = some (if cap = l then ⟨g, 0, none⟩ else ⟨g, l * size, none⟩) := by
      split
      · rfl
      · simp [Addr.add]
        exact fun h => h.symm
    rw [← e]
    simp [execOp, f.ev hx, f.ev hy, Instr.sliceAt, Instr.slice, Instr.sliceBounds, Instr.sliceBound, asIntOf, underlying, c.h1, sizeOf, typeInfo, hi, hz1, h1, hb]⟩
theorem nsV_ones (l : List NS) : ∀ u ∈ l.flatMap nsV, u.oneCell' = true := by
  intro u hu
  obtain ⟨s, _, hs⟩ := List.mem_flatMap.1 hu
  exact nsV_one s u (by simpa using hs)
def msB (q : Nat) (v : Value) : Hp := [⟨q, .cells #[v] 67 (0, 0)⟩]
theorem Own.pre {e size n m cap g : Nat} {xs : List Value} {cur : Array Value} (h : Own e size (.slice (some ⟨g, 0, none⟩) n cap) n xs [⟨g, .cells cur e (0, 0)⟩]) (hm : m ≤ n) :
    Own e size (.slice (some ⟨g, 0, none⟩) m cap) m (xs.take (m * size)) [⟨g, .cells cur e (0, 0)⟩] := by
  have hl := h.1
  have hle : m * size ≤ n * size := Nat.mul_le_mul_right _ hm
  refine ⟨by rw [List.length_take]; omega, ?_⟩
  rcases h.2 with ⟨h1, _, _⟩ | ⟨g', cap', cur', h1, h2, h3, h4, h5, h6⟩
  · cases h1
  · simp only [Value.slice.injEq, Option.some.injEq, Addr.mk.injEq, and_true, true_and] at h1
    obtain ⟨rfl, rfl⟩ := h1
    simp only [List.cons.injEq, Blk.mk.injEq, Obj.cells.injEq, and_true, true_and] at h2
    subst h2
    exact .inr ⟨g, cap, cur, rfl, rfl, by omega, h4, h5, by rw [← h6, List.take_take, Nat.min_eq_left hle]⟩
theorem filter_take_succ {l : List NS} {k : Nat} (hk : k < l.length) (p : NS → Bool) : (l.take (k + 1)).filter p = (l.take k).filter p ++ (if p l[k] = true then [l[k]] else []) := by
  rw [List.take_succ_eq_append_getElem hk, List.filter_append]
  congr 1
  simp [List.filter_cons]
set_option maxRecDepth 100000 in
set_option maxHeartbeats 32000000 in
theorem addSt_any (w : World) (q : Nat) (v : Value) (l : List NS) (lv : Hp) (x : NS) (hov : Own 87 3 v l.length (l.flatMap nsV) lv) (hok : ∀ s ∈ l, NSok s) (hx : NSok x) (hlen : l.length ≤ 65000) (hw : At w ([msB q v, lv] : List Hp).flatten) :
    Calls Tryd.prog 32 #[.pointer (some ⟨q, 0, none⟩), .agg (nsV x).toArray] w (Post w ([msB q v, lv] : List Hp).flatten (fun _ : Value × Hp => .tuple #[]) (fun y => ([msB q y.1, y.2] : List Hp).flatten) (fun y => Own 87 3 y.1 (addSt l x).length ((addSt l x).flatMap nsV) y.2)) := by
  refine enter [msB q v, lv] Tryd.func32 rfl rfl hw (Le.refl _) ?_
  intro R hR
  dsimp only [msB] at hR ⊢
  refine run_seq ?_
  refine run_region rfl ?_
  refine op_box rfl rfl ?_
  intro b _
  rw [show (Value.agg (nsV x).toArray).cells = (nsV x).toArray by simp [Value.cells]]
  obtain ⟨A, c, rfl⟩ := hov.isSlice
  refine ops_nil ?_
  refine fin_code ?_
  refine run_seq ?_
  refine run_seq ?_
  refine run_region rfl ?_
  refine op_move rfl rfl ?_
  refine op_nilCheck rfl rfl ?_
  refine op_fieldAddr rfl rfl ?_
  (apply op_load; (· exact rfl); (· exact rfl); (· apply cell_of_has; (· (repeat (first | exact Has.here | apply Has.there))); (· first | exact rfl)))
  refine op_len rfl rfl ?_
  refine op_move rfl rfl ?_
  refine ops_nil ?_
  refine fin_code ?_
  refine run_block ?_
  refine run_join1 (α := Unit) (fun _ => [(0, .pointer (some ⟨q, 0, none⟩)), (3, .pointer (some ⟨b, 0, none⟩))]) (fun _ => [[⟨q, .cells #[.slice A l.length c] 67 (0, 0)⟩], lv, nsB b x]) (fun _ => l.any (fun s => implyB s x) = false) ?_ ?_
  rotate_left 1
  · intro J
    refine run_loop (α := Nat) (fun y => [(0, .pointer (some ⟨q, 0, none⟩)), (3, .pointer (some ⟨b, 0, none⟩)), (10, .slice A l.length c), (11, .int .i64 l.length), (12, .int .i64 (y : Nat))]) (fun _ => [[⟨q, .cells #[.slice A l.length c] 67 (0, 0)⟩], lv, nsB b x])
      (fun y => y ≤ l.length ∧ ∀ j (h : j < l.length), j < y → implyB l[j] x = false) (fun y => l.length - y) 0 ⟨Nat.zero_le _, fun j _ h => by omega⟩ (by (repeat (first | exact Sub.nil _ | (refine Sub.cons rfl ?_)))) (by dsimp only [nsB]; (apply le_of_picks; (repeat (first | exact Picks.nil | (apply Picks.cons; (· (repeat (first | exact Pick.here | apply Pick.there)))) | apply Picks.empty)))) ?_
    rintro i ⟨hil0, hall⟩
    by_cases hil : i < l.length
    · obtain ⟨g, cap, cur, hv, hl, _, _, hz, hcur, _⟩ := hov.openN (by omega)
      simp only [Value.slice.injEq] at hv
      obtain ⟨rfl, _, rfl⟩ := hv
      subst hl
      dsimp only [nsB]
      have hoi := hok _ (List.getElem_mem hil)
      refine run_seq ?_
      refine run_region rfl ?_
      refine op_cmp_t rfl rfl rfl rfl (by first | (simp only [cmpP]; done) | (simp only [cmpP]; omega)) ?_
      refine ops_nil ?_
      refine fin_code ?_
      refine run_seq ?_
      refine run_cond_t rfl ?_
      refine run_skip ?_
      refine fin_code ?_
      refine run_seq ?_
      refine run_block ?_
      refine run_seq ?_
      refine run_region rfl ?_
      refine op_index rfl rfl rfl (by omega) (by first | (rw [Int.toNat_natCast, Nat.mul_one, Nat.zero_add]) | (rw [Int.toNat_natCast, Nat.mul_one]) | (rw [Int.toNat_natCast, Nat.zero_add]) | (rw [Int.toNat_natCast]) | exact rfl) ?_
      (refine op_loadA (vs := nsV l[i]) rfl rfl rfl (fun k u hu => cell_of_has (by (repeat (first | exact Has.here | apply Has.there))) (hcur _ _ (flat_get nsV 3 (fun _ => rfl) l i hil k u hu))) ?_)
      (refine op_alloc rfl ?_; intro _ _)
      (apply op_storeAll; (· exact rfl); (· exact rfl); (· exact rfl); (· exact nsV_one _); (· (repeat (first | exact Swap.here | apply Swap.there))); (· exact rfl))
      refine ops_nil ?_
      refine fin_code ?_
      refine run_seq ?_
      refine run_region rfl ?_
      (apply op_loadAll; (· exact rfl); (· exact rfl); (· (repeat (first | exact Has.here | apply Has.there))); (· exact rfl))
      ((first | (apply op_call; (· exact rfl)) | apply op_call0); (· exact rfl); rotate_left 1; (· exact fun w hG hw => imply_any w _ l[i] x hoi hx hw); rotate_right 1; (· (repeat (first | exact Picks.nil | (apply Picks.cons; (· (repeat (first | exact Pick.here | apply Pick.there)))) | apply Picks.empty))))
      intro _ _
      cases him : implyB l[i] x with
      | true =>
        have e : addSt l x = l := by
          unfold addSt
          rw [if_pos (List.any_eq_true.2 ⟨l[i], List.getElem_mem hil, him⟩)]
        refine ops_nil ?_
        refine fin_code ?_
        refine run_cond_t rfl ?_
        refine run_ret ?_
        refine fin_ret_block ?_
        refine fin_ret_code ?_
        refine fin_ret_inv ?_
        refine fin_ret_block ?_
        refine fin_ret_code ?_
        refine fin_ret0 (.inl rfl) rfl ?_
        intro w' g'
        exact hR _ _ (post_of g' (_, _) (by rw [e]; exact hov) rfl (by dsimp only [msB]; (apply le_of_picks; (repeat (first | exact Picks.nil | (apply Picks.cons; (· (repeat (first | exact Pick.here | apply Pick.there)))) | apply Picks.empty)))))
      | false =>
        refine ops_nil ?_
        refine fin_code ?_
        refine run_cond_f rfl ?_
        refine run_skip ?_
        refine fin_block ?_
        refine fin_code ?_
        refine run_region rfl ?_
        refine op_add rfl rfl rfl (by simp only [kLo, kHi]; omega) ?_
        refine op_move rfl rfl ?_
        refine ops_nil ?_
        refine fin_round (i + 1) (by omega) (by (repeat (first | exact Sub.nil _ | (refine Sub.cons rfl ?_)))) (by dsimp only [nsB]; (apply le_of_picks; (repeat (first | exact Picks.nil | (apply Picks.cons; (· (repeat (first | exact Pick.here | apply Pick.there)))) | apply Picks.empty)))) ⟨by omega, fun j hj hji => ?_⟩
        by_cases e : j = i
        · subst e; exact him
        · exact hall j hj (by omega)
    · have J1 := J () (by
        rw [List.any_eq_false]
        intro s hs
        obtain ⟨j, hj, rfl⟩ := List.getElem_of_mem hs
        rw [hall j hj (by omega)]
        decide)
      refine run_seq ?_
      refine run_region rfl ?_
      refine op_cmp_f rfl rfl rfl rfl (by first | (simp only [cmpP]; done) | (simp only [cmpP]; omega)) ?_
      refine ops_nil ?_
      refine fin_code ?_
      refine run_seq ?_
      refine run_cond_f rfl ?_
      refine run_exit ?_
      refine fin_exit_code ?_
      refine fin_exit_inv ?_
      refine fin_exit_here ?_
      (apply J1)
      · (repeat (first | exact Sub.nil _ | (refine Sub.cons rfl ?_)))
      · (apply le_of_picks; (repeat (first | exact Picks.nil | (apply Picks.cons; (· (repeat (first | exact Pick.here | apply Pick.there)))) | apply Picks.empty)))
  rintro ⟨⟩ hany
  have hadd : addSt l x = l.filter (fun s => !implyB x s) ++ [x] := by
    unfold addSt
    rw [if_neg (by rw [hany]; decide)]
  rw [hadd] at hR
  clear hadd hany
  obtain ⟨flt, hfl⟩ : ∃ flt : Nat → List NS, flt = fun k => (l.take k).filter (fun s => !implyB x s) := ⟨_, rfl⟩
  have hflt0 : flt 0 = [] := by rw [hfl]; rfl
  have hfltl : flt l.length = l.filter (fun s => !implyB x s) := by rw [hfl]; simp
  have hflts : ∀ k (hk : k < l.length), flt (k + 1) = flt k ++ (if (!implyB x l[k]) = true then [l[k]] else []) := fun k hk => by rw [hfl]; exact filter_take_succ hk _
  have hfltn : ∀ k, (flt k).length ≤ k := fun k => by
    rw [hfl]
    refine Nat.le_trans (List.length_filter_le _ _) ?_
    rw [List.length_take]
    omega
  clear hfl
  rw [← hfltl] at hR
  dsimp only [nsB]
  refine fin_code ?_
  refine run_seq ?_
  refine run_region rfl ?_
  refine op_assign rfl rfl ?_
  refine ops_nil ?_
  refine fin_code ?_
  refine run_seq ?_
  refine run_block ?_
  refine run_join1 (α := Value × Hp) (fun _ => [(0, .pointer (some ⟨q, 0, none⟩)), (3, .pointer (some ⟨b, 0, none⟩))]) (fun y => [[⟨q, .cells #[y.1] 67 (0, 0)⟩], y.2, nsB b x]) (fun y => Own 87 3 y.1 (flt l.length).length ((flt l.length).flatMap nsV) y.2) ?_ ?_
  rotate_left 1
  · intro J
    refine run_loop (α := Nat × Value × Hp) (fun y => [(0, .pointer (some ⟨q, 0, none⟩)), (3, .pointer (some ⟨b, 0, none⟩)), (6, .int .i64 ((flt y.1).length : Nat))]) (fun y => [[⟨q, .cells #[y.2.1] 67 (0, 0)⟩], y.2.2, nsB b x])
      (fun y => y.1 ≤ l.length ∧ Own 87 3 y.2.1 (flt y.1 ++ l.drop y.1).length ((flt y.1 ++ l.drop y.1).flatMap nsV) y.2.2) (fun y => l.length - y.1) (0, .slice A l.length c, lv) ⟨Nat.zero_le _, by dsimp only; rw [hflt0]; exact hov⟩ (by dsimp only; rw [hflt0]; (repeat (first | exact Sub.nil _ | (refine Sub.cons rfl ?_)))) (by dsimp only [nsB]; (apply le_of_picks; (repeat (first | exact Picks.nil | (apply Picks.cons; (· (repeat (first | exact Pick.here | apply Pick.there)))) | apply Picks.empty)))) ?_
    clear hov
    rintro ⟨k, v, lv⟩ ⟨hkl, hov⟩
    dsimp only at hkl hov ⊢
    have hlen2 : (flt k ++ l.drop k).length = (flt k).length + (l.length - k) := by simp
    have hn := hfltn k
    by_cases hk : k < l.length
    · obtain ⟨g, cap, cur, rfl, rfl, hnc, hcm, hz, hcur, hxl⟩ := hov.openN (by omega)
      have hoi := hok _ (List.getElem_mem hk)
      have hfl := hflts k hk
      obtain ⟨i, hi⟩ : ∃ i, (flt k).length = i := ⟨_, rfl⟩
      have hdr : l.drop k = l[k] :: l.drop (k + 1) := List.drop_eq_getElem_cons hk
      have hget : ∀ (j : Nat) u, (nsV l[k])[j]? = some u → ((flt k ++ l.drop k).flatMap nsV)[i * 3 + j]? = some u := by
        intro j u hu
        have hik : i < (flt k ++ l.drop k).length := by omega
        refine flat_get nsV 3 (fun _ => rfl) _ i hik j u ?_
        have : (flt k ++ l.drop k)[i] = l[k] := by
          rw [List.getElem_append_right (by omega)]
          simp [hi]
        rw [this]
        exact hu
      rw [hi]
      dsimp only [nsB]
      refine run_seq ?_
      refine run_seq ?_
      refine run_region rfl ?_
      refine op_move rfl rfl ?_
      refine op_move rfl rfl ?_
      refine op_nilCheck rfl rfl ?_
      refine op_fieldAddr rfl rfl ?_
      (apply op_load; (· exact rfl); (· exact rfl); (· apply cell_of_has; (· (repeat (first | exact Has.here | apply Has.there))); (· first | exact rfl)))
      refine op_len rfl rfl ?_
      refine op_cmp_t rfl rfl rfl rfl (by first | (simp only [cmpP]; done) | (simp only [cmpP]; omega)) ?_
      refine ops_nil ?_
      refine fin_code ?_
      refine run_cond_t rfl ?_
      refine run_skip ?_
      refine fin_code ?_
      refine run_block ?_
      refine run_seq ?_
      refine run_region rfl ?_
      refine op_move rfl rfl ?_
      refine op_nilCheck rfl rfl ?_
      refine op_fieldAddr rfl rfl ?_
      (apply op_load; (· exact rfl); (· exact rfl); (· apply cell_of_has; (· (repeat (first | exact Has.here | apply Has.there))); (· first | exact rfl)))
      refine op_move rfl rfl ?_
      refine op_index rfl rfl rfl (by omega) (by first | (rw [Int.toNat_natCast, Nat.mul_one, Nat.zero_add]) | (rw [Int.toNat_natCast, Nat.mul_one]) | (rw [Int.toNat_natCast, Nat.zero_add]) | (rw [Int.toNat_natCast]) | exact rfl) ?_
      (refine op_loadA (vs := nsV l[k]) rfl rfl rfl (fun k' u hu => cell_of_has (by (repeat (first | exact Has.here | apply Has.there))) (hcur _ _ (hget k' u hu))) ?_)
      ((first | (apply op_call; (· exact rfl)) | apply op_call0); (· exact rfl); rotate_left 1; (· exact fun w hG hw => imply_any w _ x l[k] hx hoi hw); rotate_right 1; (· (repeat (first | exact Picks.nil | (apply Picks.cons; (· (repeat (first | exact Pick.here | apply Pick.there)))) | apply Picks.empty))))
      intro _ _
      cases him : implyB x l[k] with
      | true =>
        have hflt : flt (k + 1) = flt k := by rw [hfl, him]; simp
        have hpre := hov.pre (m := i) (by omega)
        have hnews : ∀ (j : Nat) u, ((l.drop (k + 1)).flatMap nsV)[j]? = some u → aget cur ((i + 1) * 3 + j) = some u := by
          intro j u hu
          refine hcur _ _ ?_
          have hA : ((flt k ++ [l[k]]).flatMap nsV).length = (i + 1) * 3 := by rw [flat_len nsV 3 (fun _ => rfl)]; simp [hi]
          rw [hdr, show flt k ++ l[k] :: l.drop (k + 1) = (flt k ++ [l[k]]) ++ l.drop (k + 1) by simp, List.flatMap_append, List.getElem?_append_right (by omega), hA, Nat.add_sub_cancel_left]
          exact hu
        have htk : ((flt k ++ l.drop k).flatMap nsV).take (i * 3) = (flt k).flatMap nsV := by
          have hA : ((flt k).flatMap nsV).length = i * 3 := by rw [flat_len nsV 3 (fun _ => rfl), hi]
          rw [List.flatMap_append, ← hA, List.take_left]
        rw [htk] at hpre
        have hnl : ((l.drop (k + 1)).flatMap nsV).length = ((flt k ++ l.drop k).length - (i + 1)) * 3 := by
          rw [flat_len nsV 3 (fun _ => rfl), List.length_drop, hlen2]
          congr 1
          omega
        have hcap : ∀ (j : Nat) u, ((l.drop (k + 1)).flatMap nsV)[j]? = some u → ¬ cap = i + 1 := by
          intro j u hu e
          have h1 := (List.getElem?_eq_some_iff.1 hu).1
          rw [hnl] at h1
          omega
        have hlen3 : i + ((flt k ++ l.drop k).length - (i + 1)) = (flt (k + 1) ++ l.drop (k + 1)).length := by
          rw [hlen2, hflt, List.length_append, List.length_drop]
          omega
        have hcells : (flt k).flatMap nsV ++ (l.drop (k + 1)).flatMap nsV = (flt (k + 1) ++ l.drop (k + 1)).flatMap nsV := by rw [hflt, List.flatMap_append]
        refine ops_nil ?_
        refine fin_code ?_
        refine run_cond_t rfl ?_
        refine run_drawS [nsB b x] (by kernel_rfl) ?_
        refine dr_stab 0 rfl rfl (Val.s (val_move rfl)) (by decide +kernel) rfl rfl ?_
        refine dr_stab 1 rfl rfl (Val.s (val_move rfl)) (by decide +kernel) rfl rfl ?_
        refine dr_stab 2 rfl rfl (Val.s (val_nilCheck rfl)) (by decide +kernel) rfl rfl ?_
        refine dr_stab 3 rfl rfl (Val.s (val_fieldAddr rfl)) (by decide +kernel) rfl rfl ?_
        refine dr_stab 5 rfl rfl (Val.s (val_move rfl)) (by decide +kernel) rfl rfl ?_
        refine dr_stab 7 rfl rfl (Val.s (val_move rfl)) (by decide +kernel) rfl rfl ?_
        refine dr_stab 8 rfl rfl (Val.s (val_nilCheck rfl)) (by decide +kernel) rfl rfl ?_
        refine dr_stab 9 rfl rfl (Val.s (val_fieldAddr rfl)) (by decide +kernel) rfl rfl ?_
        refine dr_stab 11 rfl rfl (Val.s (val_move rfl)) (by decide +kernel) rfl rfl ?_
        refine dr_stab 12 rfl rfl (Val.s (val_add rfl rfl (by simp only [kLo, kHi]; omega))) (by decide +kernel) rfl rfl ?_
        refine dr_two 4 10 rfl rfl (by decide +kernel) (by dsimp only [nsB]; (apply le_of_picks; (repeat (first | exact Picks.nil | (apply Picks.cons; (· (repeat (first | exact Pick.here | apply Pick.there)))) | apply Picks.empty)))) ?_ ?_
        · (apply op_load; (· exact rfl); (· exact rfl); (· apply cell_of_has; (· (repeat (first | exact Has.here | apply Has.there))); (· first | exact rfl)))
          refine ops_nil ?_
          refine fin_draw ?_
          refine dr_stab 6 rfl rfl (Val.s (val_sliceH rfl rfl (by omega))) (by decide +kernel) rfl rfl ?_
          (refine dr_one 10 rfl (by decide +kernel) (by dsimp only [nsB]; (apply le_of_picks; (repeat (first | exact Picks.nil | (apply Picks.cons; (· (repeat (first | exact Pick.here | apply Pick.there)))) | apply Picks.empty)))) ?_)
          (apply op_load; (· exact rfl); (· exact rfl); (· apply cell_of_has; (· (repeat (first | exact Has.here | apply Has.there))); (· first | exact rfl)))
          refine ops_nil ?_
          refine fin_draw ?_
          (apply dr_stab 13; (· exact rfl); (· exact rfl); (· apply Val.s; first | first | exact val_sliceH rfl rfl (by omega) | exact val_sliceLow (i + 1) rfl rfl (by omega) (by omega)); (· decide +kernel); (· exact rfl); (· exact rfl))
          (refine dr_one 14 rfl (by decide +kernel) (by (apply le_of_picks; (repeat (first | exact Picks.nil | (apply Picks.cons; (· (repeat (first | exact Pick.here | apply Pick.there)))) | apply Picks.empty)))) ?_)
          (refine op_append (m := (flt k ++ l.drop k).length - (i + 1)) (news := (l.drop (k + 1)).flatMap nsV) (R := [nsB b x, [⟨q, .cells #[.slice (some ⟨g, 0, none⟩) (flt k ++ l.drop k).length cap] 67 (0, 0)⟩]]) rfl rfl rfl hpre ?hp hnl (nsV_ones _) ?hs (by simp only [maxLen]; omega) (by omega) rfl ?_)
          case hp => (repeat (first | exact Pick.here | apply Pick.there))
          case hs => exact fun j u hu => by rw [if_neg (hcap j u hu), add_addr]; apply cell_of_has; (· (repeat (first | exact Has.here | apply Has.there))); (· exact hnews j u hu)
          intro v' l' ho'
          rw [hlen3, hcells] at ho'
          obtain ⟨A2, c2, rfl⟩ := ho'.isSlice
          refine ops_nil ?_
          refine fin_draw ?_
          refine dr_stab 15 rfl rfl (Val.s (val_nilCheck rfl)) (by decide +kernel) rfl rfl ?_
          refine dr_stab 16 rfl rfl (Val.s (val_fieldAddr rfl)) (by decide +kernel) rfl rfl ?_
          (refine dr_one 17 rfl (by decide +kernel) (by (apply le_of_picks; (repeat (first | exact Picks.nil | (apply Picks.cons; (· (repeat (first | exact Pick.here | apply Pick.there)))) | apply Picks.empty)))) ?_)
          (apply op_store; (· exact rfl); (· exact rfl); (· exact rfl); (· (repeat (first | exact Swap.here | apply Swap.there))); (· first | decide | (simp; done) | (simp; omega) | assumption))
          refine ops_nil ?_
          refine fin_draw ?_
          (refine dr_done (by decide +kernel) (by (apply le_of_picks; (repeat (first | exact Picks.nil | (apply Picks.cons; (· (repeat (first | exact Pick.here | apply Pick.there)))) | apply Picks.empty)))) ?_)
          refine fin_block ?_
          refine fin_round (k + 1, _, l') (by dsimp only; omega) (by dsimp only; rw [hflt, hi]; (repeat (first | exact Sub.nil _ | (refine Sub.cons rfl ?_)))) (by dsimp only [nsB]; (apply le_of_picks; (repeat (first | exact Picks.nil | (apply Picks.cons; (· (repeat (first | exact Pick.here | apply Pick.there)))) | apply Picks.empty)))) ⟨by dsimp only; omega, ho'⟩
        · (apply op_load; (· exact rfl); (· exact rfl); (· apply cell_of_has; (· (repeat (first | exact Has.here | apply Has.there))); (· first | exact rfl)))
          refine ops_nil ?_
          refine fin_draw ?_
          (apply dr_stab 13; (· exact rfl); (· exact rfl); (· apply Val.s; first | first | exact val_sliceH rfl rfl (by omega) | exact val_sliceLow (i + 1) rfl rfl (by omega) (by omega)); (· decide +kernel); (· exact rfl); (· exact rfl))
          (refine dr_one 4 rfl (by decide +kernel) (by dsimp only [nsB]; (apply le_of_picks; (repeat (first | exact Picks.nil | (apply Picks.cons; (· (repeat (first | exact Pick.here | apply Pick.there)))) | apply Picks.empty)))) ?_)
          (apply op_load; (· exact rfl); (· exact rfl); (· apply cell_of_has; (· (repeat (first | exact Has.here | apply Has.there))); (· first | exact rfl)))
          refine ops_nil ?_
          refine fin_draw ?_
          refine dr_stab 6 rfl rfl (Val.s (val_sliceH rfl rfl (by omega))) (by decide +kernel) rfl rfl ?_
          (refine dr_one 14 rfl (by decide +kernel) (by (apply le_of_picks; (repeat (first | exact Picks.nil | (apply Picks.cons; (· (repeat (first | exact Pick.here | apply Pick.there)))) | apply Picks.empty)))) ?_)
          (refine op_append (m := (flt k ++ l.drop k).length - (i + 1)) (news := (l.drop (k + 1)).flatMap nsV) (R := [nsB b x, [⟨q, .cells #[.slice (some ⟨g, 0, none⟩) (flt k ++ l.drop k).length cap] 67 (0, 0)⟩]]) rfl rfl rfl hpre ?hp hnl (nsV_ones _) ?hs (by simp only [maxLen]; omega) (by omega) rfl ?_)
          case hp => (repeat (first | exact Pick.here | apply Pick.there))
          case hs => exact fun j u hu => by rw [if_neg (hcap j u hu), add_addr]; apply cell_of_has; (· (repeat (first | exact Has.here | apply Has.there))); (· exact hnews j u hu)
          intro v' l' ho'
          rw [hlen3, hcells] at ho'
          obtain ⟨A2, c2, rfl⟩ := ho'.isSlice
          refine ops_nil ?_
          refine fin_draw ?_
          refine dr_stab 15 rfl rfl (Val.s (val_nilCheck rfl)) (by decide +kernel) rfl rfl ?_
          refine dr_stab 16 rfl rfl (Val.s (val_fieldAddr rfl)) (by decide +kernel) rfl rfl ?_
          (refine dr_one 17 rfl (by decide +kernel) (by (apply le_of_picks; (repeat (first | exact Picks.nil | (apply Picks.cons; (· (repeat (first | exact Pick.here | apply Pick.there)))) | apply Picks.empty)))) ?_)
          (apply op_store; (· exact rfl); (· exact rfl); (· exact rfl); (· (repeat (first | exact Swap.here | apply Swap.there))); (· first | decide | (simp; done) | (simp; omega) | assumption))
          refine ops_nil ?_
          refine fin_draw ?_
          (refine dr_done (by decide +kernel) (by (apply le_of_picks; (repeat (first | exact Picks.nil | (apply Picks.cons; (· (repeat (first | exact Pick.here | apply Pick.there)))) | apply Picks.empty)))) ?_)
          refine fin_block ?_
          refine fin_round (k + 1, _, l') (by dsimp only; omega) (by dsimp only; rw [hflt, hi]; (repeat (first | exact Sub.nil _ | (refine Sub.cons rfl ?_)))) (by dsimp only [nsB]; (apply le_of_picks; (repeat (first | exact Picks.nil | (apply Picks.cons; (· (repeat (first | exact Pick.here | apply Pick.there)))) | apply Picks.empty)))) ⟨by dsimp only; omega, ho'⟩
      | false =>
        have hflt : flt (k + 1) = flt k ++ [l[k]] := by rw [hfl, him]; simp
        have ho' : Own 87 3 (.slice (some ⟨g, 0, none⟩) (flt k ++ l.drop k).length cap) (flt (k + 1) ++ l.drop (k + 1)).length ((flt (k + 1) ++ l.drop (k + 1)).flatMap nsV) [⟨g, .cells cur 87 (0, 0)⟩] := by
          have e : flt (k + 1) ++ l.drop (k + 1) = flt k ++ l.drop k := by rw [hflt, hdr]; simp
          rw [e]
          exact hov
        refine ops_nil ?_
        refine fin_code ?_
        refine run_cond_f rfl ?_
        refine run_region rfl ?_
        refine op_move rfl rfl ?_
        refine op_add rfl rfl rfl (by simp only [kLo, kHi]; omega) ?_
        refine op_assign rfl rfl ?_
        refine ops_nil ?_
        refine fin_block ?_
        refine fin_round (k + 1, _, _) (by dsimp only; omega) (by dsimp only; rw [hflt, List.length_append, hi, Int.natCast_add]; (repeat (first | exact Sub.nil _ | (refine Sub.cons rfl ?_)))) (by dsimp only [nsB]; (apply le_of_picks; (repeat (first | exact Picks.nil | (apply Picks.cons; (· (repeat (first | exact Pick.here | apply Pick.there)))) | apply Picks.empty)))) ⟨by dsimp only; omega, ho'⟩
    · obtain rfl : k = l.length := by omega
      rw [List.drop_length, List.append_nil] at hov
      have J1 := J (v, lv) hov
      obtain ⟨A2, c2, rfl⟩ := hov.isSlice
      refine run_seq ?_
      refine run_seq ?_
      refine run_region rfl ?_
      refine op_move rfl rfl ?_
      refine op_move rfl rfl ?_
      refine op_nilCheck rfl rfl ?_
      refine op_fieldAddr rfl rfl ?_
      (apply op_load; (· exact rfl); (· exact rfl); (· apply cell_of_has; (· (repeat (first | exact Has.here | apply Has.there))); (· first | exact rfl)))
      refine op_len rfl rfl ?_
      refine op_cmp_f rfl rfl rfl rfl (by first | (simp only [cmpP]; done) | (simp only [cmpP]; omega)) ?_
      refine ops_nil ?_
      refine fin_code ?_
      refine run_cond_f rfl ?_
      refine run_exit ?_
      refine fin_exit_code ?_
      refine fin_exit_inv ?_
      refine fin_exit_here ?_
      (apply J1)
      · (repeat (first | exact Sub.nil _ | (refine Sub.cons rfl ?_)))
      · (apply le_of_picks; (repeat (first | exact Picks.nil | (apply Picks.cons; (· (repeat (first | exact Pick.here | apply Pick.there)))) | apply Picks.empty)))
  rintro ⟨v2, lv2⟩ hov2
  dsimp only at hov2 ⊢
  have hn := hfltn l.length
  generalize flt l.length = l2 at *
  dsimp only [nsB]
  obtain ⟨A3, c3, rfl⟩ := hov2.isSlice
  refine fin_code ?_
  refine run_drawS [nsB b x] (by kernel_rfl) ?_
  refine dr_stab 0 rfl rfl (Val.s (val_move rfl)) (by decide +kernel) rfl rfl ?_
  refine dr_stab 1 rfl rfl (Val.s (val_move rfl)) (by decide +kernel) rfl rfl ?_
  refine dr_stab 2 rfl rfl (Val.s (val_nilCheck rfl)) (by decide +kernel) rfl rfl ?_
  refine dr_stab 3 rfl rfl (Val.s (val_fieldAddr rfl)) (by decide +kernel) rfl rfl ?_
  (apply dr_stab 5; (· exact rfl); (· exact rfl); (· apply ValAt.s; (first | (apply val_load; (· exact rfl); (· apply cell_of_has; (· (repeat (first | exact Has.here | apply Has.there))); (· first | exact rfl))) | (apply val_loadAll; (· exact rfl); (· (repeat (first | exact Has.here | apply Has.there))); (· exact rfl)))); (· decide +kernel); (· exact rfl); (· exact rfl))
  refine dr_two 4 6 rfl rfl (by decide +kernel) (by dsimp only [nsB]; (apply le_of_picks; (repeat (first | exact Picks.nil | (apply Picks.cons; (· (repeat (first | exact Pick.here | apply Pick.there)))) | apply Picks.empty)))) ?_ ?_
  · (apply op_load; (· exact rfl); (· exact rfl); (· apply cell_of_has; (· (repeat (first | exact Has.here | apply Has.there))); (· first | exact rfl)))
    refine ops_nil ?_
    refine fin_draw ?_
    (refine dr_one 6 rfl (by decide +kernel) (by dsimp only [nsB]; (apply le_of_picks; (repeat (first | exact Picks.nil | (apply Picks.cons; (· (repeat (first | exact Pick.here | apply Pick.there)))) | apply Picks.empty)))) ?_)
    (refine op_slice1 rfl rfl (by first | rfl | simp [Value.cells] | simp [Value.cells, nsV]) (by decide) ?_; intro _ _)
    refine ops_nil ?_
    refine fin_draw ?_
    (refine dr_one 7 rfl (by decide +kernel) (by dsimp only [nsB]; (apply le_of_picks; (repeat (first | exact Picks.nil | (apply Picks.cons; (· (repeat (first | exact Pick.here | apply Pick.there)))) | apply Picks.empty)))) ?_)
    (apply op_append1; (· exact rfl); (· exact rfl); (· exact rfl); (· exact hov2); (· (repeat (first | exact Pick.here | apply Pick.there))); (· (repeat (first | exact Has.here | apply Has.there))); (· exact rfl); (· first | exact onesC rfl | (intro u hu; simp [Value.cells, nsV] at hu; rcases hu with rfl | rfl | rfl <;> rfl)); (· omega); (· omega); (· exact rfl))
    intro v' l' ho'
    have hcells : l2.flatMap nsV ++ (Value.agg (nsV x).toArray).cells.toList = (l2 ++ [x]).flatMap nsV := by simp [Value.cells]
    rw [hcells, show l2.length + 1 = (l2 ++ [x]).length by simp] at ho'
    obtain ⟨A2, c2, rfl⟩ := ho'.isSlice
    refine ops_nil ?_
    refine fin_draw ?_
    refine dr_stab 8 rfl rfl (Val.s (val_nilCheck rfl)) (by decide +kernel) rfl rfl ?_
    refine dr_stab 9 rfl rfl (Val.s (val_fieldAddr rfl)) (by decide +kernel) rfl rfl ?_
    (refine dr_one 10 rfl (by decide +kernel) (by (apply le_of_picks; (repeat (first | exact Picks.nil | (apply Picks.cons; (· (repeat (first | exact Pick.here | apply Pick.there)))) | apply Picks.empty)))) ?_)
    (apply op_store; (· exact rfl); (· exact rfl); (· exact rfl); (· (repeat (first | exact Swap.here | apply Swap.there))); (· first | decide | (simp; done) | (simp; omega) | assumption))
    refine ops_nil ?_
    refine fin_draw ?_
    (refine dr_done (by decide +kernel) (by (apply le_of_picks; (repeat (first | exact Picks.nil | (apply Picks.cons; (· (repeat (first | exact Pick.here | apply Pick.there)))) | apply Picks.empty)))) ?_)
    skip
    refine fin_ret0 (.inr rfl) rfl ?_
    intro w' g'
    exact hR _ _ (post_of g' (_, l') ho' rfl (by dsimp only [msB]; (apply le_of_picks; (repeat (first | exact Picks.nil | (apply Picks.cons; (· (repeat (first | exact Pick.here | apply Pick.there)))) | apply Picks.empty)))))
  · (refine op_slice1 rfl rfl (by first | rfl | simp [Value.cells] | simp [Value.cells, nsV]) (by decide) ?_; intro _ _)
    refine ops_nil ?_
    refine fin_draw ?_
    (refine dr_one 4 rfl (by decide +kernel) (by dsimp only [nsB]; (apply le_of_picks; (repeat (first | exact Picks.nil | (apply Picks.cons; (· (repeat (first | exact Pick.here | apply Pick.there)))) | apply Picks.empty)))) ?_)
    (apply op_load; (· exact rfl); (· exact rfl); (· apply cell_of_has; (· (repeat (first | exact Has.here | apply Has.there))); (· first | exact rfl)))
    refine ops_nil ?_
    refine fin_draw ?_
    (refine dr_one 7 rfl (by decide +kernel) (by dsimp only [nsB]; (apply le_of_picks; (repeat (first | exact Picks.nil | (apply Picks.cons; (· (repeat (first | exact Pick.here | apply Pick.there)))) | apply Picks.empty)))) ?_)
    (apply op_append1; (· exact rfl); (· exact rfl); (· exact rfl); (· exact hov2); (· (repeat (first | exact Pick.here | apply Pick.there))); (· (repeat (first | exact Has.here | apply Has.there))); (· exact rfl); (· first | exact onesC rfl | (intro u hu; simp [Value.cells, nsV] at hu; rcases hu with rfl | rfl | rfl <;> rfl)); (· omega); (· omega); (· exact rfl))
    intro v' l' ho'
    have hcells : l2.flatMap nsV ++ (Value.agg (nsV x).toArray).cells.toList = (l2 ++ [x]).flatMap nsV := by simp [Value.cells]
    rw [hcells, show l2.length + 1 = (l2 ++ [x]).length by simp] at ho'
    obtain ⟨A2, c2, rfl⟩ := ho'.isSlice
    refine ops_nil ?_
    refine fin_draw ?_
    refine dr_stab 8 rfl rfl (Val.s (val_nilCheck rfl)) (by decide +kernel) rfl rfl ?_
    refine dr_stab 9 rfl rfl (Val.s (val_fieldAddr rfl)) (by decide +kernel) rfl rfl ?_
    (refine dr_one 10 rfl (by decide +kernel) (by (apply le_of_picks; (repeat (first | exact Picks.nil | (apply Picks.cons; (· (repeat (first | exact Pick.here | apply Pick.there)))) | apply Picks.empty)))) ?_)
    (apply op_store; (· exact rfl); (· exact rfl); (· exact rfl); (· (repeat (first | exact Swap.here | apply Swap.there))); (· first | decide | (simp; done) | (simp; omega) | assumption))
    refine ops_nil ?_
    refine fin_draw ?_
    (refine dr_done (by decide +kernel) (by (apply le_of_picks; (repeat (first | exact Picks.nil | (apply Picks.cons; (· (repeat (first | exact Pick.here | apply Pick.there)))) | apply Picks.empty)))) ?_)
    skip
    refine fin_ret0 (.inr rfl) rfl ?_
    intro w' g'
    exact hR _ _ (post_of g' (_, l') ho' rfl (by dsimp only [msB]; (apply le_of_picks; (repeat (first | exact Picks.nil | (apply Picks.cons; (· (repeat (first | exact Pick.here | apply Pick.there)))) | apply Picks.empty)))))
end Go.Proofs.Eng
