/- A part of the proof: what functions of the program do, step by step. -/
import Derived.Test.YtiadbheejlhimaaXk
import Derived.Test.YtiadbheejlhimaaXl
set_option linter.unusedVariables false
set_option linter.unusedSimpArgs false
namespace Go.Proofs.Eng
open Go.RowKit
theorem op_make1E {C : Ctx} {ks : List Kont} {E : Env} {Ls : List Hp} {ops : Array Oper} {rest : List Oper} {ty : Nat} {pos : String} {af : Array Edge} {d : Nat} {x y : Operand} {t e bytes : Nat} {z : Value} [c : TSlice C.P t e 1 bytes z] {ik ik' : IntKind} {i j : Int} (n : Nat)
    (hn : Nat.blt d C.fn.ntmps = true) (hx : ev E x = some (.int ik i)) (hy : ev E y = some (.int ik' j)) (hi : i = n) (hj : j = n) (hz : z.cells = #[z]) (hb : n * bytes ≤ 281474976710656) (hb2 : n ≤ 9223372036854775807)
    (k : ∀ g, C.w0.heap.size ≤ g → Ops C ops rest ks ((d, .slice (some ⟨g, 0, none⟩) n n) :: E) ([⟨g, .cells (List.replicate n z).toArray e (0, 0)⟩] :: Ls)) :
    Ops C ops (⟨some d, .makeSlice t x y, ty, pos, af, none⟩ :: rest) ks E Ls := by
  subst hi hj
  exact op_make1 hn hx hy hz hb hb2 k
theorem op_store1E {C : Ctx} {ks : List Kont} {E : Env} {Ls Ls' : List Hp} {ops : Array Oper} {rest : List Oper} {ty : Nat} {pos : String} {af : Array Edge} {x y : Operand} {g o t : Nat} {cs cs' : Array Value} {v : Value} {lt : Nat} [TOne C.P lt] (e : cs.setIfInBounds o v = cs') (hx : ev E x = some (.pointer (some ⟨g, o, none⟩))) (hy : ev E y = some v) (h1 : v.oneCell' = true)
    (hs : Swap Ls [⟨g, .cells cs t (0, 0)⟩] [⟨g, .cells cs' t (0, 0)⟩] Ls') (ho : o < cs.size) (k : Ops C ops rest ks E Ls') : Ops C ops (⟨none, .store lt x y, ty, pos, af, none⟩ :: rest) ks E Ls := by
  subst e
  exact op_store hx hy h1 hs ho k
theorem fill_set {α : Type} (l : List α) (m : Nat) (x z : α) : (l ++ List.replicate (m + 1) z).toArray.setIfInBounds l.length x = (l ++ [x] ++ List.replicate m z).toArray := by
  apply Array.ext'
  simp [List.set_append_right, List.replicate_succ]
def rowC (D : Nat → Nat) (L k : Nat) : List Value := (List.range k).map (fun x => Value.int .i64 (D x : Nat)) ++ List.replicate (L + 1 - k) (.int .i64 0)
theorem rowC_len {D : Nat → Nat} {L k : Nat} (h : k ≤ L + 1) : (rowC D L k).length = L + 1 := by
  unfold rowC
  simp
  omega
theorem rowC_get {D : Nat → Nat} {L k j : Nat} (h : j < k) : (rowC D L k)[j]? = some (Value.int .i64 (D j : Nat)) := by
  unfold rowC
  rw [List.getElem?_append_left (by simpa using h)]
  simp [h]
theorem rowC_set {D : Nat → Nat} {L k : Nat} (h : k ≤ L) : (rowC D L k).toArray.setIfInBounds k (Value.int .i64 (D k : Nat)) = (rowC D L (k + 1)).toArray := by
  unfold rowC
  rw [show L + 1 - k = (L + 1 - (k + 1)) + 1 by omega]
  have := fill_set ((List.range k).map (fun x => Value.int .i64 (D x : Nat))) (L + 1 - (k + 1)) (Value.int .i64 (D k : Nat)) (.int .i64 0)
  rw [List.length_map, List.length_range] at this
  rw [this, List.range_succ, List.map_append]
  rfl
def outC (L n : Nat) (G : List Nat) : List Value := G.map (fun g => Value.slice (some ⟨g, 0, none⟩) (L + 1) (L + 1)) ++ List.replicate (n + 1 - G.length) (.slice none 0 0)
theorem outC_len {L n : Nat} {G : List Nat} (h : G.length ≤ n + 1) : (outC L n G).length = n + 1 := by
  unfold outC
  simp
  omega
theorem outC_get {L n : Nat} {G : List Nat} {j : Nat} (h : j < G.length) : (outC L n G)[j]? = some (Value.slice (some ⟨G[j], 0, none⟩) (L + 1) (L + 1)) := by
  unfold outC
  rw [List.getElem?_append_left (by simpa using h)]
  simp [h]
theorem outC_set {L n i g : Nat} {G : List Nat} (h : G.length = i) (hi : i ≤ n) : (outC L n G).toArray.setIfInBounds i (Value.slice (some ⟨g, 0, none⟩) (L + 1) (L + 1)) = (outC L n (G ++ [g])).toArray := by
  subst h
  unfold outC
  rw [show n + 1 - G.length = (n + 1 - (G ++ [g]).length) + 1 by simp; omega]
  have := fill_set (G.map (fun g => Value.slice (some ⟨g, 0, none⟩) (L + 1) (L + 1))) (n + 1 - (G ++ [g]).length) (Value.slice (some ⟨g, 0, none⟩) (L + 1) (L + 1)) (.slice none 0 0)
  rw [List.length_map] at this
  rw [this, List.map_append]
  rfl
/-- What the rows that are done hold. -/
def RowsOk (D : Nat → Nat → Nat) (L : Nat) (G : List Nat) (H : Hp) : Prop := ∀ w, At w H → ∀ j (h : j < G.length), Rd w w.heap.size (some ⟨G[j], 0, none⟩) (rowC (D j) L (L + 1))
theorem At.left' {w : World} {A B : Hp} (h : At w (A ++ B)) : At w A := by
  have := h.nd
  unfold ids at this
  rw [List.map_append, List.nodup_append] at this
  exact ⟨this.1, fun x hx => h.here x (List.mem_append.2 (.inl hx))⟩
theorem At.right' {w : World} {A B : Hp} (h : At w (A ++ B)) : At w B := by
  have := h.nd
  unfold ids at this
  rw [List.map_append, List.nodup_append] at this
  exact ⟨this.2.1, fun x hx => h.here x (List.mem_append.2 (.inr hx))⟩
theorem ownRow {e n g : Nat} {xs : List Value} (h : xs.length = n) (hn : n ≤ maxLen) : Own e 1 (.slice (some ⟨g, 0, none⟩) n n) n xs [⟨g, .cells xs.toArray e (0, 0)⟩] :=
  ⟨by omega, .inr ⟨g, n, xs.toArray, rfl, rfl, Nat.le_refl _, hn, by simpa using h, by subst h; simp⟩⟩
theorem RowsOk.snoc {D : Nat → Nat → Nat} {L g i : Nat} {G : List Nat} {H : Hp} (h : RowsOk D L G H) (hi : G.length = i) (hL : L ≤ 60) : RowsOk D L (G ++ [g]) ([⟨g, .cells (rowC (D i) L (L + 1)).toArray 3 (0, 0)⟩] ++ H) := by
  intro w hw j hj
  by_cases hji : j < G.length
  · rw [List.getElem_append_left hji]
    exact h w hw.right' j hji
  · have : j = G.length := by simp at hj; omega
    subst this
    subst hi
    rw [List.getElem_append_right (Nat.le_refl _)]
    simp only [Nat.sub_self, List.getElem_cons_zero]
    exact (ownRow (e := 3) (rowC_len (Nat.le_refl _)) (by simp only [maxLen]; omega)).rd hw.left'
theorem flatV (a b H : Hp) : ([a, b ++ H] : List Hp).flatten = ([a, b, H] : List Hp).flatten := by simp
set_option maxRecDepth 100000 in
set_option maxHeartbeats 32000000 in
theorem vdist_any (w : World) (A : Option Addr) (n c : Nat) (v : List Nat) (dam : Bool) (L : Nat) (hn : v.length = n) (hr : Rd w w.heap.size A (u64s v)) (hb64 : ∀ x ∈ v, x < 18446744073709551616) (hL : L ≤ 60) (hn2 : n ≤ 60) :
    Calls Try.prog 18 #[.slice A n c, .int .i64 L, .bool dam] w (Post w ([] : List Hp).flatten (fun _ : Unit => .int .i64 (Dd dam (Vb v) n L : Nat)) (fun _ => ([] : List Hp).flatten) (fun _ => True)) := by
  refine enter [] Try.func18 rfl rfl (At.nil w) (Le.refl _) ?_
  intro R hR
  obtain ⟨D, hD⟩ : ∃ D, D = Dd dam (Vb v) := ⟨_, rfl⟩
  have VS := fun (w' : World) (q m : Nat) (rowsV : List Value) (i k : Nat) => vstep_any w' q m rowsV A n c v dam i k L
  rw [← hD] at hR VS
  have hbd : ∀ i k, D i k ≤ i + k := by rw [hD]; exact D_bd
  clear hD
  refine run_seq ?_
  refine run_region rfl ?_
  refine op_assign rfl rfl ?_
  refine ops_nil ?_
  refine fin_code ?_
  refine run_seq ?_
  refine run_region rfl ?_
  refine op_move rfl rfl ?_
  refine op_len rfl rfl ?_
  refine op_add rfl rfl rfl (by simp only [kLo, kHi]; omega) ?_
  refine op_make1E (t := 79) (n + 1) rfl rfl rfl (by omega) (by omega) rfl (by omega) (by omega) ?_
  intro q _
  refine op_assign rfl rfl ?_
  refine ops_nil ?_
  refine fin_code ?_
  refine run_seq ?_
  refine run_seq ?_
  refine run_region rfl ?_
  refine op_assign rfl rfl ?_
  refine ops_nil ?_
  refine fin_code ?_
  refine run_block ?_
  refine run_loop (α := Nat × List Nat × Hp) (fun x => [(0, .slice A n c), (1, .int .i64 L), (2, .bool dam), (7, .slice (some ⟨q, 0, none⟩) (n + 1) (n + 1)), (8, .int .i64 (x.1 : Nat))])
    (fun x => [[⟨q, .cells (outC L n x.2.1).toArray 33 (0, 0)⟩], x.2.2]) (fun x => x.1 ≤ n + 1 ∧ x.2.1.length = x.1 ∧ RowsOk D L x.2.1 x.2.2) (fun x => n + 1 - x.1)
    (0, [], []) ⟨Nat.zero_le _, rfl, fun w _ j h => by cases h⟩ (by (repeat (first | exact Sub.nil _ | (refine Sub.cons rfl ?_)))) (by (apply le_of_picks; (repeat (first | exact Picks.nil | (apply Picks.cons; (· (repeat (first | exact Pick.here | apply Pick.there)))) | apply Picks.empty)))) ?_
  rintro ⟨i, G, H⟩ ⟨hi, hG0, hrows⟩
  dsimp only at hi hG0 hrows ⊢
  by_cases hin : i ≤ n
  · have hso := fun g => outC_set (L := L) (g := g) hG0 hin
    have hsz : i < (outC L n G).toArray.size := by rw [List.size_toArray, outC_len (by omega)]; omega
    refine run_seq ?_
    refine run_seq ?_
    refine run_region rfl ?_
    refine op_move rfl rfl ?_
    refine op_move rfl rfl ?_
    refine op_len rfl rfl ?_
    refine op_cmp_t rfl rfl rfl rfl (by first | (simp only [cmpP]; done) | (simp only [cmpP]; omega)) ?_
    refine ops_nil ?_
    refine fin_code ?_
    refine run_cond_t rfl ?_
    refine run_skip ?_
    refine fin_code ?_
    refine run_seq ?_
    refine run_block ?_
    refine run_seq ?_
    refine run_region rfl ?_
    refine op_move rfl rfl ?_
    refine op_move rfl rfl ?_
    refine op_move rfl rfl ?_
    refine op_add rfl rfl rfl (by simp only [kLo, kHi]; omega) ?_
    (refine op_make1E (t := 33) (L + 1) rfl rfl rfl (by omega) (by omega) rfl (by omega) (by omega) ?_; intro _ _)
    refine op_index rfl rfl rfl (by omega) (by first | (rw [Int.toNat_natCast, Nat.mul_one, Nat.zero_add]) | (rw [Int.toNat_natCast, Nat.mul_one]) | (rw [Int.toNat_natCast, Nat.zero_add]) | (rw [Int.toNat_natCast]) | exact rfl) ?_
    (apply op_store; (· exact rfl); (· exact rfl); (· exact rfl); (· (repeat (first | exact Swap.here | apply Swap.there))); (· first | decide | (simp; done) | (simp; omega) | assumption))
    refine ops_nil ?_
    refine fin_code ?_
    refine run_seq ?_
    refine run_region rfl ?_
    refine op_assign rfl rfl ?_
    refine ops_nil ?_
    refine fin_code ?_
    refine run_block ?_
    rename_i g _
    rw [hso g]
    have hG1 : (G ++ [g]).length = i + 1 := by simp [hG0]
    have hol := outC_len (L := L) (n := n) (G := G ++ [g]) (by omega)
    have hgi : (G ++ [g])[i]'(by omega) = g := by
      subst hG0
      rw [List.getElem_append_right (Nat.le_refl _)]
      simp
    have hgo1 := outC_get (L := L) (n := n) (G := G ++ [g]) (j := i) (by omega)
    rw [hgi] at hgo1
    have hgo : aget (outC L n (G ++ [g])).toArray i = some (Value.slice (some ⟨g, 0, none⟩) (L + 1) (L + 1)) := by
      rw [aget_eq, List.getElem?_toArray]
      exact hgo1
    have hold : ∀ j (h : j < G.length), (outC L n (G ++ [g]))[j]? = some (Value.slice (some ⟨G[j], 0, none⟩) (L + 1) (L + 1)) := by
      intro j h
      rw [outC_get (L := L) (n := n) (G := G ++ [g]) (j := j) (by simp; omega), List.getElem_append_left h]
    have hsn := fun H' (h : RowsOk D L G H') => h.snoc (g := g) hG0 hL
    clear hgi
    generalize G ++ [g] = G' at *
    refine run_loop (α := Nat) (fun k => [(0, .slice A n c), (1, .int .i64 L), (2, .bool dam), (7, .slice (some ⟨q, 0, none⟩) (n + 1) (n + 1)), (8, .int .i64 (i : Nat)), (9, .int .i64 (k : Nat))])
      (fun k => [[⟨g, .cells (rowC (D i) L k).toArray 3 (0, 0)⟩], [⟨q, .cells (outC L n G').toArray 33 (0, 0)⟩], H]) (fun k => k ≤ L + 1) (fun k => L + 1 - k) 0 (Nat.zero_le _) (by (repeat (first | exact Sub.nil _ | (refine Sub.cons rfl ?_)))) (by (apply le_of_picks; (repeat (first | exact Picks.nil | (apply Picks.cons; (· (repeat (first | exact Pick.here | apply Pick.there)))) | apply Picks.empty)))) ?_
    rintro k hk
    by_cases hkL : k ≤ L
    · have hsr := rowC_set (D := D i) hkL
      have hrl := rowC_len (D := D i) (L := L) hk
      have hsz2 : k < (rowC (D i) L k).toArray.size := by rw [List.size_toArray, hrl]; omega
      have hb1 := hbd i k
      refine run_seq ?_
      refine run_seq ?_
      refine run_region rfl ?_
      refine op_move rfl rfl ?_
      refine op_move rfl rfl ?_
      refine op_cmp_t rfl rfl rfl rfl (by first | (simp only [cmpP]; done) | (simp only [cmpP]; omega)) ?_
      refine ops_nil ?_
      refine fin_code ?_
      refine run_cond_t rfl ?_
      refine run_skip ?_
      refine fin_code ?_
      refine run_seq ?_
      refine run_block ?_
      refine run_drawS [[⟨q, .cells (outC L n G').toArray 33 (0, 0)⟩]] (by kernel_rfl) ?_
      refine dr_stab 0 rfl rfl (Val.s (val_move rfl)) (by decide +kernel) rfl rfl ?_
      refine dr_stab 1 rfl rfl (Val.s (val_move rfl)) (by decide +kernel) rfl rfl ?_
      refine dr_stab 2 rfl rfl (Val.s (val_index rfl rfl (by omega) (by first | (rw [Int.toNat_natCast, Nat.mul_one, Nat.zero_add]) | (rw [Int.toNat_natCast, Nat.mul_one]) | (rw [Int.toNat_natCast, Nat.zero_add]) | (rw [Int.toNat_natCast]) | exact rfl))) (by decide +kernel) rfl rfl ?_
      (apply dr_stab 3; (· exact rfl); (· exact rfl); (· apply ValAt.s; (first | (apply val_load; (· exact rfl); (· apply cell_of_has; (· (repeat (first | exact Has.here | apply Has.there))); (· first | exact hgo | exact rfl))) | fail)); (· decide +kernel); (· exact rfl); (· exact rfl))
      refine dr_stab 4 rfl rfl (Val.s (val_move rfl)) (by decide +kernel) rfl rfl ?_
      refine dr_stab 5 rfl rfl (Val.s (val_move rfl)) (by decide +kernel) rfl rfl ?_
      refine dr_stab 6 rfl rfl (Val.s (val_move rfl)) (by decide +kernel) rfl rfl ?_
      refine dr_stab 7 rfl rfl (Val.s (val_move rfl)) (by decide +kernel) rfl rfl ?_
      refine dr_stab 8 rfl rfl (Val.s (val_move rfl)) (by decide +kernel) rfl rfl ?_
      refine dr_stab 9 rfl rfl (Val.s (val_move rfl)) (by decide +kernel) rfl rfl ?_
      (refine dr_one 10 rfl (by decide +kernel) (by (apply le_of_picks; (repeat (first | exact Picks.nil | (apply Picks.cons; (· (repeat (first | exact Pick.here | apply Pick.there)))) | apply Picks.empty)))) ?_)
      ((first | (apply op_call; (· exact rfl)) | apply op_call0); (· exact rfl)); (case' hc => (refine fun w hG hw => VS w q (n + 1) (outC L n G') i k ?_ hol (by omega) hn (by omega) ?_ hb64 (by omega) hL hn2 ?_)); (case hp => (repeat (first | exact Picks.nil | (apply Picks.cons; (· (repeat (first | exact Pick.here | apply Pick.there)))) | apply Picks.empty)))
      · exact (ownRow (e := 33) hol (by simp only [maxLen]; omega)).rd (At.item hG.now (by (repeat (first | exact Pick.here | apply Pick.there))))
      · exact hr.now hG
      · intro j hj
        by_cases hji : j < i
        · exact ⟨G[j], L + 1, _, hold j (by omega), hrows w (At.item hG.now (by (repeat (first | exact Pick.here | apply Pick.there)))) j (by omega), rowC_len (Nat.le_refl _), fun k' hk' => rowC_get (by omega)⟩
        · obtain rfl : j = i := by omega
          exact ⟨g, L + 1, _, hgo1, (ownRow (e := 3) hrl (by simp only [maxLen]; omega)).rd (At.item hG.now (by (repeat (first | exact Pick.here | apply Pick.there)))), hrl, fun k' hk' => rowC_get (by omega)⟩
      intro _ _
      refine ops_nil ?_
      refine fin_draw ?_
      refine dr_stab 11 rfl rfl (Val.s (val_index rfl rfl (by omega) (by first | (rw [Int.toNat_natCast, Nat.mul_one, Nat.zero_add]) | (rw [Int.toNat_natCast, Nat.mul_one]) | (rw [Int.toNat_natCast, Nat.zero_add]) | (rw [Int.toNat_natCast]) | exact rfl))) (by decide +kernel) rfl rfl ?_
      (refine dr_one 12 rfl (by decide +kernel) (by (apply le_of_picks; (repeat (first | exact Picks.nil | (apply Picks.cons; (· (repeat (first | exact Pick.here | apply Pick.there)))) | apply Picks.empty)))) ?_)
      (apply op_store; (· exact rfl); (· exact rfl); (· exact rfl); (· (repeat (first | exact Swap.here | apply Swap.there))); (· first | decide | (simp; done) | (simp; omega) | assumption))
      refine ops_nil ?_
      refine fin_draw ?_
      (refine dr_done (by decide +kernel) (by (apply le_of_picks; (repeat (first | exact Picks.nil | (apply Picks.cons; (· (repeat (first | exact Pick.here | apply Pick.there)))) | apply Picks.empty)))) ?_)
      refine fin_block ?_
      refine fin_code ?_
      refine run_region rfl ?_
      refine op_move rfl rfl ?_
      refine op_add rfl rfl rfl (by simp only [kLo, kHi]; omega) ?_
      refine op_assign rfl rfl ?_
      refine ops_nil ?_
      rw [hsr]
      refine fin_round (k + 1) (by omega) (by (repeat (first | exact Sub.nil _ | (refine Sub.cons rfl ?_)))) (by (apply le_of_picks; (repeat (first | exact Picks.nil | (apply Picks.cons; (· (repeat (first | exact Pick.here | apply Pick.there)))) | apply Picks.empty)))) (by omega)
    · obtain rfl : k = L + 1 := by omega
      refine run_seq ?_
      refine run_seq ?_
      refine run_region rfl ?_
      refine op_move rfl rfl ?_
      refine op_move rfl rfl ?_
      refine op_cmp_f rfl rfl rfl rfl (by first | (simp only [cmpP]; done) | (simp only [cmpP]; omega)) ?_
      refine ops_nil ?_
      refine fin_code ?_
      refine run_cond_f rfl ?_
      refine run_exit ?_
      refine fin_exit_code ?_
      refine fin_exit_inv ?_
      refine fin_exit_here ?_
      refine fin_block ?_
      refine fin_code ?_
      refine run_region rfl ?_
      refine op_move rfl rfl ?_
      refine op_add rfl rfl rfl (by simp only [kLo, kHi]; omega) ?_
      refine op_assign rfl rfl ?_
      refine ops_nil ?_
      refine fin_round (i + 1, G', [⟨g, .cells (rowC (D i) L (L + 1)).toArray 3 (0, 0)⟩] ++ H) (by dsimp only; omega) (by (repeat (first | exact Sub.nil _ | (refine Sub.cons rfl ?_)))) (by dsimp only; rw [flatV]; (apply le_of_picks; (repeat (first | exact Picks.nil | (apply Picks.cons; (· (repeat (first | exact Pick.here | apply Pick.there)))) | apply Picks.empty)))) ⟨by dsimp only; omega, hG1, hsn H hrows⟩
  · obtain rfl : i = n + 1 := by omega
    have hgo1 := outC_get (L := L) (n := n) (G := G) (j := n) (by omega)
    have hgo : aget (outC L n G).toArray n = some (Value.slice (some ⟨G[n], 0, none⟩) (L + 1) (L + 1)) := by
      rw [aget_eq, List.getElem?_toArray]
      exact hgo1
    have hcf : ∀ w, At w H → w.cell? ⟨G[n], L, none⟩ = some (Value.int .i64 (D n L : Nat)) := by
      intro w hw
      obtain ⟨g, o, he, hg, hc⟩ := (hrows w hw n (by omega)).some (by rw [rowC_len (Nat.le_refl _)]; omega)
      simp only [Option.some.injEq, Addr.mk.injEq, and_true] at he
      obtain ⟨e1, rfl⟩ := he
      rw [e1]
      have := hc L _ (rowC_get (by omega))
      rwa [Nat.zero_add] at this
    refine run_seq ?_
    refine run_seq ?_
    refine run_region rfl ?_
    refine op_move rfl rfl ?_
    refine op_move rfl rfl ?_
    refine op_len rfl rfl ?_
    refine op_cmp_f rfl rfl rfl rfl (by first | (simp only [cmpP]; done) | (simp only [cmpP]; omega)) ?_
    refine ops_nil ?_
    refine fin_code ?_
    refine run_cond_f rfl ?_
    refine run_exit ?_
    refine fin_exit_code ?_
    refine fin_exit_inv ?_
    refine fin_exit_here ?_
    refine fin_code ?_
    refine run_seq ?_
    refine run_region rfl ?_
    refine op_move rfl rfl ?_
    refine op_move rfl rfl ?_
    refine op_len rfl rfl ?_
    refine op_index rfl rfl rfl (by omega) (by first | (rw [Int.toNat_natCast, Nat.mul_one, Nat.zero_add]) | (rw [Int.toNat_natCast, Nat.mul_one]) | (rw [Int.toNat_natCast, Nat.zero_add]) | (rw [Int.toNat_natCast]) | exact rfl) ?_
    (apply op_load; (· exact rfl); (· exact rfl); (· apply cell_of_has; (· (repeat (first | exact Has.here | apply Has.there))); (· first | exact hgo | exact rfl)))
    refine op_move rfl rfl ?_
    refine op_index rfl rfl rfl (by omega) (by first | (rw [Int.toNat_natCast, Nat.mul_one, Nat.zero_add]) | (rw [Int.toNat_natCast, Nat.mul_one]) | (rw [Int.toNat_natCast, Nat.zero_add]) | (rw [Int.toNat_natCast]) | exact rfl) ?_
    (apply op_load; (· exact rfl); (· exact rfl); (· exact fun w hg => hcf w (At.item hg.now (by (repeat (first | exact Pick.here | apply Pick.there))))))
    refine op_assign rfl rfl ?_
    refine ops_nil ?_
    refine fin_code ?_
    refine run_ret ?_
    refine fin_ret1 rfl rfl ?_
    intro w' g
    exact hR _ _ (post_of g () trivial rfl (by (apply le_of_picks; (repeat (first | exact Picks.nil | (apply Picks.cons; (· (repeat (first | exact Pick.here | apply Pick.there)))) | apply Picks.empty)))))
end Go.Proofs.Eng
