/- A part of the proof: what functions of the program do, step by step. -/
import Derived.Test.YtjfpcckdelocpaaDoorY3
set_option linter.unusedVariables false
set_option linter.unusedSimpArgs false
namespace Go.Proofs.Eng
open Go.RowKit
theorem op_store1E {C : Ctx} {ks : List Kont} {E : Env} {Ls Ls' : List Hp} {ops : Array Oper} {rest : List Oper} {ty : Nat} {pos : String} {af : Array Edge} {x y : Operand} {g o t : Nat} {cs cs' : Array Value} {v : Value} {lt : Nat} [TOne C.P lt] (e : cs.setIfInBounds o v = cs') (hx : ev E x = some (.pointer (some ⟨g, o, none⟩))) (hy : ev E y = some v) (h1 : v.oneCell' = true)
    (hs : Swap Ls [⟨g, .cells cs t (0, 0)⟩] [⟨g, .cells cs' t (0, 0)⟩] Ls') (ho : o < cs.size) (k : Ops C ops rest ks E Ls') : Ops C ops (⟨none, .store lt x y, ty, pos, af, none⟩ :: rest) ks E Ls := by
  subst e
  exact op_store hx hy h1 hs ho k
def ptrs (M : List Pool) (n : Nat) : List Value := (List.range n).map (ptrI M)
theorem gAt_set {M0 : List Pool} {g : Nat} {L L' : List In} (k : Nat) : gAt (M0 ++ [(g, L)]) k = gAt (M0 ++ [(g, L')]) k := by
  unfold gAt
  rw [List.getD_eq_getElem?_getD, List.getD_eq_getElem?_getD]
  rcases Nat.lt_trichotomy (k / 16) M0.length with h | h | h
  · rw [List.getElem?_append_left h, List.getElem?_append_left h]
  · rw [h, List.getElem?_append_right (Nat.le_refl _), List.getElem?_append_right (Nat.le_refl _)]
    simp
  · rw [List.getElem?_eq_none (by simp; omega), List.getElem?_eq_none (by simp; omega)]
theorem ptrs_snoc {M M0 : List Pool} {g j : Nat} {L L' l : List In} (ht : Taken M0 g L j l) (hg : ∀ k, k < l.length → gAt (M0 ++ [(g, L)]) k = gAt M k) : ptrs (M0 ++ [(g, L')]) (l.length + 1) = ptrs M l.length ++ [.pointer (some ⟨g, j * 6, none⟩)] := by
  have ha := ht.at_
  have hj := ht.j16
  unfold ptrs
  rw [List.range_succ, List.map_append]
  congr 1
  · refine List.map_congr_left fun k hk => ?_
    unfold ptrI
    rw [gAt_set (L' := L), hg k (List.mem_range.1 hk)]
  · simp only [List.map_cons, List.map_nil, ptrI]
    rw [gAt_last (by omega), show l.length % 16 = j by omega]
theorem flatP (a b : Hp) (M0 : List Pool) (x : Pool) : ([a, b, (M0 ++ [x]).map poB] : List Hp).flatten = ([a, b, M0.map poB, [poB x]] : List Hp).flatten := by simp
theorem restP_set (M0 : List Pool) (g : Nat) (L L' : List In) (r : Nat) : restP (M0 ++ [(g, L)]) r = restP (M0 ++ [(g, L')]) r := by rw [restP_snoc, restP_snoc]
/-- The compiler's state. -/
structure CoS where
  v : Value
  lr : Hp
  M : List Pool
  r : Nat
def coH (q sz : Nat) (sq sv : Value) (g1 g2 : Nat) (x : CoS) : List Hp := [coB q sz x.v (restP x.M x.r) sq sv g1 g2, x.lr, x.M.map poB]
structure CoOk (x : CoS) (l : List In) : Prop where
  pool : PoolOk x.M x.r l
  row : Own 82 1 x.v l.length (ptrs x.M l.length) x.lr
section
variable (q sz : Nat) (sq sv : Value) (g1 g2 : Nat)
set_option maxRecDepth 100000 in
theorem top_any (w : World) (A : Option Addr) (n c : Nat) (po : Value) (hn : n ≤ 1000000) (hw : At w ([coB q sz (.slice A n c) po sq sv g1 g2] : List Hp).flatten) :
    Calls Tryd.prog 56 #[.pointer (some ⟨q, 0, none⟩)] w (Post w ([coB q sz (.slice A n c) po sq sv g1 g2] : List Hp).flatten (fun _ : Unit => .int .u64 n) (fun _ => ([coB q sz (.slice A n c) po sq sv g1 g2] : List Hp).flatten) (fun _ => True)) := by
  refine enter [coB q sz (.slice A n c) po sq sv g1 g2] Tryd.func56 rfl rfl hw (Le.refl _) ?_
  intro R hR
  dsimp only [coB] at hR ⊢
  refine run_seq ?_
  refine run_region rfl ?_
  refine op_assign rfl rfl ?_
  refine ops_nil ?_
  refine fin_code ?_
  refine run_seq ?_
  refine run_region rfl ?_
  refine op_move rfl rfl ?_
  refine op_nilCheck rfl rfl ?_
  refine op_fieldAddr rfl rfl ?_
  (apply op_load; (· exact rfl); (· exact rfl); (· apply cell_of_has; (· (repeat (first | exact Has.here | apply Has.there))); (· first | exact rfl)))
  refine op_len rfl rfl ?_
  refine op_conv rfl rfl (by simp only [kLo, kHi]; omega) ?_
  refine op_assign rfl rfl ?_
  refine ops_nil ?_
  refine fin_code ?_
  refine run_ret ?_
  refine fin_ret1 rfl rfl ?_
  intro w' g
  exact hR _ _ (post_of g () trivial rfl (by (apply le_of_picks; (repeat (first | exact Picks.nil | (apply Picks.cons; (· (repeat (first | exact Pick.here | apply Pick.there)))) | apply Picks.empty)))))
set_option maxRecDepth 100000 in
set_option maxHeartbeats 8000000 in
theorem split_any (w : World) (x : CoS) (l : List In) (h : CoOk x l) (hn : l.length ≤ 900000) (hw : At w (coH q sz sq sv g1 g2 x).flatten) :
    Calls Tryd.prog 55 #[.pointer (some ⟨q, 0, none⟩)] w (Post w (coH q sz sq sv g1 g2 x).flatten (fun _ : CoS => .int .u64 l.length) (fun y => (coH q sz sq sv g1 g2 y).flatten) (fun y => CoOk y (l ++ [⟨2, 0, 0, 0, 0, 0⟩]))) := by
  obtain ⟨v, lr, M, r⟩ := x
  obtain ⟨hp, ho⟩ := h
  dsimp only at hp ho
  refine enter (coH q sz sq sv g1 g2 ⟨v, lr, M, r⟩) Tryd.func55 rfl rfl hw (Le.refl _) ?_
  intro R hR
  obtain ⟨A, c, rfl⟩ := ho.isSlice
  have hmax : (1000000 : Nat) ≤ maxLen := by decide
  have AL := fun w hw => alloc_any w q sz (.slice A l.length c) sq sv g1 g2 M r l hp hw
  dsimp only [coH] at hR ⊢
  refine run_seq ?_
  refine run_region rfl ?_
  refine op_assign rfl rfl ?_
  refine ops_nil ?_
  refine fin_code ?_
  refine run_seq ?_
  refine run_region rfl ?_
  refine op_move rfl rfl ?_
  ((first | (apply op_call; (· exact rfl)) | apply op_call0); (· exact rfl); rotate_left 1; (· exact fun w hG hw => AL w hw); rotate_right 1; (· (repeat (first | exact Picks.nil | (apply Picks.cons; (· (repeat (first | exact Pick.here | apply Pick.there)))) | apply Picks.empty))))
  rintro ⟨M0, g, L, j⟩ ⟨ht, hg⟩
  dsimp only at ht hg ⊢
  have hL := ht.len
  have hj := ht.j16
  have hst := encI_set (L := L) (j := j) (f := 0) (x := ⟨2, 0, 0, 0, 0, 0⟩) (v := .int .i64 2) (by omega) (by omega) (by rw [ht.zero]; rfl)
  have hsz : j * 6 + 0 < (encI L).toArray.size := by rw [List.size_toArray, encI_len]; omega
  have hput := ht.put ⟨2, 0, 0, 0, 0, 0⟩
  have hps := ptrs_snoc (L' := L.set j ⟨2, 0, 0, 0, 0, 0⟩) ht hg
  rw [restP_set M0 g L (L.set j ⟨2, 0, 0, 0, 0, 0⟩)]
  dsimp only [coB, poB] at hR ⊢
  refine op_assign rfl rfl ?_
  refine ops_nil ?_
  refine fin_code ?_
  refine run_seq ?_
  refine run_region rfl ?_
  refine op_move rfl rfl ?_
  refine op_nilCheck rfl rfl ?_
  refine op_fieldAddr rfl rfl ?_
  (apply op_store; (· exact rfl); (· exact rfl); (· exact rfl); (· (repeat (first | exact Swap.here | apply Swap.there))); (· first | decide | (simp; done) | (simp; omega) | assumption))
  refine ops_nil ?_
  refine fin_code ?_
  refine run_seq ?_
  refine run_region rfl ?_
  refine op_move rfl rfl ?_
  refine op_move rfl rfl ?_
  refine op_nilCheck rfl rfl ?_
  refine op_fieldAddr rfl rfl ?_
  (apply op_load; (· exact rfl); (· exact rfl); (· apply cell_of_has; (· (repeat (first | exact Has.here | apply Has.there))); (· first | exact rfl)))
  refine op_move rfl rfl ?_
  (refine op_slice1 rfl rfl (by first | rfl | simp [Value.cells]) (by decide) ?_; intro _ _)
  rw [hst]
  (apply op_append1; (· exact rfl); (· exact rfl); (· exact rfl); (· exact ho); (· (repeat (first | exact Pick.here | apply Pick.there))); (· (repeat (first | exact Has.here | apply Has.there))); (· exact rfl); (· first | exact onesC rfl | (intro u hu; simp [Value.cells] at hu; rcases hu with rfl | rfl | rfl | rfl | rfl | rfl <;> rfl) | (intro u hu; simp [Value.cells] at hu; rcases hu with rfl | rfl | rfl <;> rfl) | (intro u hu; simp [Value.cells] at hu; rcases hu with rfl | rfl <;> rfl) | (intro u hu; simp [Value.cells] at hu; subst hu; rfl)); (· omega); (· omega); (· exact rfl))
  intro v' lr' ho'
  obtain ⟨A', c', rfl⟩ := ho'.isSlice
  have TOP := fun w hw => top_any q sz sq sv g1 g2 w A' (l.length + 1) c' (restP (M0 ++ [(g, L.set j ⟨2, 0, 0, 0, 0, 0⟩)]) (j + 1)) (by omega) hw
  dsimp only [coB] at TOP
  refine op_nilCheck rfl rfl ?_
  refine op_fieldAddr rfl rfl ?_
  (apply op_store; (· exact rfl); (· exact rfl); (· exact rfl); (· (repeat (first | exact Swap.here | apply Swap.there))); (· first | decide | (simp; done) | (simp; omega) | assumption))
  refine ops_nil ?_
  refine fin_code ?_
  refine run_seq ?_
  refine run_region rfl ?_
  refine op_move rfl rfl ?_
  ((first | (apply op_call; (· exact rfl)) | apply op_call0); (· exact rfl); rotate_left 1; (· exact fun w hG hw => TOP w hw); rotate_right 1; (· (repeat (first | exact Picks.nil | (apply Picks.cons; (· (repeat (first | exact Pick.here | apply Pick.there)))) | apply Picks.empty))))
  intro _ _
  refine op_sub rfl rfl rfl (by simp only [kLo, kHi]; omega) ?_
  refine op_assign rfl rfl ?_
  refine ops_nil ?_
  refine fin_code ?_
  refine run_ret ?_
  refine fin_ret1 rfl rfl ?_
  intro w' g'
  refine hR _ _ (post_of g' ⟨.slice A' (l.length + 1) c', lr', M0 ++ [(g, L.set j ⟨2, 0, 0, 0, 0, 0⟩)], j + 1⟩ ⟨hput, ?_⟩ (by simp) (by dsimp only; rw [flatP]; dsimp only [poB]; (apply le_of_picks; (repeat (first | exact Picks.nil | (apply Picks.cons; (· (repeat (first | exact Pick.here | apply Pick.there)))) | apply Picks.empty)))))
  dsimp only
  rw [List.length_append, List.length_singleton, hps]
  simpa [Value.cells] using ho'
set_option maxRecDepth 100000 in
set_option maxHeartbeats 8000000 in
theorem jump_any (w : World) (x : CoS) (l : List In) (h : CoOk x l) (hn : l.length ≤ 900000) (hw : At w (coH q sz sq sv g1 g2 x).flatten) :
    Calls Tryd.prog 57 #[.pointer (some ⟨q, 0, none⟩)] w (Post w (coH q sz sq sv g1 g2 x).flatten (fun _ : CoS => .int .u64 l.length) (fun y => (coH q sz sq sv g1 g2 y).flatten) (fun y => CoOk y (l ++ [⟨1, 0, 0, 0, 0, 0⟩]))) := by
  obtain ⟨v, lr, M, r⟩ := x
  obtain ⟨hp, ho⟩ := h
  dsimp only at hp ho
  refine enter (coH q sz sq sv g1 g2 ⟨v, lr, M, r⟩) Tryd.func57 rfl rfl hw (Le.refl _) ?_
  intro R hR
  obtain ⟨A, c, rfl⟩ := ho.isSlice
  have hmax : (1000000 : Nat) ≤ maxLen := by decide
  have AL := fun w hw => alloc_any w q sz (.slice A l.length c) sq sv g1 g2 M r l hp hw
  dsimp only [coH] at hR ⊢
  refine run_seq ?_
  refine run_region rfl ?_
  refine op_assign rfl rfl ?_
  refine ops_nil ?_
  refine fin_code ?_
  refine run_seq ?_
  refine run_region rfl ?_
  refine op_move rfl rfl ?_
  ((first | (apply op_call; (· exact rfl)) | apply op_call0); (· exact rfl); rotate_left 1; (· exact fun w hG hw => AL w hw); rotate_right 1; (· (repeat (first | exact Picks.nil | (apply Picks.cons; (· (repeat (first | exact Pick.here | apply Pick.there)))) | apply Picks.empty))))
  rintro ⟨M0, g, L, j⟩ ⟨ht, hg⟩
  dsimp only at ht hg ⊢
  have hL := ht.len
  have hj := ht.j16
  have hst := encI_set (L := L) (j := j) (f := 0) (x := ⟨1, 0, 0, 0, 0, 0⟩) (v := .int .i64 1) (by omega) (by omega) (by rw [ht.zero]; rfl)
  have hsz : j * 6 + 0 < (encI L).toArray.size := by rw [List.size_toArray, encI_len]; omega
  have hput := ht.put ⟨1, 0, 0, 0, 0, 0⟩
  have hps := ptrs_snoc (L' := L.set j ⟨1, 0, 0, 0, 0, 0⟩) ht hg
  rw [restP_set M0 g L (L.set j ⟨1, 0, 0, 0, 0, 0⟩)]
  dsimp only [coB, poB] at hR ⊢
  refine op_assign rfl rfl ?_
  refine ops_nil ?_
  refine fin_code ?_
  refine run_seq ?_
  refine run_region rfl ?_
  refine op_move rfl rfl ?_
  refine op_nilCheck rfl rfl ?_
  refine op_fieldAddr rfl rfl ?_
  (apply op_store; (· exact rfl); (· exact rfl); (· exact rfl); (· (repeat (first | exact Swap.here | apply Swap.there))); (· first | decide | (simp; done) | (simp; omega) | assumption))
  refine ops_nil ?_
  refine fin_code ?_
  refine run_seq ?_
  refine run_region rfl ?_
  refine op_move rfl rfl ?_
  refine op_move rfl rfl ?_
  refine op_nilCheck rfl rfl ?_
  refine op_fieldAddr rfl rfl ?_
  (apply op_load; (· exact rfl); (· exact rfl); (· apply cell_of_has; (· (repeat (first | exact Has.here | apply Has.there))); (· first | exact rfl)))
  refine op_move rfl rfl ?_
  (refine op_slice1 rfl rfl (by first | rfl | simp [Value.cells]) (by decide) ?_; intro _ _)
  rw [hst]
  (apply op_append1; (· exact rfl); (· exact rfl); (· exact rfl); (· exact ho); (· (repeat (first | exact Pick.here | apply Pick.there))); (· (repeat (first | exact Has.here | apply Has.there))); (· exact rfl); (· first | exact onesC rfl | (intro u hu; simp [Value.cells] at hu; rcases hu with rfl | rfl | rfl | rfl | rfl | rfl <;> rfl) | (intro u hu; simp [Value.cells] at hu; rcases hu with rfl | rfl | rfl <;> rfl) | (intro u hu; simp [Value.cells] at hu; rcases hu with rfl | rfl <;> rfl) | (intro u hu; simp [Value.cells] at hu; subst hu; rfl)); (· omega); (· omega); (· exact rfl))
  intro v' lr' ho'
  obtain ⟨A', c', rfl⟩ := ho'.isSlice
  have TOP := fun w hw => top_any q sz sq sv g1 g2 w A' (l.length + 1) c' (restP (M0 ++ [(g, L.set j ⟨1, 0, 0, 0, 0, 0⟩)]) (j + 1)) (by omega) hw
  dsimp only [coB] at TOP
  refine op_nilCheck rfl rfl ?_
  refine op_fieldAddr rfl rfl ?_
  (apply op_store; (· exact rfl); (· exact rfl); (· exact rfl); (· (repeat (first | exact Swap.here | apply Swap.there))); (· first | decide | (simp; done) | (simp; omega) | assumption))
  refine ops_nil ?_
  refine fin_code ?_
  refine run_seq ?_
  refine run_region rfl ?_
  refine op_move rfl rfl ?_
  ((first | (apply op_call; (· exact rfl)) | apply op_call0); (· exact rfl); rotate_left 1; (· exact fun w hG hw => TOP w hw); rotate_right 1; (· (repeat (first | exact Picks.nil | (apply Picks.cons; (· (repeat (first | exact Pick.here | apply Pick.there)))) | apply Picks.empty))))
  intro _ _
  refine op_sub rfl rfl rfl (by simp only [kLo, kHi]; omega) ?_
  refine op_assign rfl rfl ?_
  refine ops_nil ?_
  refine fin_code ?_
  refine run_ret ?_
  refine fin_ret1 rfl rfl ?_
  intro w' g'
  refine hR _ _ (post_of g' ⟨.slice A' (l.length + 1) c', lr', M0 ++ [(g, L.set j ⟨1, 0, 0, 0, 0, 0⟩)], j + 1⟩ ⟨hput, ?_⟩ (by simp) (by dsimp only; rw [flatP]; dsimp only [poB]; (apply le_of_picks; (repeat (first | exact Picks.nil | (apply Picks.cons; (· (repeat (first | exact Pick.here | apply Pick.there)))) | apply Picks.empty)))))
  dsimp only
  rw [List.length_append, List.length_singleton, hps]
  simpa [Value.cells] using ho'
end
end Go.Proofs.Eng
