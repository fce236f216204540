/- A part of the proof: what functions of the program do, step by step. -/
import Derived.Test.YtiadbheejlhimaaWb
set_option linter.unusedVariables false
set_option linter.unusedSimpArgs false
namespace Go.Proofs.Eng
open Go.RowKit
theorem val_remE {C : Ctx} {E : Env} {ty : Nat} {pos : String} {af : Array Edge} {d : Option Nat} {gg : Option (Nat × Bool)} {bt bt' : Nat} {x y : Operand} {ik : IntKind} {m n r : Int} (hx : ev E x = some (.int ik m)) (hy : ev E y = some (.int ik n)) (h : n ≠ 0) (hr : m.tmod n = r) :
    Val C E ⟨d, .binOp .rem bt x y bt', ty, pos, af, gg⟩ (.int ik r) := by
  subst hr
  exact val_rem hx hy h
theorem op_remE {C : Ctx} {ks : List Kont} {E : Env} {Ls : List Hp} {ops : Array Oper} {rest : List Oper} {ty : Nat} {pos : String} {af : Array Edge} {d bt bt' : Nat} {x y : Operand} {ik : IntKind} {m n r : Int}
    (hx : ev E x = some (.int ik m)) (hy : ev E y = some (.int ik n)) (h : n ≠ 0) (hr : m.tmod n = r) (hn : Nat.blt d C.fn.ntmps = true) (k : Ops C ops rest ks ((d, .int ik r) :: E) Ls) : Ops C ops (⟨some d, .binOp .rem bt x y bt', ty, pos, af, none⟩ :: rest) ks E Ls := by
  subst hr
  exact op_rem hn hx hy h k
theorem val_loadAll {C : Ctx} {E : Env} {Ls : List Hp} {ty : Nat} {pos : String} {af : Array Edge} {d : Option Nat} {gg : Option (Nat × Bool)} {x : Operand} {g t n : Nat} {cs : Array Value} {fr : Nat × Nat} {lt : Nat} [TAgg C.P lt n] (hx : ev E x = some (.pointer (some ⟨g, 0, none⟩))) (hh : Has Ls g (.cells cs t fr)) (hsz : cs.size = n) :
    ValAt C E Ls ⟨d, .load lt x, ty, pos, af, gg⟩ (.agg cs) := by
  have := val_loadN (d := d) (ty := ty) (pos := pos) (af := af) (gg := gg) (C := C) (E := E) (lt := lt) (n := n) hx hh (by omega)
  rwa [Nat.zero_add, ← hsz, Array.extract_size] at this
def zeroM : LStM := ⟨⟨0, [], 0, false⟩, none, 0⟩
theorem zerosL (n : Nat) : (Array.range (n * 4)).map (fun i => (Value.agg #[.int .i64 0, .slice none 0 0, .int .u8 0, .bool false]).cells[i % 4]!) = ((List.replicate n zeroM).flatMap lstV).toArray := by
  have e := zeros_flat n 4 (by omega) (lstV zeroM) rfl
  have e2 : (Value.agg #[.int .i64 0, .slice none 0 0, .int .u8 0, .bool false]).cells = (lstV zeroM).toArray := by simp [Value.cells, lstV, zeroM]
  rw [e2, e]
  clear e e2
  congr 1
  induction n with
  | zero => rfl
  | succ n ih => rw [List.replicate_succ, List.replicate_succ, List.flatten_cons, List.flatMap_cons, ih]
/-- What the inner slices of some states hold. -/
def InnerOk (T : List LStM) (H : Hp) : Prop := ∀ w, At w H → ∀ s ∈ T, Rd w w.heap.size s.A (s.st.arcs.flatMap larV)
theorem At.left {w : World} {A B : Hp} (h : At w (A ++ B)) : At w A := by
  have := h.nd
  unfold ids at this
  rw [List.map_append, List.nodup_append] at this
  exact ⟨this.1, fun x hx => h.here x (List.mem_append.2 (.inl hx))⟩
theorem At.right {w : World} {A B : Hp} (h : At w (A ++ B)) : At w B := by
  have := h.nd
  unfold ids at this
  rw [List.map_append, List.nodup_append] at this
  exact ⟨this.2.1, fun x hx => h.here x (List.mem_append.2 (.inr hx))⟩
theorem InnerOk.set {T : List LStM} {H lv : Hp} {p len : Nat} {s : LStM} (h : InnerOk T H) (ho : Own 49 2 (.slice s.A len s.c) len (s.st.arcs.flatMap larV) lv) : InnerOk (T.set p s) (lv ++ H) := by
  intro w hw x hx
  rcases List.mem_or_eq_of_mem_set hx with hx | hx
  · exact h w hw.right x hx
  · subst hx
    exact ho.rd hw.left
theorem InnerOk.zero (n : Nat) : InnerOk (List.replicate n zeroM) [] := by
  intro w _ s hs
  rw [(List.mem_replicate.1 hs).2]
  exact .inl rfl
theorem rev_step {ars : List LArc} {k : Nat} (h : k < ars.length) : ars.reverse.take (ars.length - k) = ars.reverse.take (ars.length - (k + 1)) ++ [ars[k]] := by
  have e : ars.length - k = ars.length - (k + 1) + 1 := by omega
  rw [e, List.take_succ_eq_append_getElem (by simp; omega), List.getElem_reverse]
  congr 3
  omega
theorem lstV_turn (n b : Nat) (s : LSt) (A : Option Addr) (c : Nat) : lstV ⟨turnS n b s, A, c⟩ = [.int .i64 (turnI n b s.dflt), .slice A s.arcs.length c, .int .u8 s.dist, .bool s.ex] := by
  simp [lstV, turnS]
theorem flatR (a b c A B : Hp) : ([a, b, c, A ++ B] : List Hp).flatten = ([a, b, c, A, B] : List Hp).flatten := by simp
theorem ownAll {e size n g : Nat} {xs : List Value} (h : xs.length = n * size) (hn : n ≤ maxLen) : Own e size (.slice (some ⟨g, 0, none⟩) n n) n xs [⟨g, .cells xs.toArray e (0, 0)⟩] :=
  ⟨h, .inr ⟨g, n, xs.toArray, rfl, rfl, Nat.le_refl _, hn, by simpa using h, by rw [← h]; simp⟩⟩
set_option maxRecDepth 100000 in
set_option maxHeartbeats 32000000 in
theorem lawUO_any (w : World) (A : Option Addr) (n c : Nat) (start by' : Int) (dm : Int) (Am : Option Addr) (nm cm km : Nat) (em : Bool) (t : ByteArray) (l : List LStM) (hl : l.length = n) (hn : n ≤ 9223372036854775807) (hr : Rd w w.heap.size A (l.flatMap lstV)) (hin : ∀ i (h : i < l.length), LIn w l[i]) :
    Calls Try.prog 5 #[.slice A n c, .int .i64 start, .int .i64 by', .agg #[.int .i64 dm, .slice Am nm cm, .int .u8 km, .bool em], .string t] w (Post w ([] : List Hp).flatten (fun _ : Unit => .bool true) (fun _ => ([] : List Hp).flatten) (fun _ => True)) := by
  refine enter [] Try.func5 rfl rfl (At.nil w) (Le.refl _) ?_
  intro R hR
  refine run_seq ?_
  refine run_region rfl ?_
  refine op_box rfl rfl ?_
  intro gm _
  rw [show (Value.agg #[.int .i64 dm, .slice Am nm cm, .int .u8 km, .bool em]).cells = #[.int .i64 dm, .slice Am nm cm, .int .u8 km, .bool em] by simp [Value.cells]]
  refine op_assign rfl rfl ?_
  refine ops_nil ?_
  refine fin_code ?_
  refine run_seq ?_
  refine run_seq ?_
  refine run_region rfl ?_
  refine op_move rfl rfl ?_
  ((first | (apply op_call; (· exact rfl)) | apply op_call0); (· exact rfl)); (case' hc => (refine fun w hG hw => fits9_any w A n c l hl hn ?_)); (case hp => (repeat (first | exact Picks.nil | (apply Picks.cons; (· (repeat (first | exact Pick.here | apply Pick.there)))) | apply Picks.empty)))
  · exact hr.now hG
  intro b hb
  cases b with
  | false =>
    refine op_not rfl rfl ?_
    refine op_move rfl rfl ?_
    refine ops_off1 rfl rfl ?_
    refine ops_off1 rfl rfl ?_
    refine ops_off1 rfl rfl ?_
    refine op_pick_t rfl rfl rfl ?_
    refine op_move rfl rfl ?_
    refine ops_off1 rfl rfl ?_
    refine ops_off1 rfl rfl ?_
    refine ops_off1 rfl rfl ?_
    refine op_pick_t rfl rfl rfl ?_
    refine ops_nil ?_
    refine fin_code ?_
    refine run_cond_t rfl ?_
    refine run_seq ?_
    refine run_region rfl ?_
    refine op_assign rfl rfl ?_
    refine ops_nil ?_
    refine fin_code ?_
    refine run_ret ?_
    refine fin_ret_code ?_
    refine fin_ret1 rfl rfl ?_
    intro w' g
    exact hR _ _ (post_of g () trivial rfl (by (apply le_of_picks; (repeat (first | exact Picks.nil | (apply Picks.cons; (· (repeat (first | exact Pick.here | apply Pick.there)))) | apply Picks.empty)))))
  | true =>
  obtain ⟨hn2, hfew⟩ := hb rfl
  refine op_not rfl rfl ?_
  refine op_move rfl rfl ?_
  refine ops_guard_yes rfl rfl rfl ?_
  (apply op_loadAll; (· exact rfl); (· exact rfl); (· (repeat (first | exact Has.here | apply Has.there))); (· exact rfl))
  refine ops_guard_yes rfl rfl rfl ?_
  ((first | (apply op_call; (· exact rfl)) | apply op_call0); (· exact rfl); rotate_left 1; (· exact fun w hG hw => fits10_any w dm km em Am nm cm); rotate_right 1; (· (repeat (first | exact Picks.nil | (apply Picks.cons; (· (repeat (first | exact Pick.here | apply Pick.there)))) | apply Picks.empty))))
  intro b _
  cases b with
  | false =>
    refine ops_guard_yes rfl rfl rfl ?_
    refine op_not rfl rfl ?_
    refine op_pick_f rfl rfl rfl ?_
    refine op_move rfl rfl ?_
    refine ops_off1 rfl rfl ?_
    refine ops_off1 rfl rfl ?_
    refine ops_off1 rfl rfl ?_
    refine op_pick_t rfl rfl rfl ?_
    refine ops_nil ?_
    refine fin_code ?_
    refine run_cond_t rfl ?_
    refine run_seq ?_
    refine run_region rfl ?_
    refine op_assign rfl rfl ?_
    refine ops_nil ?_
    refine fin_code ?_
    refine run_ret ?_
    refine fin_ret_code ?_
    refine fin_ret1 rfl rfl ?_
    intro w' g
    exact hR _ _ (post_of g () trivial rfl (by (apply le_of_picks; (repeat (first | exact Picks.nil | (apply Picks.cons; (· (repeat (first | exact Pick.here | apply Pick.there)))) | apply Picks.empty)))))
  | true =>
  by_cases ht : 2147483647 < t.size
  · refine ops_guard_yes rfl rfl rfl ?_
    refine op_not rfl rfl ?_
    refine op_pick_f rfl rfl rfl ?_
    refine op_move rfl rfl ?_
    refine ops_guard_yes rfl rfl rfl ?_
    refine op_move rfl rfl ?_
    refine ops_guard_yes rfl rfl rfl ?_
    (refine op_val rfl (val_slen rfl) ?_)
    refine ops_guard_yes rfl rfl rfl ?_
    refine op_cmp_t rfl rfl rfl rfl (by first | (simp only [cmpP]; done) | (simp only [cmpP]; omega)) ?_
    refine op_pick_f rfl rfl rfl ?_
    refine ops_nil ?_
    refine fin_code ?_
    refine run_cond_t rfl ?_
    refine run_seq ?_
    refine run_region rfl ?_
    refine op_assign rfl rfl ?_
    refine ops_nil ?_
    refine fin_code ?_
    refine run_ret ?_
    refine fin_ret_code ?_
    refine fin_ret1 rfl rfl ?_
    intro w' g
    exact hR _ _ (post_of g () trivial rfl (by (apply le_of_picks; (repeat (first | exact Picks.nil | (apply Picks.cons; (· (repeat (first | exact Pick.here | apply Pick.there)))) | apply Picks.empty)))))
  refine ops_guard_yes rfl rfl rfl ?_
  refine op_not rfl rfl ?_
  refine op_pick_f rfl rfl rfl ?_
  refine op_move rfl rfl ?_
  refine ops_guard_yes rfl rfl rfl ?_
  refine op_move rfl rfl ?_
  refine ops_guard_yes rfl rfl rfl ?_
  (refine op_val rfl (val_slen rfl) ?_)
  refine ops_guard_yes rfl rfl rfl ?_
  refine op_cmp_f rfl rfl rfl rfl (by first | (simp only [cmpP]; done) | (simp only [cmpP]; omega)) ?_
  refine op_pick_f rfl rfl rfl ?_
  refine ops_nil ?_
  refine fin_code ?_
  refine run_cond_f rfl ?_
  refine run_skip ?_
  refine fin_code ?_
  refine run_seq ?_
  refine run_region rfl ?_
  refine op_move rfl rfl ?_
  ((first | (apply op_call; (· exact rfl)) | apply op_call0); (· exact rfl); rotate_left 1; (· exact fun w hG hw => letters_any w t (by omega)); rotate_right 1; (· (repeat (first | exact Picks.nil | (apply Picks.cons; (· (repeat (first | exact Pick.here | apply Pick.there)))) | apply Picks.empty))))
  rintro ⟨v0, l0, ok, rs⟩ ⟨ho, hok⟩
  dsimp only at ho hok ⊢
  cases ok with
  | false =>
    refine op_move rfl rfl ?_
    refine op_extract rfl rfl rfl ?_
    refine op_extract rfl rfl rfl ?_
    refine op_assign rfl rfl ?_
    refine op_assign rfl rfl ?_
    refine ops_nil ?_
    refine fin_code ?_
    refine run_seq ?_
    refine run_seq ?_
    refine run_region rfl ?_
    refine op_move rfl rfl ?_
    refine op_not rfl rfl ?_
    refine op_move rfl rfl ?_
    refine ops_off1 rfl rfl ?_
    refine ops_off1 rfl rfl ?_
    refine ops_off1 rfl rfl ?_
    refine op_pick_t rfl rfl rfl ?_
    refine op_move rfl rfl ?_
    refine ops_off1 rfl rfl ?_
    refine ops_off1 rfl rfl ?_
    refine ops_off1 rfl rfl ?_
    refine ops_off1 rfl rfl ?_
    refine op_pick_t rfl rfl rfl ?_
    refine op_move rfl rfl ?_
    refine ops_off1 rfl rfl ?_
    refine ops_off1 rfl rfl ?_
    refine op_pick_t rfl rfl rfl ?_
    refine op_move rfl rfl ?_
    refine ops_off1 rfl rfl ?_
    refine ops_off1 rfl rfl ?_
    refine ops_off1 rfl rfl ?_
    refine ops_off1 rfl rfl ?_
    refine op_pick_t rfl rfl rfl ?_
    refine ops_nil ?_
    refine fin_code ?_
    refine run_cond_t rfl ?_
    refine run_seq ?_
    refine run_region rfl ?_
    refine op_assign rfl rfl ?_
    refine ops_nil ?_
    refine fin_code ?_
    refine run_ret ?_
    refine fin_ret_code ?_
    refine fin_ret1 rfl rfl ?_
    intro w' g
    exact hR _ _ (post_of g () trivial rfl (by (apply le_of_picks; (repeat (first | exact Picks.nil | (apply Picks.cons; (· (repeat (first | exact Pick.here | apply Pick.there)))) | apply Picks.empty)))))
  | true =>
  obtain ⟨hbts, hrs⟩ := hok rfl
  obtain ⟨A0, c0, rfl⟩ := ho.isSlice
  by_cases h30 : 30 < rs.length
  · refine op_move rfl rfl ?_
    refine op_extract rfl rfl rfl ?_
    refine op_extract rfl rfl rfl ?_
    refine op_assign rfl rfl ?_
    refine op_assign rfl rfl ?_
    refine ops_nil ?_
    refine fin_code ?_
    refine run_seq ?_
    refine run_seq ?_
    refine run_region rfl ?_
    refine op_move rfl rfl ?_
    refine op_not rfl rfl ?_
    refine op_move rfl rfl ?_
    refine ops_guard_yes rfl rfl rfl ?_
    refine op_move rfl rfl ?_
    refine ops_guard_yes rfl rfl rfl ?_
    refine op_len rfl rfl ?_
    refine ops_guard_yes rfl rfl rfl ?_
    refine op_cmp_t rfl rfl rfl rfl (by first | (simp only [cmpP]; done) | (simp only [cmpP]; omega)) ?_
    refine op_pick_f rfl rfl rfl ?_
    refine op_move rfl rfl ?_
    refine ops_off1 rfl rfl ?_
    refine ops_off1 rfl rfl ?_
    refine ops_off1 rfl rfl ?_
    refine ops_off1 rfl rfl ?_
    refine op_pick_t rfl rfl rfl ?_
    refine op_move rfl rfl ?_
    refine ops_off1 rfl rfl ?_
    refine ops_off1 rfl rfl ?_
    refine op_pick_t rfl rfl rfl ?_
    refine op_move rfl rfl ?_
    refine ops_off1 rfl rfl ?_
    refine ops_off1 rfl rfl ?_
    refine ops_off1 rfl rfl ?_
    refine ops_off1 rfl rfl ?_
    refine op_pick_t rfl rfl rfl ?_
    refine ops_nil ?_
    refine fin_code ?_
    refine run_cond_t rfl ?_
    refine run_seq ?_
    refine run_region rfl ?_
    refine op_assign rfl rfl ?_
    refine ops_nil ?_
    refine fin_code ?_
    refine run_ret ?_
    refine fin_ret_code ?_
    refine fin_ret1 rfl rfl ?_
    intro w' g
    exact hR _ _ (post_of g () trivial rfl (by (apply le_of_picks; (repeat (first | exact Picks.nil | (apply Picks.cons; (· (repeat (first | exact Pick.here | apply Pick.there)))) | apply Picks.empty)))))
  refine op_move rfl rfl ?_
  refine op_extract rfl rfl rfl ?_
  refine op_extract rfl rfl rfl ?_
  refine op_assign rfl rfl ?_
  refine op_assign rfl rfl ?_
  refine ops_nil ?_
  refine fin_code ?_
  refine run_seq ?_
  refine run_seq ?_
  refine run_region rfl ?_
  refine op_move rfl rfl ?_
  refine op_not rfl rfl ?_
  refine op_move rfl rfl ?_
  refine ops_guard_yes rfl rfl rfl ?_
  refine op_move rfl rfl ?_
  refine ops_guard_yes rfl rfl rfl ?_
  refine op_len rfl rfl ?_
  refine ops_guard_yes rfl rfl rfl ?_
  refine op_cmp_f rfl rfl rfl rfl (by first | (simp only [cmpP]; done) | (simp only [cmpP]; omega)) ?_
  refine op_pick_f rfl rfl rfl ?_
  refine op_move rfl rfl ?_
  refine ops_guard_yes rfl rfl rfl ?_
  refine op_move rfl rfl ?_
  refine ops_guard_yes rfl rfl rfl ?_
  refine op_move rfl rfl ?_
  refine ops_guard_yes rfl rfl rfl ?_
  ((first | (apply op_call; (· exact rfl)) | apply op_call0); (· exact rfl)); (case' hc => (refine fun w hG hw => right_any w A n c start l hl hn2 ?_ ?_)); (case hp => (repeat (first | exact Picks.nil | (apply Picks.cons; (· (repeat (first | exact Pick.here | apply Pick.there)))) | apply Picks.empty)))
  · exact hr.now hG
  · exact fun i h => ⟨hfew i h, (hin i h).rd.now hG, (hin i h).r32⟩
  intro b hb
  cases b with
  | false =>
    refine ops_guard_yes rfl rfl rfl ?_
    refine op_not rfl rfl ?_
    refine op_pick_f rfl rfl rfl ?_
    refine op_move rfl rfl ?_
    refine ops_off1 rfl rfl ?_
    refine ops_off1 rfl rfl ?_
    refine op_pick_t rfl rfl rfl ?_
    refine op_move rfl rfl ?_
    refine ops_off1 rfl rfl ?_
    refine ops_off1 rfl rfl ?_
    refine ops_off1 rfl rfl ?_
    refine ops_off1 rfl rfl ?_
    refine op_pick_t rfl rfl rfl ?_
    refine ops_nil ?_
    refine fin_code ?_
    refine run_cond_t rfl ?_
    refine run_seq ?_
    refine run_region rfl ?_
    refine op_assign rfl rfl ?_
    refine ops_nil ?_
    refine fin_code ?_
    refine run_ret ?_
    refine fin_ret_code ?_
    refine fin_ret1 rfl rfl ?_
    intro w' g
    exact hR _ _ (post_of g () trivial rfl (by (apply le_of_picks; (repeat (first | exact Picks.nil | (apply Picks.cons; (· (repeat (first | exact Pick.here | apply Pick.there)))) | apply Picks.empty)))))
  | true =>
  obtain ⟨hn12, hs0, hsn, hgood⟩ := hb rfl
  obtain ⟨s, rfl⟩ : ∃ s : Nat, start = s := ⟨start.toNat, by omega⟩
  by_cases hB : by' < 0
  · refine ops_guard_yes rfl rfl rfl ?_
    refine op_not rfl rfl ?_
    refine op_pick_f rfl rfl rfl ?_
    refine op_move rfl rfl ?_
    refine ops_guard_yes rfl rfl rfl ?_
    refine op_move rfl rfl ?_
    refine ops_guard_yes rfl rfl rfl ?_
    refine op_cmp_t rfl rfl rfl rfl (by first | (simp only [cmpP]; done) | (simp only [cmpP]; omega)) ?_
    refine op_pick_f rfl rfl rfl ?_
    refine op_move rfl rfl ?_
    refine ops_off1 rfl rfl ?_
    refine ops_off1 rfl rfl ?_
    refine ops_off1 rfl rfl ?_
    refine ops_off1 rfl rfl ?_
    refine op_pick_t rfl rfl rfl ?_
    refine ops_nil ?_
    refine fin_code ?_
    refine run_cond_t rfl ?_
    refine run_seq ?_
    refine run_region rfl ?_
    refine op_assign rfl rfl ?_
    refine ops_nil ?_
    refine fin_code ?_
    refine run_ret ?_
    refine fin_ret_code ?_
    refine fin_ret1 rfl rfl ?_
    intro w' g
    exact hR _ _ (post_of g () trivial rfl (by (apply le_of_picks; (repeat (first | exact Picks.nil | (apply Picks.cons; (· (repeat (first | exact Pick.here | apply Pick.there)))) | apply Picks.empty)))))
  obtain ⟨b, rfl⟩ : ∃ b : Nat, by' = b := ⟨by'.toNat, by omega⟩
  by_cases hBn : n ≤ b
  · refine ops_guard_yes rfl rfl rfl ?_
    refine op_not rfl rfl ?_
    refine op_pick_f rfl rfl rfl ?_
    refine op_move rfl rfl ?_
    refine ops_guard_yes rfl rfl rfl ?_
    refine op_move rfl rfl ?_
    refine ops_guard_yes rfl rfl rfl ?_
    refine op_cmp_f rfl rfl rfl rfl (by first | (simp only [cmpP]; done) | (simp only [cmpP]; omega)) ?_
    refine op_pick_f rfl rfl rfl ?_
    refine op_move rfl rfl ?_
    refine ops_guard_yes rfl rfl rfl ?_
    refine op_move rfl rfl ?_
    refine ops_guard_yes rfl rfl rfl ?_
    refine op_move rfl rfl ?_
    refine ops_guard_yes rfl rfl rfl ?_
    refine op_len rfl rfl ?_
    refine ops_guard_yes rfl rfl rfl ?_
    refine op_cmp_t rfl rfl rfl rfl (by first | (simp only [cmpP]; done) | (simp only [cmpP]; omega)) ?_
    refine op_pick_f rfl rfl rfl ?_
    refine ops_nil ?_
    refine fin_code ?_
    refine run_cond_t rfl ?_
    refine run_seq ?_
    refine run_region rfl ?_
    refine op_assign rfl rfl ?_
    refine ops_nil ?_
    refine fin_code ?_
    refine run_ret ?_
    refine fin_ret_code ?_
    refine fin_ret1 rfl rfl ?_
    intro w' g
    exact hR _ _ (post_of g () trivial rfl (by (apply le_of_picks; (repeat (first | exact Picks.nil | (apply Picks.cons; (· (repeat (first | exact Pick.here | apply Pick.there)))) | apply Picks.empty)))))
  have hts : t.size = (rs.flatMap encN).length := by rw [← hbts, bts_len]
  have h4 := flat_le4 rs
  have hll : (l.map (·.st)).length = n := by simp [hl]
  have hgn : ∀ x ∈ l.map (·.st), LGood n x := fun x hx => by
    obtain ⟨y, hy, rfl⟩ := List.mem_map.1 hx
    obtain ⟨i, hi, rfl⟩ := List.getElem_of_mem hy
    exact hgood i hi
  have hr0 := hr
  obtain ⟨g, o, rfl, hg, hc⟩ := hr.some (by rw [flat_len lstV 4 (fun _ => rfl)]; omega)
  refine ops_guard_yes rfl rfl rfl ?_
  refine op_not rfl rfl ?_
  refine op_pick_f rfl rfl rfl ?_
  refine op_move rfl rfl ?_
  refine ops_guard_yes rfl rfl rfl ?_
  refine op_move rfl rfl ?_
  refine ops_guard_yes rfl rfl rfl ?_
  refine op_cmp_f rfl rfl rfl rfl (by first | (simp only [cmpP]; done) | (simp only [cmpP]; omega)) ?_
  refine op_pick_f rfl rfl rfl ?_
  refine op_move rfl rfl ?_
  refine ops_guard_yes rfl rfl rfl ?_
  refine op_move rfl rfl ?_
  refine ops_guard_yes rfl rfl rfl ?_
  refine op_move rfl rfl ?_
  refine ops_guard_yes rfl rfl rfl ?_
  refine op_len rfl rfl ?_
  refine ops_guard_yes rfl rfl rfl ?_
  refine op_cmp_f rfl rfl rfl rfl (by first | (simp only [cmpP]; done) | (simp only [cmpP]; omega)) ?_
  refine op_pick_f rfl rfl rfl ?_
  refine ops_nil ?_
  refine fin_code ?_
  refine run_cond_f rfl ?_
  refine run_skip ?_
  refine fin_code ?_
  refine run_seq ?_
  refine run_region rfl ?_
  refine op_move rfl rfl ?_
  refine op_len rfl rfl ?_
  refine op_assign rfl rfl ?_
  refine ops_nil ?_
  refine fin_code ?_
  refine run_seq ?_
  refine run_region rfl ?_
  refine op_move rfl rfl ?_
  refine op_fieldAddr rfl rfl ?_
  (apply op_store; (· exact rfl); (· exact rfl); (· exact rfl); (· (repeat (first | exact Swap.here | apply Swap.there))); (· first | decide | (simp; done) | (simp; omega) | assumption))
  refine op_fieldAddr rfl rfl ?_
  (apply op_store; (· exact rfl); (· exact rfl); (· exact rfl); (· (repeat (first | exact Swap.here | apply Swap.there))); (· first | decide | (simp; done) | (simp; omega) | assumption))
  refine ops_nil ?_
  refine fin_code ?_
  refine run_seq ?_
  refine run_region rfl ?_
  refine op_move rfl rfl ?_
  (refine op_make rfl rfl rfl (by omega) (by omega) ?_; intro _ _)
  refine op_assign rfl rfl ?_
  refine ops_nil ?_
  refine fin_code ?_
  refine run_seq ?_
  refine run_seq ?_
  refine run_region rfl ?_
  refine op_assign rfl rfl ?_
  refine ops_nil ?_
  refine fin_code ?_
  refine run_block ?_
  rename_i gt _
  rw [zerosL]
  refine run_loop (α := Nat × List LStM × Hp) (fun x => [(0, .slice (some ⟨g, o, none⟩) n c), (1, .int .i64 s), (2, .int .i64 b), (4, .string t), (8, .pointer (some ⟨gm, 0, none⟩)), (11, .slice A0 rs.length c0), (13, .int .i64 n), (14, .slice (some ⟨gt, 0, none⟩) n n), (15, .int .i64 (x.1 : Nat))])
    (fun x => [[⟨gm, .cells #[.int .i64 n, .slice none 0 0, .int .u8 km, .bool em] 45 (0, 0)⟩], l0, [⟨gt, .cells (x.2.1.flatMap lstV).toArray 45 (0, 0)⟩], x.2.2])
    (fun x => x.1 ≤ n ∧ x.2.1.length = n ∧ InnerOk x.2.1 x.2.2 ∧ ∀ j (h : j < l.length), j < x.1 → (x.2.1[(j + b) % n]?).map (·.st) = some (turnS n b l[j].st)) (fun x => n - x.1)
    (0, List.replicate n zeroM, []) ⟨Nat.zero_le _, by simp, InnerOk.zero n, fun j _ h => by simp at h⟩ (by (repeat (first | exact Sub.nil _ | (refine Sub.cons rfl ?_)))) (by (apply le_of_picks; (repeat (first | exact Picks.nil | (apply Picks.cons; (· (repeat (first | exact Pick.here | apply Pick.there)))) | apply Picks.empty)))) ?_
  rintro ⟨i, T, H⟩ ⟨hi, hT, hIn, hdone⟩
  dsimp only at hi hT hIn hdone ⊢
  by_cases hin' : i < n
  · have hil : i < l.length := by omega
    have hgi := hgood i hil
    have h0 : (lstV l[i])[0]? = some (.int .i64 l[i].st.dflt) := rfl
    have h1 : (lstV l[i])[1]? = some (.slice l[i].A l[i].st.arcs.length l[i].c) := rfl
    have h2 : (lstV l[i])[2]? = some (.int .u8 l[i].st.dist) := rfl
    have h3 : (lstV l[i])[3]? = some (.bool l[i].st.ex) := rfl
    obtain ⟨d0, d1, few12, harcs⟩ := hgi.ok
    have hrd := (hin i hil).rd
    have hpn : (i + b) % n < n := Nat.mod_lt _ (by omega)
    refine run_seq ?_
    refine run_seq ?_
    refine run_region rfl ?_
    refine op_move rfl rfl ?_
    refine op_move rfl rfl ?_
    refine op_cmp_t rfl rfl rfl rfl (by first | (simp only [cmpP]; done) | (simp only [cmpP]; omega)) ?_
    refine ops_nil ?_
    refine fin_code ?_
    refine run_cond_t rfl ?_
    refine run_skip ?_
    refine fin_code ?_
    refine run_seq ?_
    refine run_block ?_
    refine run_seq ?_
    refine run_drawS [] (by kernel_rfl) ?_
    refine dr_stab 0 rfl rfl (Val.s (val_move rfl)) (by decide +kernel) rfl rfl ?_
    refine dr_stab 1 rfl rfl (Val.s (val_move rfl)) (by decide +kernel) rfl rfl ?_
    refine dr_stab 2 rfl rfl (Val.s (val_index rfl rfl (by omega) (by first | (rw [Int.toNat_natCast, Nat.mul_one, Nat.zero_add]) | (rw [Int.toNat_natCast, Nat.mul_one]) | (rw [Int.toNat_natCast, Nat.zero_add]) | (rw [Int.toNat_natCast]) | exact rfl))) (by decide +kernel) rfl rfl ?_
    refine dr_stab 3 rfl rfl (Val.s (val_fieldAddr rfl)) (by decide +kernel) rfl rfl ?_
    (apply dr_stab 4; (· exact rfl); (· exact rfl); (· apply ValAt.s; (first | (apply val_load; (· exact rfl); (· apply cell_of_has; (· (repeat (first | exact Has.here | apply Has.there))); (· first | exact hp | exact hm | exact hc3 | exact hd | exact hm2 | exact hc32 | exact hd2 | exact rfl))) | (apply val_load; (· exact rfl); (· first | exact lst_cell hc hg (by simp [ids]) hil (by assumption) | exact lar_cell hc1 hg1 (by simp [ids]) hk rfl)) | (apply val_loadAll; (· exact rfl); (· (repeat (first | exact Has.here | apply Has.there))); (· exact rfl)))); (· decide +kernel); (· exact rfl); (· exact rfl))
    refine dr_stab 5 rfl rfl (Val.s (val_move rfl)) (by decide +kernel) rfl rfl ?_
    refine dr_stab 6 rfl rfl (Val.s (val_move rfl)) (by decide +kernel) rfl rfl ?_
    refine dr_stab 7 rfl rfl (Val.s (val_index rfl rfl (by omega) (by first | (rw [Int.toNat_natCast, Nat.mul_one, Nat.zero_add]) | (rw [Int.toNat_natCast, Nat.mul_one]) | (rw [Int.toNat_natCast, Nat.zero_add]) | (rw [Int.toNat_natCast]) | exact rfl))) (by decide +kernel) rfl rfl ?_
    refine dr_stab 8 rfl rfl (Val.s (val_fieldAddr rfl)) (by decide +kernel) rfl rfl ?_
    (apply dr_stab 9; (· exact rfl); (· exact rfl); (· apply ValAt.s; (first | (apply val_load; (· exact rfl); (· apply cell_of_has; (· (repeat (first | exact Has.here | apply Has.there))); (· first | exact hp | exact hm | exact hc3 | exact hd | exact hm2 | exact hc32 | exact hd2 | exact rfl))) | (apply val_load; (· exact rfl); (· first | exact lst_cell hc hg (by simp [ids]) hil (by assumption) | exact lar_cell hc1 hg1 (by simp [ids]) hk rfl)) | (apply val_loadAll; (· exact rfl); (· (repeat (first | exact Has.here | apply Has.there))); (· exact rfl)))); (· decide +kernel); (· exact rfl); (· exact rfl))
    refine dr_stab 10 rfl rfl (Val.s (val_move rfl)) (by decide +kernel) rfl rfl ?_
    refine dr_stab 11 rfl rfl (Val.s (val_move rfl)) (by decide +kernel) rfl rfl ?_
    refine dr_stab 12 rfl rfl (Val.s (val_index rfl rfl (by omega) (by first | (rw [Int.toNat_natCast, Nat.mul_one, Nat.zero_add]) | (rw [Int.toNat_natCast, Nat.mul_one]) | (rw [Int.toNat_natCast, Nat.zero_add]) | (rw [Int.toNat_natCast]) | exact rfl))) (by decide +kernel) rfl rfl ?_
    refine dr_stab 13 rfl rfl (Val.s (val_fieldAddr rfl)) (by decide +kernel) rfl rfl ?_
    (apply dr_stab 14; (· exact rfl); (· exact rfl); (· apply ValAt.s; (first | (apply val_load; (· exact rfl); (· apply cell_of_has; (· (repeat (first | exact Has.here | apply Has.there))); (· first | exact hp | exact hm | exact hc3 | exact hd | exact hm2 | exact hc32 | exact hd2 | exact rfl))) | (apply val_load; (· exact rfl); (· first | exact lst_cell hc hg (by simp [ids]) hil (by assumption) | exact lar_cell hc1 hg1 (by simp [ids]) hk rfl)) | (apply val_loadAll; (· exact rfl); (· (repeat (first | exact Has.here | apply Has.there))); (· exact rfl)))); (· decide +kernel); (· exact rfl); (· exact rfl))
    refine dr_stab 15 rfl rfl (Val.s (val_build rfl rfl (ones rfl) rfl)) (by decide +kernel) rfl rfl ?_
    (refine dr_one 16 rfl (by decide +kernel) (by (apply le_of_picks; (repeat (first | exact Picks.nil | (apply Picks.cons; (· (repeat (first | exact Pick.here | apply Pick.there)))) | apply Picks.empty)))) ?_)
    (refine op_alloc rfl ?_; intro _ _)
    refine ops_nil ?_
    refine fin_draw ?_
    (refine dr_one 17 rfl (by decide +kernel) (by (apply le_of_picks; (repeat (first | exact Picks.nil | (apply Picks.cons; (· (repeat (first | exact Pick.here | apply Pick.there)))) | apply Picks.empty)))) ?_)
    (apply op_storeAll; (· exact rfl); (· exact rfl); (· exact rfl); (· first | exact onesC rfl | (intro u hu; simp [Value.cells] at hu; rcases hu with rfl | rfl | rfl | rfl | rfl | rfl <;> rfl) | (intro u hu; simp [Value.cells] at hu; rcases hu with rfl | rfl | rfl <;> rfl) | (intro u hu; simp [Value.cells] at hu; rcases hu with rfl | rfl <;> rfl) | (intro u hu; simp [Value.cells] at hu; subst hu; rfl)); (· (repeat (first | exact Swap.here | apply Swap.there))); (· exact rfl))
    refine ops_nil ?_
    refine fin_draw ?_
    (refine dr_done (by decide +kernel) (by (apply le_of_picks; (repeat (first | exact Picks.nil | (apply Picks.cons; (· (repeat (first | exact Pick.here | apply Pick.there)))) | apply Picks.empty)))) ?_)
    refine fin_code ?_
    refine run_seq ?_
    refine run_seq ?_
    refine run_region rfl ?_
    refine op_fieldAddr rfl rfl ?_
    (apply op_load; (· exact rfl); (· exact rfl); (· apply cell_of_has; (· (repeat (first | exact Has.here | apply Has.there))); (· first | exact hp | exact hm | exact hc3 | exact hd | exact hm2 | exact hc32 | exact hd2 | exact rfl)))
    rename_i gx _
    refine ops_join1 (α := Unit) (fun _ => [(0, .slice (some ⟨g, o, none⟩) n c), (1, .int .i64 s), (2, .int .i64 b), (4, .string t), (8, .pointer (some ⟨gm, 0, none⟩)), (11, .slice A0 rs.length c0), (13, .int .i64 n), (14, .slice (some ⟨gt, 0, none⟩) n n), (15, .int .i64 (i : Nat)), (16, .pointer (some ⟨gx, 0, none⟩))])
      (fun _ => [[⟨gx, .cells #[.int .i64 (turnI n b l[i].st.dflt), .slice none 0 0, .int .u8 l[i].st.dist, .bool l[i].st.ex] 45 (0, 0)⟩], [⟨gm, .cells #[.int .i64 n, .slice none 0 0, .int .u8 km, .bool em] 45 (0, 0)⟩], l0, [⟨gt, .cells (T.flatMap lstV).toArray 45 (0, 0)⟩], H]) (fun _ => True) ?_ ?_
    rotate_left 1
    · intro J
      have J1 := J () trivial
      by_cases hD : l[i].st.dflt < 0
      · rw [show turnI n b l[i].st.dflt = l[i].st.dflt from if_pos hD] at J1
        refine op_cmp_f rfl rfl rfl rfl (by first | (simp only [cmpP]; done) | (simp only [cmpP]; omega)) ?_
        refine ops_nil ?_
        refine fin_code ?_
        refine run_cond_f rfl ?_
        refine run_skip ?_
        (apply J1)
        · (repeat (first | exact Sub.nil _ | (refine Sub.cons rfl ?_)))
        · (apply le_of_picks; (repeat (first | exact Picks.nil | (apply Picks.cons; (· (repeat (first | exact Pick.here | apply Pick.there)))) | apply Picks.empty)))
      · rw [show turnI n b l[i].st.dflt = ((l[i].st.dflt.toNat + b) % n : Nat) from if_neg hD] at J1
        have hremd := tmod_nat (a := l[i].st.dflt) (b := b) (n := n) (by omega)
        refine op_cmp_t rfl rfl rfl rfl (by first | (simp only [cmpP]; done) | (simp only [cmpP]; omega)) ?_
        refine ops_nil ?_
        refine fin_code ?_
        refine run_cond_t rfl ?_
        refine run_region rfl ?_
        refine op_fieldAddr rfl rfl ?_
        (apply op_load; (· exact rfl); (· exact rfl); (· apply cell_of_has; (· (repeat (first | exact Has.here | apply Has.there))); (· first | exact hp | exact hm | exact hc3 | exact hd | exact hm2 | exact hc32 | exact hd2 | exact rfl)))
        refine op_move rfl rfl ?_
        refine op_add rfl rfl rfl (by simp only [kLo, kHi]; omega) ?_
        refine op_move rfl rfl ?_
        (refine op_remE rfl rfl (by omega) (by assumption) rfl ?_)
        refine op_fieldAddr rfl rfl ?_
        (apply op_store; (· exact rfl); (· exact rfl); (· exact rfl); (· (repeat (first | exact Swap.here | apply Swap.there))); (· first | decide | (simp; done) | (simp; omega) | assumption))
        refine ops_nil ?_
        (apply J1)
        · (repeat (first | exact Sub.nil _ | (refine Sub.cons rfl ?_)))
        · (apply le_of_picks; (repeat (first | exact Picks.nil | (apply Picks.cons; (· (repeat (first | exact Pick.here | apply Pick.there)))) | apply Picks.empty)))
    rintro ⟨⟩ _
    have hturn := lstV_turn n b l[i].st
    have harcsE : (turnS n b l[i].st).arcs = l[i].st.arcs.reverse.map (turnA n b) := rfl
    refine fin_code ?_
    refine run_seq ?_
    refine run_seq ?_
    refine run_region rfl ?_
    refine op_move rfl rfl ?_
    refine op_move rfl rfl ?_
    refine op_index rfl rfl rfl (by omega) (by first | (rw [Int.toNat_natCast, Nat.mul_one, Nat.zero_add]) | (rw [Int.toNat_natCast, Nat.mul_one]) | (rw [Int.toNat_natCast, Nat.zero_add]) | (rw [Int.toNat_natCast]) | exact rfl) ?_
    refine op_fieldAddr rfl rfl ?_
    (apply op_load; (· exact rfl); (· exact rfl); (· exact lst_cell hc hg (by simp [ids]) hil (by assumption)))
    refine op_len rfl rfl ?_
    refine op_sub rfl rfl rfl (by simp only [kLo, kHi]; omega) ?_
    refine op_assign rfl rfl ?_
    refine ops_nil ?_
    refine fin_code ?_
    refine run_block ?_
    refine run_loop (α := Nat × Value × Hp) (fun x => [(0, .slice (some ⟨g, o, none⟩) n c), (1, .int .i64 s), (2, .int .i64 b), (4, .string t), (8, .pointer (some ⟨gm, 0, none⟩)), (11, .slice A0 rs.length c0), (13, .int .i64 n), (14, .slice (some ⟨gt, 0, none⟩) n n), (15, .int .i64 (i : Nat)), (16, .pointer (some ⟨gx, 0, none⟩)), (17, .int .i64 ((x.1 : Nat) - 1))])
      (fun x => [[⟨gx, .cells #[.int .i64 (turnI n b l[i].st.dflt), x.2.1, .int .u8 l[i].st.dist, .bool l[i].st.ex] 45 (0, 0)⟩], x.2.2, [⟨gm, .cells #[.int .i64 n, .slice none 0 0, .int .u8 km, .bool em] 45 (0, 0)⟩], l0, [⟨gt, .cells (T.flatMap lstV).toArray 45 (0, 0)⟩], H])
      (fun x => x.1 ≤ l[i].st.arcs.length ∧ Own 49 2 x.2.1 (l[i].st.arcs.length - x.1) (((l[i].st.arcs.reverse.take (l[i].st.arcs.length - x.1)).map (turnA n b)).flatMap larV) x.2.2) (fun x => x.1)
      (l[i].st.arcs.length, .slice none 0 0, []) ⟨Nat.le_refl _, by simpa using Own.nil 49 2⟩ (by (repeat (first | exact Sub.nil _ | (refine Sub.cons rfl ?_)))) (by (apply le_of_picks; (repeat (first | exact Picks.nil | (apply Picks.cons; (· (repeat (first | exact Pick.here | apply Pick.there)))) | apply Picks.empty)))) ?_
    rintro ⟨k, v, lv⟩ ⟨hk0, hov⟩
    dsimp only at hk0 hov ⊢
    rcases Nat.eq_zero_or_pos k with hkz | hkp
    · subst hkz
      rw [Nat.sub_zero, List.take_of_length_le (by simp)] at hov
      obtain ⟨A', c', rfl⟩ := hov.isSlice
      have hinner := hIn.set (p := (i + b) % n) (s := ⟨turnS n b l[i].st, A', c'⟩) hov
      have e1 := hturn A' c'
      refine run_seq ?_
      refine run_seq ?_
      refine run_region rfl ?_
      refine op_move rfl rfl ?_
      refine op_cmp_f rfl rfl rfl rfl (by first | (simp only [cmpP]; done) | (simp only [cmpP]; omega)) ?_
      refine ops_nil ?_
      refine fin_code ?_
      refine run_cond_f rfl ?_
      refine run_exit ?_
      refine fin_exit_code ?_
      refine fin_exit_inv ?_
      refine fin_exit_here ?_
      refine fin_code ?_
      have hset := flat_set lstV 4 (fun _ => rfl) T ((i + b) % n) ⟨turnS n b l[i].st, A', c'⟩ (by omega)
      rw [e1] at hset
      have hsz := flat_len lstV 4 (fun _ => rfl) T
      refine run_drawS [[⟨gx, .cells #[.int .i64 (turnI n b l[i].st.dflt), .slice A' l[i].st.arcs.length c', .int .u8 l[i].st.dist, .bool l[i].st.ex] 45 (0, 0)⟩]] (by kernel_rfl) ?_
      refine dr_stab 0 rfl rfl (Val.s (val_move rfl)) (by decide +kernel) rfl rfl ?_
      refine dr_stab 1 rfl rfl (Val.s (val_move rfl)) (by decide +kernel) rfl rfl ?_
      refine dr_stab 2 rfl rfl (Val.s (val_move rfl)) (by decide +kernel) rfl rfl ?_
      refine dr_stab 3 rfl rfl (Val.s (val_add rfl rfl (by simp only [kLo, kHi]; omega))) (by decide +kernel) rfl rfl ?_
      refine dr_stab 4 rfl rfl (Val.s (val_move rfl)) (by decide +kernel) rfl rfl ?_
      refine dr_stab 5 rfl rfl (Val.s (val_remN rfl rfl (by omega))) (by decide +kernel) rfl rfl ?_
      (apply dr_stab 6; (· exact rfl); (· exact rfl); (· apply ValAt.s; (first | (apply val_load; (· exact rfl); (· apply cell_of_has; (· (repeat (first | exact Has.here | apply Has.there))); (· first | exact hp | exact hm | exact hc3 | exact hd | exact hm2 | exact hc32 | exact hd2 | exact rfl))) | (apply val_load; (· exact rfl); (· first | exact lst_cell hc hg (by simp [ids]) hil (by assumption) | exact lar_cell hc1 hg1 (by simp [ids]) hk rfl)) | (apply val_loadAll; (· exact rfl); (· (repeat (first | exact Has.here | apply Has.there))); (· exact rfl)))); (· decide +kernel); (· exact rfl); (· exact rfl))
      refine dr_stab 7 rfl rfl (Val.s (val_index rfl rfl (by omega) (by first | (rw [Int.toNat_natCast, Nat.mul_one, Nat.zero_add]) | (rw [Int.toNat_natCast, Nat.mul_one]) | (rw [Int.toNat_natCast, Nat.zero_add]) | (rw [Int.toNat_natCast]) | exact rfl))) (by decide +kernel) rfl rfl ?_
      (refine dr_one 8 rfl (by decide +kernel) (by (apply le_of_picks; (repeat (first | exact Picks.nil | (apply Picks.cons; (· (repeat (first | exact Pick.here | apply Pick.there)))) | apply Picks.empty)))) ?_)
      (refine op_storeE (congrArg List.toArray hset) rfl rfl rfl (by first | exact onesC rfl | (intro u hu; simp [Value.cells] at hu; rcases hu with rfl | rfl | rfl | rfl | rfl | rfl <;> rfl) | (intro u hu; simp [Value.cells] at hu; rcases hu with rfl | rfl | rfl <;> rfl) | (intro u hu; simp [Value.cells] at hu; rcases hu with rfl | rfl <;> rfl) | (intro u hu; simp [Value.cells] at hu; subst hu; rfl)) (by (repeat (first | exact Swap.here | apply Swap.there))) (by show (i + b) % n * 4 + 4 ≤ (T.flatMap lstV).toArray.size; rw [List.size_toArray, hsz]; omega) ?_)
      refine ops_nil ?_
      refine fin_draw ?_
      (refine dr_done (by decide +kernel) (by (apply le_of_picks; (repeat (first | exact Picks.nil | (apply Picks.cons; (· (repeat (first | exact Pick.here | apply Pick.there)))) | apply Picks.empty)))) ?_)
      refine fin_block ?_
      refine fin_code ?_
      refine run_region rfl ?_
      refine op_move rfl rfl ?_
      refine op_add rfl rfl rfl (by simp only [kLo, kHi]; omega) ?_
      refine op_assign rfl rfl ?_
      refine ops_nil ?_
      refine fin_round (i + 1, T.set ((i + b) % n) ⟨turnS n b l[i].st, A', c'⟩, lv ++ H) (by dsimp only; omega) (by (repeat (first | exact Sub.nil _ | (refine Sub.cons rfl ?_)))) (by dsimp only; rw [flatR]; (apply le_of_picks; (repeat (first | exact Picks.nil | (apply Picks.cons; (· (repeat (first | exact Pick.here | apply Pick.there)))) | apply Picks.empty)))) ⟨by dsimp only; omega, by dsimp only; rw [List.length_set]; exact hT, hinner, fun j hj hji => ?_⟩
      dsimp only at hji ⊢
      rw [List.getElem?_set]
      by_cases hjeq : (i + b) % n = (j + b) % n
      · have : j = i := mod_inj (n := n) (b := b) (by omega) (by omega) (by omega) hjeq.symm
        subst this
        rw [if_pos hjeq, if_pos (by omega)]
        rfl
      · rw [if_neg hjeq]
        refine hdone j hj ?_
        have : j ≠ i := fun e => hjeq (by rw [e])
        omega
    · obtain ⟨k', rfl⟩ : ∃ k', k = k' + 1 := ⟨k - 1, by omega⟩
      have hk : k' < l[i].st.arcs.length := by omega
      rw [show (((k' + 1 : Nat) : Int) - 1) = ((k' : Nat) : Int) by omega]
      obtain ⟨g1, o1, hA1, hg1, hc1⟩ := hrd.some (by rw [flat_len larV 2 (fun _ => rfl)]; omega)
      have e2 := rev_step hk
      have e3 : l[i].st.arcs.length - k' = l[i].st.arcs.length - (k' + 1) + 1 := by omega
      have ha := harcs _ (List.getElem_mem hk)
      have hrema := tmod_nat (a := l[i].st.arcs[k'].to) (b := b) (n := n) ha.2.2.1
      rw [hA1] at h1
      refine run_seq ?_
      refine run_seq ?_
      refine run_region rfl ?_
      refine op_move rfl rfl ?_
      refine op_cmp_t rfl rfl rfl rfl (by first | (simp only [cmpP]; done) | (simp only [cmpP]; omega)) ?_
      refine ops_nil ?_
      refine fin_code ?_
      refine run_cond_t rfl ?_
      refine run_skip ?_
      refine fin_code ?_
      refine run_seq ?_
      refine run_block ?_
      refine run_drawS [] (by kernel_rfl) ?_
      refine dr_stab 0 rfl rfl (Val.s (val_fieldAddr rfl)) (by decide +kernel) rfl rfl ?_
      refine dr_stab 2 rfl rfl (Val.s (val_move rfl)) (by decide +kernel) rfl rfl ?_
      refine dr_stab 3 rfl rfl (Val.s (val_move rfl)) (by decide +kernel) rfl rfl ?_
      refine dr_stab 4 rfl rfl (Val.s (val_index rfl rfl (by omega) (by first | (rw [Int.toNat_natCast, Nat.mul_one, Nat.zero_add]) | (rw [Int.toNat_natCast, Nat.mul_one]) | (rw [Int.toNat_natCast, Nat.zero_add]) | (rw [Int.toNat_natCast]) | exact rfl))) (by decide +kernel) rfl rfl ?_
      refine dr_stab 5 rfl rfl (Val.s (val_fieldAddr rfl)) (by decide +kernel) rfl rfl ?_
      (apply dr_stab 6; (· exact rfl); (· exact rfl); (· apply ValAt.s; (first | (apply val_load; (· exact rfl); (· apply cell_of_has; (· (repeat (first | exact Has.here | apply Has.there))); (· first | exact hp | exact hm | exact hc3 | exact hd | exact hm2 | exact hc32 | exact hd2 | exact rfl))) | (apply val_load; (· exact rfl); (· first | exact lst_cell hc hg (by simp [ids]) hil (by assumption) | exact lar_cell hc1 hg1 (by simp [ids]) hk rfl)) | (apply val_loadAll; (· exact rfl); (· (repeat (first | exact Has.here | apply Has.there))); (· exact rfl)))); (· decide +kernel); (· exact rfl); (· exact rfl))
      refine dr_stab 7 rfl rfl (Val.s (val_move rfl)) (by decide +kernel) rfl rfl ?_
      refine dr_stab 8 rfl rfl (Val.s (val_index rfl rfl (by omega) (by first | (rw [Int.toNat_natCast, Nat.mul_one, Nat.zero_add]) | (rw [Int.toNat_natCast, Nat.mul_one]) | (rw [Int.toNat_natCast, Nat.zero_add]) | (rw [Int.toNat_natCast]) | exact rfl))) (by decide +kernel) rfl rfl ?_
      refine dr_stab 9 rfl rfl (Val.s (val_fieldAddr rfl)) (by decide +kernel) rfl rfl ?_
      (apply dr_stab 10; (· exact rfl); (· exact rfl); (· apply ValAt.s; (first | (apply val_load; (· exact rfl); (· apply cell_of_has; (· (repeat (first | exact Has.here | apply Has.there))); (· first | exact hp | exact hm | exact hc3 | exact hd | exact hm2 | exact hc32 | exact hd2 | exact rfl))) | (apply val_load; (· exact rfl); (· first | exact lst_cell hc hg (by simp [ids]) hil (by assumption) | exact lar_cell hc1 hg1 (by simp [ids]) hk rfl)) | (apply val_loadAll; (· exact rfl); (· (repeat (first | exact Has.here | apply Has.there))); (· exact rfl)))); (· decide +kernel); (· exact rfl); (· exact rfl))
      refine dr_stab 11 rfl rfl (Val.s (val_move rfl)) (by decide +kernel) rfl rfl ?_
      refine dr_stab 12 rfl rfl (Val.s (val_move rfl)) (by decide +kernel) rfl rfl ?_
      refine dr_stab 13 rfl rfl (Val.s (val_index rfl rfl (by omega) (by first | (rw [Int.toNat_natCast, Nat.mul_one, Nat.zero_add]) | (rw [Int.toNat_natCast, Nat.mul_one]) | (rw [Int.toNat_natCast, Nat.zero_add]) | (rw [Int.toNat_natCast]) | exact rfl))) (by decide +kernel) rfl rfl ?_
      refine dr_stab 14 rfl rfl (Val.s (val_fieldAddr rfl)) (by decide +kernel) rfl rfl ?_
      (apply dr_stab 15; (· exact rfl); (· exact rfl); (· apply ValAt.s; (first | (apply val_load; (· exact rfl); (· apply cell_of_has; (· (repeat (first | exact Has.here | apply Has.there))); (· first | exact hp | exact hm | exact hc3 | exact hd | exact hm2 | exact hc32 | exact hd2 | exact rfl))) | (apply val_load; (· exact rfl); (· first | exact lst_cell hc hg (by simp [ids]) hil (by assumption) | exact lar_cell hc1 hg1 (by simp [ids]) hk rfl)) | (apply val_loadAll; (· exact rfl); (· (repeat (first | exact Has.here | apply Has.there))); (· exact rfl)))); (· decide +kernel); (· exact rfl); (· exact rfl))
      refine dr_stab 16 rfl rfl (Val.s (val_move rfl)) (by decide +kernel) rfl rfl ?_
      refine dr_stab 17 rfl rfl (Val.s (val_index rfl rfl (by omega) (by first | (rw [Int.toNat_natCast, Nat.mul_one, Nat.zero_add]) | (rw [Int.toNat_natCast, Nat.mul_one]) | (rw [Int.toNat_natCast, Nat.zero_add]) | (rw [Int.toNat_natCast]) | exact rfl))) (by decide +kernel) rfl rfl ?_
      refine dr_stab 18 rfl rfl (Val.s (val_fieldAddr rfl)) (by decide +kernel) rfl rfl ?_
      (apply dr_stab 19; (· exact rfl); (· exact rfl); (· apply ValAt.s; (first | (apply val_load; (· exact rfl); (· apply cell_of_has; (· (repeat (first | exact Has.here | apply Has.there))); (· first | exact hp | exact hm | exact hc3 | exact hd | exact hm2 | exact hc32 | exact hd2 | exact rfl))) | (apply val_load; (· exact rfl); (· first | exact lst_cell hc hg (by simp [ids]) hil (by assumption) | exact lar_cell hc1 hg1 (by simp [ids]) hk rfl)) | (apply val_loadAll; (· exact rfl); (· (repeat (first | exact Has.here | apply Has.there))); (· exact rfl)))); (· decide +kernel); (· exact rfl); (· exact rfl))
      refine dr_stab 20 rfl rfl (Val.s (val_move rfl)) (by decide +kernel) rfl rfl ?_
      refine dr_stab 21 rfl rfl (Val.s (val_add rfl rfl (by simp only [kLo, kHi]; omega))) (by decide +kernel) rfl rfl ?_
      refine dr_stab 22 rfl rfl (Val.s (val_move rfl)) (by decide +kernel) rfl rfl ?_
      (apply dr_stab 23; (· exact rfl); (· exact rfl); (· apply Val.s; first | first | exact val_remE rfl rfl (by omega) (by assumption) | exact val_neqb0 rfl rfl | exact val_cmp_f rfl rfl rfl (fun h => h rfl)); (· decide +kernel); (· exact rfl); (· exact rfl))
      refine dr_stab 24 rfl rfl (Val.s (val_build rfl rfl (ones rfl) rfl)) (by decide +kernel) rfl rfl ?_
      refine dr_two 1 25 rfl rfl (by decide +kernel) (by (apply le_of_picks; (repeat (first | exact Picks.nil | (apply Picks.cons; (· (repeat (first | exact Pick.here | apply Pick.there)))) | apply Picks.empty)))) ?_ ?_
      · (apply op_load; (· exact rfl); (· exact rfl); (· apply cell_of_has; (· (repeat (first | exact Has.here | apply Has.there))); (· first | exact hp | exact hm | exact hc3 | exact hd | exact hm2 | exact hc32 | exact hd2 | exact rfl)))
        refine ops_nil ?_
        refine fin_draw ?_
        (refine dr_one 25 rfl (by decide +kernel) (by (apply le_of_picks; (repeat (first | exact Picks.nil | (apply Picks.cons; (· (repeat (first | exact Pick.here | apply Pick.there)))) | apply Picks.empty)))) ?_)
        (refine op_slice1 rfl rfl (by first | rfl | simp [Value.cells]) (by decide) ?_; intro _ _)
        refine ops_nil ?_
        refine fin_draw ?_
        (refine dr_one 26 rfl (by decide +kernel) (by (apply le_of_picks; (repeat (first | exact Picks.nil | (apply Picks.cons; (· (repeat (first | exact Pick.here | apply Pick.there)))) | apply Picks.empty)))) ?_)
        (apply op_append1; (· exact rfl); (· exact rfl); (· exact rfl); (· exact hov); (· (repeat (first | exact Pick.here | apply Pick.there))); (· (repeat (first | exact Has.here | apply Has.there))); (· exact rfl); (· first | exact onesC rfl | (intro u hu; simp [Value.cells] at hu; rcases hu with rfl | rfl | rfl | rfl | rfl | rfl <;> rfl) | (intro u hu; simp [Value.cells] at hu; rcases hu with rfl | rfl | rfl <;> rfl) | (intro u hu; simp [Value.cells] at hu; rcases hu with rfl | rfl <;> rfl) | (intro u hu; simp [Value.cells] at hu; subst hu; rfl)); (· omega); (· omega); (· exact rfl))
        intro v' l' hov'
        obtain ⟨A2, c2, rfl⟩ := hov'.isSlice
        refine ops_nil ?_
        refine fin_draw ?_
        refine dr_stab 27 rfl rfl (Val.s (val_fieldAddr rfl)) (by decide +kernel) rfl rfl ?_
        (refine dr_one 28 rfl (by decide +kernel) (by (apply le_of_picks; (repeat (first | exact Picks.nil | (apply Picks.cons; (· (repeat (first | exact Pick.here | apply Pick.there)))) | apply Picks.empty)))) ?_)
        (apply op_store; (· exact rfl); (· exact rfl); (· exact rfl); (· (repeat (first | exact Swap.here | apply Swap.there))); (· first | decide | (simp; done) | (simp; omega) | assumption))
        refine ops_nil ?_
        refine fin_draw ?_
        (refine dr_done (by decide +kernel) (by (apply le_of_picks; (repeat (first | exact Picks.nil | (apply Picks.cons; (· (repeat (first | exact Pick.here | apply Pick.there)))) | apply Picks.empty)))) ?_)
        refine fin_block ?_
        refine fin_code ?_
        refine run_region rfl ?_
        refine op_move rfl rfl ?_
        refine op_sub rfl rfl rfl (by simp only [kLo, kHi]; omega) ?_
        refine op_assign rfl rfl ?_
        refine ops_nil ?_
        refine fin_round (k', .slice A2 (l[i].st.arcs.length - (k' + 1) + 1) c2, l') (by dsimp only; omega) (by (repeat (first | exact Sub.nil _ | (refine Sub.cons rfl ?_)))) (by (apply le_of_picks; (repeat (first | exact Picks.nil | (apply Picks.cons; (· (repeat (first | exact Pick.here | apply Pick.there)))) | apply Picks.empty)))) ⟨by dsimp only; omega, ?_⟩
        dsimp only
        rw [e2, e3, List.map_append, List.flatMap_append]
        simpa [larV, turnA, Value.cells] using hov'
      · (refine op_slice1 rfl rfl (by first | rfl | simp [Value.cells]) (by decide) ?_; intro _ _)
        refine ops_nil ?_
        refine fin_draw ?_
        (refine dr_one 1 rfl (by decide +kernel) (by (apply le_of_picks; (repeat (first | exact Picks.nil | (apply Picks.cons; (· (repeat (first | exact Pick.here | apply Pick.there)))) | apply Picks.empty)))) ?_)
        (apply op_load; (· exact rfl); (· exact rfl); (· apply cell_of_has; (· (repeat (first | exact Has.here | apply Has.there))); (· first | exact hp | exact hm | exact hc3 | exact hd | exact hm2 | exact hc32 | exact hd2 | exact rfl)))
        refine ops_nil ?_
        refine fin_draw ?_
        (refine dr_one 26 rfl (by decide +kernel) (by (apply le_of_picks; (repeat (first | exact Picks.nil | (apply Picks.cons; (· (repeat (first | exact Pick.here | apply Pick.there)))) | apply Picks.empty)))) ?_)
        (apply op_append1; (· exact rfl); (· exact rfl); (· exact rfl); (· exact hov); (· (repeat (first | exact Pick.here | apply Pick.there))); (· (repeat (first | exact Has.here | apply Has.there))); (· exact rfl); (· first | exact onesC rfl | (intro u hu; simp [Value.cells] at hu; rcases hu with rfl | rfl | rfl | rfl | rfl | rfl <;> rfl) | (intro u hu; simp [Value.cells] at hu; rcases hu with rfl | rfl | rfl <;> rfl) | (intro u hu; simp [Value.cells] at hu; rcases hu with rfl | rfl <;> rfl) | (intro u hu; simp [Value.cells] at hu; subst hu; rfl)); (· omega); (· omega); (· exact rfl))
        intro v' l' hov'
        obtain ⟨A2, c2, rfl⟩ := hov'.isSlice
        refine ops_nil ?_
        refine fin_draw ?_
        refine dr_stab 27 rfl rfl (Val.s (val_fieldAddr rfl)) (by decide +kernel) rfl rfl ?_
        (refine dr_one 28 rfl (by decide +kernel) (by (apply le_of_picks; (repeat (first | exact Picks.nil | (apply Picks.cons; (· (repeat (first | exact Pick.here | apply Pick.there)))) | apply Picks.empty)))) ?_)
        (apply op_store; (· exact rfl); (· exact rfl); (· exact rfl); (· (repeat (first | exact Swap.here | apply Swap.there))); (· first | decide | (simp; done) | (simp; omega) | assumption))
        refine ops_nil ?_
        refine fin_draw ?_
        (refine dr_done (by decide +kernel) (by (apply le_of_picks; (repeat (first | exact Picks.nil | (apply Picks.cons; (· (repeat (first | exact Pick.here | apply Pick.there)))) | apply Picks.empty)))) ?_)
        refine fin_block ?_
        refine fin_code ?_
        refine run_region rfl ?_
        refine op_move rfl rfl ?_
        refine op_sub rfl rfl rfl (by simp only [kLo, kHi]; omega) ?_
        refine op_assign rfl rfl ?_
        refine ops_nil ?_
        refine fin_round (k', .slice A2 (l[i].st.arcs.length - (k' + 1) + 1) c2, l') (by dsimp only; omega) (by (repeat (first | exact Sub.nil _ | (refine Sub.cons rfl ?_)))) (by (apply le_of_picks; (repeat (first | exact Picks.nil | (apply Picks.cons; (· (repeat (first | exact Pick.here | apply Pick.there)))) | apply Picks.empty)))) ⟨by dsimp only; omega, ?_⟩
        dsimp only
        rw [e2, e3, List.map_append, List.flatMap_append]
        simpa [larV, turnA, Value.cells] using hov'
  · have hien : i = n := by omega
    subst hien
    have hpn : (s + b) % i < i := Nat.mod_lt _ (by omega)
    have htrail := fun k hk => built_trail (l.map (·.st)) s (by omega) (by omega) (fun x hx => by rw [hll]; exact hgn x hx) rs hrs k hk
    refine run_seq ?_
    refine run_seq ?_
    refine run_region rfl ?_
    refine op_move rfl rfl ?_
    refine op_move rfl rfl ?_
    refine op_cmp_f rfl rfl rfl rfl (by first | (simp only [cmpP]; done) | (simp only [cmpP]; omega)) ?_
    refine ops_nil ?_
    refine fin_code ?_
    refine run_cond_f rfl ?_
    refine run_exit ?_
    refine fin_exit_code ?_
    refine fin_exit_inv ?_
    refine fin_exit_here ?_
    refine fin_code ?_
    refine run_seq ?_
    refine run_region rfl ?_
    refine op_move rfl rfl ?_
    refine op_move rfl rfl ?_
    refine op_move rfl rfl ?_
    ((first | (apply op_call; (· exact rfl)) | apply op_call0); (· exact rfl)); (case' hc => (refine fun w hG hw => utf8_any w (some ⟨g, o, none⟩) i c s t l hl (by omega) (by omega) (by omega) ?_ ?_)); (case hp => (repeat (first | exact Picks.nil | (apply Picks.cons; (· (repeat (first | exact Pick.here | apply Pick.there)))) | apply Picks.empty)))
    · exact hr0.now hG
    · exact fun k h => ⟨(hgood k h).ok, (hin k h).rd.now hG⟩
    have htl := trail_len (builtOf (l.map (·.st)) s) (bts t) (builtOf (l.map (·.st)) s).init
    rw [bts_len] at htl
    rw [← hbts] at htrail
    generalize builtOf (l.map (·.st)) s = b1 at *
    generalize b1.trail b1.init (bts t) = T1 at *
    rintro ⟨⟨v1, l1⟩, ⟨v2, l2⟩, ⟨v3, l3⟩⟩ ⟨ho1, ho2, ho3⟩
    dsimp only at ho1 ho2 ho3 ⊢
    obtain ⟨g1, cap1, cur1, rfl, rfl, _, _, hz1, hcur1, hx1⟩ := ho1.openN (by omega)
    obtain ⟨g2, cap2, cur2, rfl, rfl, _, _, hz2, hcur2, hx2⟩ := ho2.openN (by omega)
    obtain ⟨g3, cap3, cur3, rfl, rfl, _, _, hz3, hcur3, hx3⟩ := ho3.openN (by omega)
    have hsz := flat_len lstV 4 (fun _ => rfl) T
    have hoT := ownAll (e := 45) (size := 4) (n := i) (g := gt) (xs := T.flatMap lstV) (by rw [hsz, hT]) (by simp only [maxLen]; omega)
    have hemore : T.flatMap lstV ++ (Value.agg #[.int .i64 i, .slice none 0 0, .int .u8 km, .bool em]).cells.toList = (T ++ [(⟨⟨i, [], km, em⟩, none, 0⟩ : LStM)]).flatMap lstV := by simp [lstV, Value.cells]
    have hin2 : ∀ w, At w H → ∀ k (h : k < (T ++ [(⟨⟨i, [], km, em⟩, none, 0⟩ : LStM)]).length), Rd w w.heap.size (T ++ [(⟨⟨i, [], km, em⟩, none, 0⟩ : LStM)])[k].A ((T ++ [(⟨⟨i, [], km, em⟩, none, 0⟩ : LStM)])[k].st.arcs.flatMap larV) := by
      intro w hw k h
      have hm := List.getElem_mem h
      rcases List.mem_append.1 hm with hm | hm
      · exact hIn w hw _ hm
      · rw [List.mem_singleton.1 hm]
        exact .inl rfl
    have hg2 : ∀ x ∈ (T ++ [(⟨⟨i, [], km, em⟩, none, 0⟩ : LStM)]).map (·.st), LGood (i + 1) x := by
      intro x hx
      rw [List.map_append] at hx
      rcases List.mem_append.1 hx with hx | hx
      · obtain ⟨q, hq, rfl⟩ := List.getElem_of_mem hx
        have hq' : q < i := by rw [← hT]; simpa using hq
        obtain ⟨j, hj, hjq⟩ : ∃ j, j < i ∧ (j + b) % i = q := by
          by_cases hbq : b ≤ q
          · exact ⟨q - b, by omega, by rw [show q - b + b = q by omega]; exact Nat.mod_eq_of_lt hq'⟩
          · exact ⟨q + i - b, by omega, by rw [show q + i - b + b = q + i by omega, Nat.add_mod_right]; exact Nat.mod_eq_of_lt hq'⟩
        have := hdone j (by omega) hj
        rw [hjq, ← List.getElem?_map, List.getElem?_eq_getElem hq, Option.some.injEq] at this
        rw [this]
        exact turnS_good (by omega) (hgood j (by omega))
      · rw [List.mem_singleton.1 hx]
        exact ⟨⟨by show (-1 : Int) ≤ i; omega, by show (i : Int) < (i + 1 : Nat); omega, Nat.zero_le _, fun a ha => by cases ha⟩, fun j hj => by cases hj⟩
    have hturned : Turned i b (l.map (·.st)) ((T ++ [(⟨⟨i, [], km, em⟩, none, 0⟩ : LStM)]).map (·.st)) := by
      refine ⟨hll, hgn, fun j hj => ?_⟩
      have hj' : j < l.length := by simpa using hj
      have hlt : (j + b) % i < i := Nat.mod_lt _ (by omega)
      rw [List.getElem?_map, List.getElem?_append_left (by omega), hdone j hj' (by omega), List.getElem_map]
    have hlen2 : (T ++ [(⟨⟨i, [], km, em⟩, none, 0⟩ : LStM)]).length = i + 1 := by simp [hT]
    generalize T ++ [(⟨⟨i, [], km, em⟩, none, 0⟩ : LStM)] = T' at *
    have hll2 : (T'.map (·.st)).length = i + 1 := by simpa using hlen2
    have htrail2 := fun k hk => built_trail (T'.map (·.st)) ((s + b) % i) (by omega) (by omega) (fun x hx => by rw [hll2]; exact hg2 x hx) rs hrs k hk
    refine op_move rfl rfl ?_
    refine op_extract rfl rfl rfl ?_
    refine op_extract rfl rfl rfl ?_
    refine op_extract rfl rfl rfl ?_
    refine op_extract rfl rfl rfl ?_
    refine op_assign rfl rfl ?_
    refine op_assign rfl rfl ?_
    refine op_assign rfl rfl ?_
    refine op_assign rfl rfl ?_
    refine ops_nil ?_
    refine fin_code ?_
    refine run_seq ?_
    refine run_drawS [[⟨gm, .cells #[.int .i64 i, .slice none 0 0, .int .u8 km, .bool em] 45 (0, 0)⟩]] (by kernel_rfl) ?_
    refine dr_stab 0 rfl rfl (Val.s (val_move rfl)) (by decide +kernel) rfl rfl ?_
    (apply dr_stab 1; (· exact rfl); (· exact rfl); (· apply ValAt.s; (first | (apply val_load; (· exact rfl); (· apply cell_of_has; (· (repeat (first | exact Has.here | apply Has.there))); (· first | exact hp | exact hm | exact hc3 | exact hd | exact hm2 | exact hc32 | exact hd2 | exact rfl))) | (apply val_load; (· exact rfl); (· first | exact lst_cell hc hg (by simp [ids]) hil (by assumption) | exact lar_cell hc1 hg1 (by simp [ids]) hk rfl)) | (apply val_loadAll; (· exact rfl); (· (repeat (first | exact Has.here | apply Has.there))); (· exact rfl)))); (· decide +kernel); (· exact rfl); (· exact rfl))
    refine dr_stab 4 rfl rfl (Val.s (val_move rfl)) (by decide +kernel) rfl rfl ?_
    refine dr_stab 5 rfl rfl (Val.s (val_move rfl)) (by decide +kernel) rfl rfl ?_
    refine dr_stab 6 rfl rfl (Val.s (val_add rfl rfl (by simp only [kLo, kHi]; omega))) (by decide +kernel) rfl rfl ?_
    refine dr_stab 7 rfl rfl (Val.s (val_move rfl)) (by decide +kernel) rfl rfl ?_
    refine dr_stab 8 rfl rfl (Val.s (val_remN rfl rfl (by omega))) (by decide +kernel) rfl rfl ?_
    refine dr_stab 9 rfl rfl (Val.s (val_move rfl)) (by decide +kernel) rfl rfl ?_
    (refine dr_one 2 rfl (by decide +kernel) (by (apply le_of_picks; (repeat (first | exact Picks.nil | (apply Picks.cons; (· (repeat (first | exact Pick.here | apply Pick.there)))) | apply Picks.empty)))) ?_)
    (refine op_slice1 rfl rfl (by first | rfl | simp [Value.cells]) (by decide) ?_; intro _ _)
    refine ops_nil ?_
    refine fin_draw ?_
    (refine dr_one 3 rfl (by decide +kernel) (by (apply le_of_picks; (repeat (first | exact Picks.nil | (apply Picks.cons; (· (repeat (first | exact Pick.here | apply Pick.there)))) | apply Picks.empty)))) ?_)
    (apply op_append1; (· exact rfl); (· exact rfl); (· exact rfl); (· exact hoT); (· (repeat (first | exact Pick.here | apply Pick.there))); (· (repeat (first | exact Has.here | apply Has.there))); (· exact rfl); (· first | exact onesC rfl | (intro u hu; simp [Value.cells] at hu; rcases hu with rfl | rfl | rfl | rfl | rfl | rfl <;> rfl) | (intro u hu; simp [Value.cells] at hu; rcases hu with rfl | rfl | rfl <;> rfl) | (intro u hu; simp [Value.cells] at hu; rcases hu with rfl | rfl <;> rfl) | (intro u hu; simp [Value.cells] at hu; subst hu; rfl)); (· omega); (· omega); (· exact rfl))
    intro v' l' hoT'
    refine ops_nil ?_
    refine fin_draw ?_
    obtain ⟨A2, c2, rfl⟩ := hoT'.isSlice
    rw [hemore] at hoT'
    (refine dr_one 10 rfl (by decide +kernel) (by (apply le_of_picks; (repeat (first | exact Picks.nil | (apply Picks.cons; (· (repeat (first | exact Pick.here | apply Pick.there)))) | apply Picks.empty)))) ?_)
    ((first | (apply op_call; (· exact rfl)) | apply op_call0); (· exact rfl)); (case' hc => (refine fun w hG hw => utf8_any w A2 (i + 1) c2 ((s + b) % i) t T' hlen2 (by omega) (by omega) (by omega) ?_ ?_)); (case hp => (repeat (first | exact Picks.nil | (apply Picks.cons; (· (repeat (first | exact Pick.here | apply Pick.there)))) | apply Picks.empty)))
    · exact hoT'.rd (At.item hG.now (by (repeat (first | exact Pick.here | apply Pick.there))))
    · exact fun k h => ⟨(hg2 _ (List.mem_map.2 ⟨_, List.getElem_mem h, rfl⟩)).ok, hin2 w (At.item hG.now (by (repeat (first | exact Pick.here | apply Pick.there)))) k h⟩
    have htl2 := trail_len (builtOf (T'.map (·.st)) ((s + b) % i)) (bts t) (builtOf (T'.map (·.st)) ((s + b) % i)).init
    rw [bts_len] at htl2
    rw [← hbts] at htrail2
    generalize builtOf (T'.map (·.st)) ((s + b) % i) = b2 at *
    generalize b2.trail b2.init (bts t) = T2 at *
    rintro ⟨⟨v4, l4⟩, ⟨v5, l5⟩, ⟨v6, l6⟩⟩ ⟨ho4, ho5, ho6⟩
    dsimp only at ho4 ho5 ho6 ⊢
    obtain ⟨g4, cap4, cur4, rfl, rfl, _, _, hz4, hcur4, hx4⟩ := ho4.openN (by omega)
    obtain ⟨g5, cap5, cur5, rfl, rfl, _, _, hz5, hcur5, hx5⟩ := ho5.openN (by omega)
    obtain ⟨g6, cap6, cur6, rfl, rfl, _, _, hz6, hcur6, hx6⟩ := ho6.openN (by omega)
    refine ops_nil ?_
    refine fin_draw ?_
    refine dr_stab 11 rfl rfl (Val.s (val_move rfl)) (by decide +kernel) rfl rfl ?_
    refine dr_stab 12 rfl rfl (Val.s (val_extract rfl rfl)) (by decide +kernel) rfl rfl ?_
    refine dr_stab 13 rfl rfl (Val.s (val_extract rfl rfl)) (by decide +kernel) rfl rfl ?_
    refine dr_stab 14 rfl rfl (Val.s (val_extract rfl rfl)) (by decide +kernel) rfl rfl ?_
    refine dr_stab 15 rfl rfl (Val.s (val_extract rfl rfl)) (by decide +kernel) rfl rfl ?_
    refine dr_stab 16 rfl rfl (Val.s (val_assign rfl)) (by decide +kernel) rfl rfl ?_
    refine dr_stab 17 rfl rfl (Val.s (val_assign rfl)) (by decide +kernel) rfl rfl ?_
    refine dr_stab 18 rfl rfl (Val.s (val_assign rfl)) (by decide +kernel) rfl rfl ?_
    refine dr_stab 19 rfl rfl (Val.s (val_assign rfl)) (by decide +kernel) rfl rfl ?_
    (refine dr_done (by decide +kernel) (by (apply le_of_picks; (repeat (first | exact Picks.nil | (apply Picks.cons; (· (repeat (first | exact Pick.here | apply Pick.there)))) | apply Picks.empty)))) ?_)
    refine fin_code ?_
    refine run_seq ?_
    refine run_seq ?_
    refine run_region rfl ?_
    refine op_move rfl rfl ?_
    refine op_not rfl rfl ?_
    refine op_move rfl rfl ?_
    refine ops_guard_yes rfl rfl rfl ?_
    refine op_move rfl rfl ?_
    refine ops_guard_yes rfl rfl rfl ?_
    refine op_not rfl rfl ?_
    refine op_pick_f rfl rfl rfl ?_
    refine op_move rfl rfl ?_
    refine ops_guard_yes rfl rfl rfl ?_
    refine op_move rfl rfl ?_
    refine ops_guard_yes rfl rfl rfl ?_
    refine op_len rfl rfl ?_
    refine ops_guard_yes rfl rfl rfl ?_
    refine op_move rfl rfl ?_
    refine ops_guard_yes rfl rfl rfl ?_
    (refine op_val rfl (val_slen rfl) ?_)
    refine ops_guard_yes rfl rfl rfl ?_
    refine op_add rfl rfl rfl (by simp only [kLo, kHi]; omega) ?_
    refine ops_guard_yes rfl rfl rfl ?_
    refine op_cmp_f rfl rfl rfl rfl (by first | (simp only [cmpP]; done) | (simp only [cmpP]; omega)) ?_
    refine op_pick_f rfl rfl rfl ?_
    refine op_move rfl rfl ?_
    refine ops_guard_yes rfl rfl rfl ?_
    refine op_move rfl rfl ?_
    refine ops_guard_yes rfl rfl rfl ?_
    refine op_len rfl rfl ?_
    refine ops_guard_yes rfl rfl rfl ?_
    refine op_move rfl rfl ?_
    refine ops_guard_yes rfl rfl rfl ?_
    refine op_len rfl rfl ?_
    refine ops_guard_yes rfl rfl rfl ?_
    (refine op_cmp_f rfl rfl rfl rfl (fun h => h rfl) ?_)
    refine op_pick_f rfl rfl rfl ?_
    refine op_move rfl rfl ?_
    refine ops_guard_yes rfl rfl rfl ?_
    refine op_move rfl rfl ?_
    refine ops_guard_yes rfl rfl rfl ?_
    refine op_len rfl rfl ?_
    refine ops_guard_yes rfl rfl rfl ?_
    refine op_move rfl rfl ?_
    refine ops_guard_yes rfl rfl rfl ?_
    refine op_len rfl rfl ?_
    refine ops_guard_yes rfl rfl rfl ?_
    (refine op_cmp_f rfl rfl rfl rfl (fun h => h rfl) ?_)
    refine op_pick_f rfl rfl rfl ?_
    refine op_move rfl rfl ?_
    refine ops_guard_yes rfl rfl rfl ?_
    refine op_move rfl rfl ?_
    refine ops_guard_yes rfl rfl rfl ?_
    refine op_len rfl rfl ?_
    refine ops_guard_yes rfl rfl rfl ?_
    refine op_move rfl rfl ?_
    refine ops_guard_yes rfl rfl rfl ?_
    refine op_len rfl rfl ?_
    refine ops_guard_yes rfl rfl rfl ?_
    (refine op_cmp_f rfl rfl rfl rfl (fun h => h rfl) ?_)
    refine op_pick_f rfl rfl rfl ?_
    refine op_move rfl rfl ?_
    refine ops_guard_yes rfl rfl rfl ?_
    refine op_move rfl rfl ?_
    refine ops_guard_yes rfl rfl rfl ?_
    refine op_len rfl rfl ?_
    refine ops_guard_yes rfl rfl rfl ?_
    refine op_move rfl rfl ?_
    refine ops_guard_yes rfl rfl rfl ?_
    refine op_len rfl rfl ?_
    refine ops_guard_yes rfl rfl rfl ?_
    (refine op_cmp_f rfl rfl rfl rfl (fun h => h rfl) ?_)
    refine op_pick_f rfl rfl rfl ?_
    refine op_move rfl rfl ?_
    refine ops_guard_yes rfl rfl rfl ?_
    refine op_move rfl rfl ?_
    refine ops_guard_yes rfl rfl rfl ?_
    refine op_len rfl rfl ?_
    refine ops_guard_yes rfl rfl rfl ?_
    refine op_move rfl rfl ?_
    refine ops_guard_yes rfl rfl rfl ?_
    refine op_len rfl rfl ?_
    refine ops_guard_yes rfl rfl rfl ?_
    (refine op_cmp_f rfl rfl rfl rfl (fun h => h rfl) ?_)
    refine op_pick_f rfl rfl rfl ?_
    refine ops_nil ?_
    refine fin_code ?_
    refine run_cond_f rfl ?_
    refine run_skip ?_
    refine fin_code ?_
    refine run_seq ?_
    refine run_region rfl ?_
    refine op_move rfl rfl ?_
    ((first | (apply op_call; (· exact rfl)) | apply op_call0); (· exact rfl)); (case' hc => (refine fun w hG hw => places_any w A0 c0 rs (by omega) hrs ?_)); (case hp => (repeat (first | exact Picks.nil | (apply Picks.cons; (· (repeat (first | exact Pick.here | apply Pick.there)))) | apply Picks.empty)))
    · exact ho.rd (At.item hG.now (by (repeat (first | exact Pick.here | apply Pick.there))))
    rintro ⟨vp, lp⟩ hop
    dsimp only at hop ⊢
    obtain ⟨gp, capp, curp, rfl, rfl, _, _, hzp, hcurp, hxp⟩ := hop.openN (by omega)
    refine op_assign rfl rfl ?_
    refine ops_nil ?_
    refine fin_code ?_
    refine run_seq ?_
    refine run_seq ?_
    refine run_region rfl ?_
    refine op_assign rfl rfl ?_
    refine ops_nil ?_
    refine fin_code ?_
    refine run_block ?_
    refine run_loop (α := Nat) (fun x => [(0, .slice (some ⟨g, o, none⟩) i c), (11, .slice A0 rs.length c0), (18, .slice (some ⟨g1, 0, none⟩) (t.size + 1) cap1), (19, .slice (some ⟨g2, 0, none⟩) (t.size + 1) cap2), (20, .slice (some ⟨g3, 0, none⟩) (t.size + 1) cap3), (22, .slice (some ⟨g4, 0, none⟩) (t.size + 1) cap4), (23, .slice (some ⟨g5, 0, none⟩) (t.size + 1) cap5), (24, .slice (some ⟨g6, 0, none⟩) (t.size + 1) cap6), (26, .slice (some ⟨gp, 0, none⟩) (rs.length + 1) capp), (27, .int .i64 (x : Nat))])
      (fun _ => [[⟨g1, .cells cur1 5 (0, 0)⟩], [⟨g2, .cells cur2 4 (0, 0)⟩], [⟨g3, .cells cur3 4 (0, 0)⟩], [⟨g4, .cells cur4 5 (0, 0)⟩], [⟨g5, .cells cur5 4 (0, 0)⟩], [⟨g6, .cells cur6 4 (0, 0)⟩], [⟨gp, .cells curp 3 (0, 0)⟩]]) (fun x => x ≤ rs.length + 1) (fun x => rs.length + 1 - x) 0 (Nat.zero_le _) (by (repeat (first | exact Sub.nil _ | (refine Sub.cons rfl ?_)))) (by (apply le_of_picks; (repeat (first | exact Picks.nil | (apply Picks.cons; (· (repeat (first | exact Pick.here | apply Pick.there)))) | apply Picks.empty)))) ?_
    rintro x hx0
    by_cases hx : x < rs.length + 1
    rotate_left 1
    · refine run_seq ?_
      refine run_seq ?_
      refine run_region rfl ?_
      refine op_move rfl rfl ?_
      refine op_move rfl rfl ?_
      refine op_len rfl rfl ?_
      refine op_cmp_f rfl rfl rfl rfl (by first | (simp only [cmpP]; done) | (simp only [cmpP]; omega)) ?_
      refine ops_nil ?_
      refine fin_code ?_
      refine run_cond_f rfl ?_
      refine run_exit ?_
      refine fin_exit_code ?_
      refine fin_exit_inv ?_
      refine fin_exit_here ?_
      refine fin_code ?_
      refine run_seq ?_
      refine run_region rfl ?_
      refine op_assign rfl rfl ?_
      refine ops_nil ?_
      refine fin_code ?_
      refine run_ret ?_
      refine fin_ret1 rfl rfl ?_
      intro w' g
      exact hR _ _ (post_of g () trivial rfl (by (apply le_of_picks; (repeat (first | exact Picks.nil | (apply Picks.cons; (· (repeat (first | exact Pick.here | apply Pick.there)))) | apply Picks.empty)))))
    have hP := placesOf_leF (l := rs) (i := x) (by omega)
    rw [← hts] at hP
    obtain ⟨ht1, ht2⟩ := htrail x (by omega)
    obtain ⟨ht3, ht4⟩ := htrail2 x (by omega)
    have hok' := goS_ok (fun x hx => by rw [hll]; exact (hgn x hx).ok) (rs.take x) (s : Int) (by omega) (by omega)
    have hsh : turnI i b (s : Int) = (((s + b) % i : Nat) : Int) := by
      unfold turnI
      rw [if_neg (by omega), Int.toNat_natCast]
    rw [← hsh, hturned.goS (by omega) _ _ (by omega) (by omega)] at ht3 ht4
    rw [hturned.tell (by omega)] at ht3
    rw [turnI_neg] at ht4
    have hp : aget curp x = some (.int .i64 ((placesOf rs).getD x 0 : Nat)) := hcurp x _ (getD_map (by rw [placesOf_len]; omega) (fun (x : Nat) => Value.int .i64 x))
    generalize (placesOf rs).getD x 0 = p at *
    have hd := hcur1 p _ (getD_map (d := 0) (by omega) _)
    have hm := hcur2 p _ (getD_map (d := 0) (by omega) _)
    have hc3 := hcur3 p _ (getD_map (d := 0) (by omega) _)
    have hd2 := hcur4 p _ (getD_map (d := 0) (by omega) _)
    have hm2 := hcur5 p _ (getD_map (d := 0) (by omega) _)
    have hc32 := hcur6 p _ (getD_map (d := 0) (by omega) _)
    rw [ht1] at hd hm
    rw [ht3] at hd2 hm2
    have hq : decide (0 < T1.getD p 0) = decide (0 < T2.getD p 0) := by
      rw [decide_eq_decide, ht2, ht4]
    rw [hq] at hc3
    generalize decide (0 < T2.getD p 0) = q at *
    generalize tellD (l.map (·.st)) (goS (l.map (·.st)) s (rs.take x)) = td at *
    obtain ⟨te, tk⟩ := td
    dsimp only at hd hm hd2 hm2
    refine run_seq ?_
    refine run_seq ?_
    refine run_region rfl ?_
    refine op_move rfl rfl ?_
    refine op_move rfl rfl ?_
    refine op_len rfl rfl ?_
    refine op_cmp_t rfl rfl rfl rfl (by first | (simp only [cmpP]; done) | (simp only [cmpP]; omega)) ?_
    refine ops_nil ?_
    refine fin_code ?_
    refine run_cond_t rfl ?_
    refine run_skip ?_
    refine fin_code ?_
    refine run_seq ?_
    refine run_block ?_
    refine run_seq ?_
    refine run_region rfl ?_
    refine op_move rfl rfl ?_
    refine op_move rfl rfl ?_
    refine op_index rfl rfl rfl (by omega) (by first | (rw [Int.toNat_natCast, Nat.mul_one, Nat.zero_add]) | (rw [Int.toNat_natCast, Nat.mul_one]) | (rw [Int.toNat_natCast, Nat.zero_add]) | (rw [Int.toNat_natCast]) | exact rfl) ?_
    (apply op_load; (· exact rfl); (· exact rfl); (· apply cell_of_has; (· (repeat (first | exact Has.here | apply Has.there))); (· first | exact hp | exact hm | exact hc3 | exact hd | exact hm2 | exact hc32 | exact hd2 | exact rfl)))
    refine op_assign rfl rfl ?_
    refine ops_nil ?_
    refine fin_code ?_
    refine run_seq ?_
    refine run_drawS [[⟨g1, .cells cur1 5 (0, 0)⟩], [⟨g2, .cells cur2 4 (0, 0)⟩], [⟨g3, .cells cur3 4 (0, 0)⟩], [⟨g4, .cells cur4 5 (0, 0)⟩], [⟨g5, .cells cur5 4 (0, 0)⟩], [⟨g6, .cells cur6 4 (0, 0)⟩]] (by kernel_rfl) ?_
    refine dr_stab 0 rfl rfl (Val.s (val_move rfl)) (by decide +kernel) rfl rfl ?_
    refine dr_stab 1 rfl rfl (Val.s (val_move rfl)) (by decide +kernel) rfl rfl ?_
    refine dr_stab 2 rfl rfl (Val.s (val_index rfl rfl (by omega) (by first | (rw [Int.toNat_natCast, Nat.mul_one, Nat.zero_add]) | (rw [Int.toNat_natCast, Nat.mul_one]) | (rw [Int.toNat_natCast, Nat.zero_add]) | (rw [Int.toNat_natCast]) | exact rfl))) (by decide +kernel) rfl rfl ?_
    (apply dr_stab 3; (· exact rfl); (· exact rfl); (· apply ValAt.s; (first | (apply val_load; (· exact rfl); (· apply cell_of_has; (· (repeat (first | exact Has.here | apply Has.there))); (· first | exact hp | exact hm | exact hc3 | exact hd | exact hm2 | exact hc32 | exact hd2 | exact rfl))) | (apply val_load; (· exact rfl); (· first | exact lst_cell hc hg (by simp [ids]) hil (by assumption) | exact lar_cell hc1 hg1 (by simp [ids]) hk rfl)) | (apply val_loadAll; (· exact rfl); (· (repeat (first | exact Has.here | apply Has.there))); (· exact rfl)))); (· decide +kernel); (· exact rfl); (· exact rfl))
    refine dr_stab 4 rfl rfl (Val.s (val_move rfl)) (by decide +kernel) rfl rfl ?_
    refine dr_stab 5 rfl rfl (Val.s (val_move rfl)) (by decide +kernel) rfl rfl ?_
    refine dr_stab 6 rfl rfl (Val.s (val_index rfl rfl (by omega) (by first | (rw [Int.toNat_natCast, Nat.mul_one, Nat.zero_add]) | (rw [Int.toNat_natCast, Nat.mul_one]) | (rw [Int.toNat_natCast, Nat.zero_add]) | (rw [Int.toNat_natCast]) | exact rfl))) (by decide +kernel) rfl rfl ?_
    (apply dr_stab 7; (· exact rfl); (· exact rfl); (· apply ValAt.s; (first | (apply val_load; (· exact rfl); (· apply cell_of_has; (· (repeat (first | exact Has.here | apply Has.there))); (· first | exact hp | exact hm | exact hc3 | exact hd | exact hm2 | exact hc32 | exact hd2 | exact rfl))) | (apply val_load; (· exact rfl); (· first | exact lst_cell hc hg (by simp [ids]) hil (by assumption) | exact lar_cell hc1 hg1 (by simp [ids]) hk rfl)) | (apply val_loadAll; (· exact rfl); (· (repeat (first | exact Has.here | apply Has.there))); (· exact rfl)))); (· decide +kernel); (· exact rfl); (· exact rfl))
    (apply dr_stab 8; (· exact rfl); (· exact rfl); (· apply Val.s; first | first | exact val_remE rfl rfl (by omega) (by assumption) | exact val_neqb0 rfl rfl | exact val_cmp_f rfl rfl rfl (fun h => h rfl)); (· decide +kernel); (· exact rfl); (· exact rfl))
    refine dr_stab 9 rfl rfl (Val.s (val_move rfl)) (by decide +kernel) rfl rfl ?_
    first | refine dr_stab 10 rfl rfl (Val.s (val_move rfl)) (by decide +kernel) rfl rfl ?_ | refine dr_off 10 rfl rfl (by decide +kernel) rfl rfl ?_
    first | refine dr_stab 11 rfl rfl (Val.s (val_move rfl)) (by decide +kernel) rfl rfl ?_ | refine dr_off 11 rfl rfl (by decide +kernel) rfl rfl ?_
    refine dr_stab 12 rfl rfl (Val.s (val_index rfl rfl (by omega) (by first | (rw [Int.toNat_natCast, Nat.mul_one, Nat.zero_add]) | (rw [Int.toNat_natCast, Nat.mul_one]) | (rw [Int.toNat_natCast, Nat.zero_add]) | (rw [Int.toNat_natCast]) | exact rfl))) (by decide +kernel) rfl rfl ?_
    (apply dr_stab 13; (· exact rfl); (· exact rfl); (· apply ValAt.s; (first | (apply val_load; (· exact rfl); (· apply cell_of_has; (· (repeat (first | exact Has.here | apply Has.there))); (· first | exact hp | exact hm | exact hc3 | exact hd | exact hm2 | exact hc32 | exact hd2 | exact rfl))) | (apply val_load; (· exact rfl); (· first | exact lst_cell hc hg (by simp [ids]) hil (by assumption) | exact lar_cell hc1 hg1 (by simp [ids]) hk rfl)) | (apply val_loadAll; (· exact rfl); (· (repeat (first | exact Has.here | apply Has.there))); (· exact rfl)))); (· decide +kernel); (· exact rfl); (· exact rfl))
    first | refine dr_stab 14 rfl rfl (Val.s (val_move rfl)) (by decide +kernel) rfl rfl ?_ | refine dr_off 14 rfl rfl (by decide +kernel) rfl rfl ?_
    first | refine dr_stab 15 rfl rfl (Val.s (val_move rfl)) (by decide +kernel) rfl rfl ?_ | refine dr_off 15 rfl rfl (by decide +kernel) rfl rfl ?_
    refine dr_stab 16 rfl rfl (Val.s (val_index rfl rfl (by omega) (by first | (rw [Int.toNat_natCast, Nat.mul_one, Nat.zero_add]) | (rw [Int.toNat_natCast, Nat.mul_one]) | (rw [Int.toNat_natCast, Nat.zero_add]) | (rw [Int.toNat_natCast]) | exact rfl))) (by decide +kernel) rfl rfl ?_
    (apply dr_stab 17; (· exact rfl); (· exact rfl); (· apply ValAt.s; (first | (apply val_load; (· exact rfl); (· apply cell_of_has; (· (repeat (first | exact Has.here | apply Has.there))); (· first | exact hp | exact hm | exact hc3 | exact hd | exact hm2 | exact hc32 | exact hd2 | exact rfl))) | (apply val_load; (· exact rfl); (· first | exact lst_cell hc hg (by simp [ids]) hil (by assumption) | exact lar_cell hc1 hg1 (by simp [ids]) hk rfl)) | (apply val_loadAll; (· exact rfl); (· (repeat (first | exact Has.here | apply Has.there))); (· exact rfl)))); (· decide +kernel); (· exact rfl); (· exact rfl))
    (apply dr_stab 18; (· exact rfl); (· exact rfl); (· apply Val.s; first | first | exact val_remE rfl rfl (by omega) (by assumption) | exact val_neqb0 rfl rfl | exact val_cmp_f rfl rfl rfl (fun h => h rfl)); (· decide +kernel); (· exact rfl); (· exact rfl))
    refine dr_stab 19 rfl rfl (Val.s (val_pick_f rfl rfl)) (by decide +kernel) rfl rfl ?_
    refine dr_stab 20 rfl rfl (Val.s (val_move rfl)) (by decide +kernel) rfl rfl ?_
    first | refine dr_stab 21 rfl rfl (Val.s (val_move rfl)) (by decide +kernel) rfl rfl ?_ | refine dr_off 21 rfl rfl (by decide +kernel) rfl rfl ?_
    first | refine dr_stab 22 rfl rfl (Val.s (val_move rfl)) (by decide +kernel) rfl rfl ?_ | refine dr_off 22 rfl rfl (by decide +kernel) rfl rfl ?_
    refine dr_stab 23 rfl rfl (Val.s (val_index rfl rfl (by omega) (by first | (rw [Int.toNat_natCast, Nat.mul_one, Nat.zero_add]) | (rw [Int.toNat_natCast, Nat.mul_one]) | (rw [Int.toNat_natCast, Nat.zero_add]) | (rw [Int.toNat_natCast]) | exact rfl))) (by decide +kernel) rfl rfl ?_
    (apply dr_stab 24; (· exact rfl); (· exact rfl); (· apply ValAt.s; (first | (apply val_load; (· exact rfl); (· apply cell_of_has; (· (repeat (first | exact Has.here | apply Has.there))); (· first | exact hp | exact hm | exact hc3 | exact hd | exact hm2 | exact hc32 | exact hd2 | exact rfl))) | (apply val_load; (· exact rfl); (· first | exact lst_cell hc hg (by simp [ids]) hil (by assumption) | exact lar_cell hc1 hg1 (by simp [ids]) hk rfl)) | (apply val_loadAll; (· exact rfl); (· (repeat (first | exact Has.here | apply Has.there))); (· exact rfl)))); (· decide +kernel); (· exact rfl); (· exact rfl))
    first | refine dr_stab 25 rfl rfl (Val.s (val_move rfl)) (by decide +kernel) rfl rfl ?_ | refine dr_off 25 rfl rfl (by decide +kernel) rfl rfl ?_
    first | refine dr_stab 26 rfl rfl (Val.s (val_move rfl)) (by decide +kernel) rfl rfl ?_ | refine dr_off 26 rfl rfl (by decide +kernel) rfl rfl ?_
    refine dr_stab 27 rfl rfl (Val.s (val_index rfl rfl (by omega) (by first | (rw [Int.toNat_natCast, Nat.mul_one, Nat.zero_add]) | (rw [Int.toNat_natCast, Nat.mul_one]) | (rw [Int.toNat_natCast, Nat.zero_add]) | (rw [Int.toNat_natCast]) | exact rfl))) (by decide +kernel) rfl rfl ?_
    (apply dr_stab 28; (· exact rfl); (· exact rfl); (· apply ValAt.s; (first | (apply val_load; (· exact rfl); (· apply cell_of_has; (· (repeat (first | exact Has.here | apply Has.there))); (· first | exact hp | exact hm | exact hc3 | exact hd | exact hm2 | exact hc32 | exact hd2 | exact rfl))) | (apply val_load; (· exact rfl); (· first | exact lst_cell hc hg (by simp [ids]) hil (by assumption) | exact lar_cell hc1 hg1 (by simp [ids]) hk rfl)) | (apply val_loadAll; (· exact rfl); (· (repeat (first | exact Has.here | apply Has.there))); (· exact rfl)))); (· decide +kernel); (· exact rfl); (· exact rfl))
    (apply dr_stab 29; (· exact rfl); (· exact rfl); (· apply Val.s; first | first | exact val_remE rfl rfl (by omega) (by assumption) | exact val_neqb0 rfl rfl | exact val_cmp_f rfl rfl rfl (fun h => h rfl)); (· decide +kernel); (· exact rfl); (· exact rfl))
    refine dr_stab 30 rfl rfl (Val.s (val_pick_f rfl rfl)) (by decide +kernel) rfl rfl ?_
    (refine dr_done (by decide +kernel) (by (apply le_of_picks; (repeat (first | exact Picks.nil | (apply Picks.cons; (· (repeat (first | exact Pick.here | apply Pick.there)))) | apply Picks.empty)))) ?_)
    refine fin_code ?_
    refine run_cond_f rfl ?_
    refine run_skip ?_
    refine fin_block ?_
    refine fin_code ?_
    refine run_region rfl ?_
    refine op_move rfl rfl ?_
    refine op_add rfl rfl rfl (by simp only [kLo, kHi]; omega) ?_
    refine op_assign rfl rfl ?_
    refine ops_nil ?_
    refine fin_round (x + 1) (by omega) (by (repeat (first | exact Sub.nil _ | (refine Sub.cons rfl ?_)))) (by (apply le_of_picks; (repeat (first | exact Picks.nil | (apply Picks.cons; (· (repeat (first | exact Pick.here | apply Pick.there)))) | apply Picks.empty)))) (by omega)
end Go.Proofs.Eng
