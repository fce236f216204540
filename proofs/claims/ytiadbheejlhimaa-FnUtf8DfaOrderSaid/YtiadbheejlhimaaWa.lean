/- A part of the proof: what functions of the program do, step by step. -/
import Derived.Test.YtiadbheejlhimaaVm
set_option linter.unusedVariables false
set_option linter.unusedSimpArgs false
namespace Go.Proofs.Eng
open Go.RowKit
/-- A state that comes in. -/
structure LIn (w : World) (s : LStM) : Prop where
  few : s.st.arcs.length ≤ 9223372036854775807
  rd : Rd w w.heap.size s.A (s.st.arcs.flatMap larV)
  r32 : ∀ a ∈ s.st.arcs, -2147483648 ≤ a.r ∧ a.r ≤ 2147483647
theorem getD_map {α β : Type} {l : List α} {k : Nat} {d : α} (h : k < l.length) (f : α → β) : (l.map f)[k]? = some (f (l.getD k d)) := by
  rw [List.getElem?_map, List.getElem?_eq_getElem h, List.getD_eq_getElem?_getD, List.getElem?_eq_getElem h]
  rfl
theorem placesOf_leF {l : List Nat} {i : Nat} (h : i ≤ l.length) : (placesOf l).getD i 0 ≤ (l.flatMap encN).length := by
  rw [placesOf_get h]
  have e : l.flatMap encN = (l.take i).flatMap encN ++ (l.drop i).flatMap encN := by rw [← List.flatMap_append, List.take_append_drop]
  rw [e, List.length_append]
  omega
theorem goS_snoc {sts : List LSt} {l : List Nat} {a : Int} {i : Nat} (h : i < l.length) : goS sts a (l.take (i + 1)) = nxt sts (goS sts a (l.take i)) (l.getD i 0) := by
  rw [List.take_succ_eq_append_getElem h, goS_append, List.getD_eq_getElem?_getD, List.getElem?_eq_getElem h]
  rfl
theorem flat_pos : ∀ (l : List Nat), l.length ≤ (l.flatMap encN).length
  | [] => Nat.zero_le _
  | r :: l => by
    have := flat_pos l
    have := encN_pos r
    rw [List.flatMap_cons, List.length_append, List.length_cons]
    omega
theorem flat_le4 : ∀ (l : List Nat), (l.flatMap encN).length ≤ 4 * l.length
  | [] => Nat.zero_le _
  | r :: l => by
    have := flat_le4 l
    have := encN_len4 r
    rw [List.flatMap_cons, List.length_append, List.length_cons]
    omega
set_option maxRecDepth 100000 in
set_option maxHeartbeats 16000000 in
theorem lawU_any (w : World) (A : Option Addr) (n c : Nat) (start : Int) (t : ByteArray) (l : List LStM) (hl : l.length = n) (hn : n ≤ 9223372036854775807) (hr : Rd w w.heap.size A (l.flatMap lstV)) (hin : ∀ i (h : i < l.length), LIn w l[i]) :
    Calls Try.prog 4 #[.slice A n c, .int .i64 start, .string t] w (Post w ([] : List Hp).flatten (fun _ : Unit => .bool true) (fun _ => ([] : List Hp).flatten) (fun _ => True)) := by
  refine enter [] Try.func4 rfl rfl (At.nil w) (Le.refl _) ?_
  intro R hR
  refine run_seq ?_
  refine run_region rfl ?_
  refine op_assign rfl rfl ?_
  refine ops_nil ?_
  refine fin_code ?_
  refine run_seq ?_
  refine run_seq ?_
  refine run_region rfl ?_
  refine op_move rfl rfl ?_
  ((first | (apply op_call; (· exact rfl)) | apply op_call0); (· exact rfl)); (case' hc => (refine fun w hG hw => fits9_any w A n c l hl hn ?_)); (case hp => (repeat (first | exact Picks.nil | (apply Picks.cons; (· (repeat (first | exact Pick.here | apply Pick.there)))) | apply Picks.empty)))
  · exact hr.now hG
  intro b hb
  cases b with
  | false =>
    refine op_not rfl rfl ?_
    refine op_move rfl rfl ?_
    refine ops_off1 rfl rfl ?_
    refine ops_off1 rfl rfl ?_
    refine ops_off1 rfl rfl ?_
    refine op_pick_t rfl rfl rfl ?_
    refine ops_nil ?_
    refine fin_code ?_
    refine run_cond_t rfl ?_
    refine run_seq ?_
    refine run_region rfl ?_
    refine op_assign rfl rfl ?_
    refine ops_nil ?_
    refine fin_code ?_
    refine run_ret ?_
    refine fin_ret_code ?_
    refine fin_ret1 rfl rfl ?_
    intro w' g
    exact hR _ _ (post_of g () trivial rfl (by (apply le_of_picks; (repeat (first | exact Picks.nil | (apply Picks.cons; (· (repeat (first | exact Pick.here | apply Pick.there)))) | apply Picks.empty)))))
  | true =>
  obtain ⟨hn2, hfew⟩ := hb rfl
  by_cases ht : 2147483647 < t.size
  · refine op_not rfl rfl ?_
    refine op_move rfl rfl ?_
    refine ops_guard_yes rfl rfl rfl ?_
    refine op_move rfl rfl ?_
    refine ops_guard_yes rfl rfl rfl ?_
    (refine op_val rfl (val_slen rfl) ?_)
    refine ops_guard_yes rfl rfl rfl ?_
    refine op_cmp_t rfl rfl rfl rfl (by first | (simp only [cmpP]; done) | (simp only [cmpP]; omega)) ?_
    refine op_pick_f rfl rfl rfl ?_
    refine ops_nil ?_
    refine fin_code ?_
    refine run_cond_t rfl ?_
    refine run_seq ?_
    refine run_region rfl ?_
    refine op_assign rfl rfl ?_
    refine ops_nil ?_
    refine fin_code ?_
    refine run_ret ?_
    refine fin_ret_code ?_
    refine fin_ret1 rfl rfl ?_
    intro w' g
    exact hR _ _ (post_of g () trivial rfl (by (apply le_of_picks; (repeat (first | exact Picks.nil | (apply Picks.cons; (· (repeat (first | exact Pick.here | apply Pick.there)))) | apply Picks.empty)))))
  refine op_not rfl rfl ?_
  refine op_move rfl rfl ?_
  refine ops_guard_yes rfl rfl rfl ?_
  refine op_move rfl rfl ?_
  refine ops_guard_yes rfl rfl rfl ?_
  (refine op_val rfl (val_slen rfl) ?_)
  refine ops_guard_yes rfl rfl rfl ?_
  refine op_cmp_f rfl rfl rfl rfl (by first | (simp only [cmpP]; done) | (simp only [cmpP]; omega)) ?_
  refine op_pick_f rfl rfl rfl ?_
  refine ops_nil ?_
  refine fin_code ?_
  refine run_cond_f rfl ?_
  refine run_skip ?_
  refine fin_code ?_
  refine run_seq ?_
  refine run_region rfl ?_
  refine op_move rfl rfl ?_
  ((first | (apply op_call; (· exact rfl)) | apply op_call0); (· exact rfl); rotate_left 1; (· exact fun w hG hw => letters_any w t (by omega)); rotate_right 1; (· (repeat (first | exact Picks.nil | (apply Picks.cons; (· (repeat (first | exact Pick.here | apply Pick.there)))) | apply Picks.empty))))
  rintro ⟨v0, l0, ok, rs⟩ ⟨ho, hok⟩
  dsimp only at ho hok ⊢
  cases ok with
  | false =>
    refine op_move rfl rfl ?_
    refine op_extract rfl rfl rfl ?_
    refine op_extract rfl rfl rfl ?_
    refine op_assign rfl rfl ?_
    refine op_assign rfl rfl ?_
    refine ops_nil ?_
    refine fin_code ?_
    refine run_seq ?_
    refine run_seq ?_
    refine run_region rfl ?_
    refine op_move rfl rfl ?_
    refine op_not rfl rfl ?_
    refine op_move rfl rfl ?_
    refine ops_off1 rfl rfl ?_
    refine ops_off1 rfl rfl ?_
    refine ops_off1 rfl rfl ?_
    refine op_pick_t rfl rfl rfl ?_
    refine op_move rfl rfl ?_
    refine ops_off1 rfl rfl ?_
    refine ops_off1 rfl rfl ?_
    refine ops_off1 rfl rfl ?_
    refine ops_off1 rfl rfl ?_
    refine op_pick_t rfl rfl rfl ?_
    refine ops_nil ?_
    refine fin_code ?_
    refine run_cond_t rfl ?_
    refine run_seq ?_
    refine run_region rfl ?_
    refine op_assign rfl rfl ?_
    refine ops_nil ?_
    refine fin_code ?_
    refine run_ret ?_
    refine fin_ret_code ?_
    refine fin_ret1 rfl rfl ?_
    intro w' g
    exact hR _ _ (post_of g () trivial rfl (by (apply le_of_picks; (repeat (first | exact Picks.nil | (apply Picks.cons; (· (repeat (first | exact Pick.here | apply Pick.there)))) | apply Picks.empty)))))
  | true =>
  obtain ⟨hbts, hrs⟩ := hok rfl
  obtain ⟨A0, c0, rfl⟩ := ho.isSlice
  by_cases h30 : 30 < rs.length
  · refine op_move rfl rfl ?_
    refine op_extract rfl rfl rfl ?_
    refine op_extract rfl rfl rfl ?_
    refine op_assign rfl rfl ?_
    refine op_assign rfl rfl ?_
    refine ops_nil ?_
    refine fin_code ?_
    refine run_seq ?_
    refine run_seq ?_
    refine run_region rfl ?_
    refine op_move rfl rfl ?_
    refine op_not rfl rfl ?_
    refine op_move rfl rfl ?_
    refine ops_guard_yes rfl rfl rfl ?_
    refine op_move rfl rfl ?_
    refine ops_guard_yes rfl rfl rfl ?_
    refine op_len rfl rfl ?_
    refine ops_guard_yes rfl rfl rfl ?_
    refine op_cmp_t rfl rfl rfl rfl (by first | (simp only [cmpP]; done) | (simp only [cmpP]; omega)) ?_
    refine op_pick_f rfl rfl rfl ?_
    refine op_move rfl rfl ?_
    refine ops_off1 rfl rfl ?_
    refine ops_off1 rfl rfl ?_
    refine ops_off1 rfl rfl ?_
    refine ops_off1 rfl rfl ?_
    refine op_pick_t rfl rfl rfl ?_
    refine ops_nil ?_
    refine fin_code ?_
    refine run_cond_t rfl ?_
    refine run_seq ?_
    refine run_region rfl ?_
    refine op_assign rfl rfl ?_
    refine ops_nil ?_
    refine fin_code ?_
    refine run_ret ?_
    refine fin_ret_code ?_
    refine fin_ret1 rfl rfl ?_
    intro w' g
    exact hR _ _ (post_of g () trivial rfl (by (apply le_of_picks; (repeat (first | exact Picks.nil | (apply Picks.cons; (· (repeat (first | exact Pick.here | apply Pick.there)))) | apply Picks.empty)))))
  refine op_move rfl rfl ?_
  refine op_extract rfl rfl rfl ?_
  refine op_extract rfl rfl rfl ?_
  refine op_assign rfl rfl ?_
  refine op_assign rfl rfl ?_
  refine ops_nil ?_
  refine fin_code ?_
  refine run_seq ?_
  refine run_seq ?_
  refine run_region rfl ?_
  refine op_move rfl rfl ?_
  refine op_not rfl rfl ?_
  refine op_move rfl rfl ?_
  refine ops_guard_yes rfl rfl rfl ?_
  refine op_move rfl rfl ?_
  refine ops_guard_yes rfl rfl rfl ?_
  refine op_len rfl rfl ?_
  refine ops_guard_yes rfl rfl rfl ?_
  refine op_cmp_f rfl rfl rfl rfl (by first | (simp only [cmpP]; done) | (simp only [cmpP]; omega)) ?_
  refine op_pick_f rfl rfl rfl ?_
  refine op_move rfl rfl ?_
  refine ops_guard_yes rfl rfl rfl ?_
  refine op_move rfl rfl ?_
  refine ops_guard_yes rfl rfl rfl ?_
  refine op_move rfl rfl ?_
  refine ops_guard_yes rfl rfl rfl ?_
  ((first | (apply op_call; (· exact rfl)) | apply op_call0); (· exact rfl)); (case' hc => (refine fun w hG hw => right_any w A n c start l hl hn2 ?_ ?_)); (case hp => (repeat (first | exact Picks.nil | (apply Picks.cons; (· (repeat (first | exact Pick.here | apply Pick.there)))) | apply Picks.empty)))
  · exact hr.now hG
  · exact fun i h => ⟨hfew i h, (hin i h).rd.now hG, (hin i h).r32⟩
  intro b hb
  cases b with
  | false =>
    refine ops_guard_yes rfl rfl rfl ?_
    refine op_not rfl rfl ?_
    refine op_pick_f rfl rfl rfl ?_
    refine ops_nil ?_
    refine fin_code ?_
    refine run_cond_t rfl ?_
    refine run_seq ?_
    refine run_region rfl ?_
    refine op_assign rfl rfl ?_
    refine ops_nil ?_
    refine fin_code ?_
    refine run_ret ?_
    refine fin_ret_code ?_
    refine fin_ret1 rfl rfl ?_
    intro w' g
    exact hR _ _ (post_of g () trivial rfl (by (apply le_of_picks; (repeat (first | exact Picks.nil | (apply Picks.cons; (· (repeat (first | exact Pick.here | apply Pick.there)))) | apply Picks.empty)))))
  | true =>
  obtain ⟨hn12, hs0, hsn, hgood⟩ := hb rfl
  obtain ⟨s, rfl⟩ : ∃ s : Nat, start = s := ⟨start.toNat, by omega⟩
  have hts : t.size = (rs.flatMap encN).length := by rw [← hbts, bts_len]
  have h4 := flat_le4 rs
  have hll : (l.map (·.st)).length = n := by simp [hl]
  have hgl' : ∀ x ∈ l.map (·.st), LGood (l.map (·.st)).length x := fun x hx => by
    obtain ⟨y, hy, rfl⟩ := List.mem_map.1 hx
    obtain ⟨i, hi, rfl⟩ := List.getElem_of_mem hy
    rw [hll]
    exact hgood i hi
  have htrail := fun i hi => built_trail (l.map (·.st)) s (by omega) (by omega) hgl' rs hrs i hi
  refine ops_guard_yes rfl rfl rfl ?_
  refine op_not rfl rfl ?_
  refine op_pick_f rfl rfl rfl ?_
  refine ops_nil ?_
  refine fin_code ?_
  refine run_cond_f rfl ?_
  refine run_skip ?_
  refine fin_code ?_
  refine run_seq ?_
  refine run_region rfl ?_
  refine op_move rfl rfl ?_
  refine op_move rfl rfl ?_
  refine op_move rfl rfl ?_
  ((first | (apply op_call; (· exact rfl)) | apply op_call0); (· exact rfl)); (case' hc => (refine fun w hG hw => utf8_any w A n c s t l hl (by omega) (by omega) (by omega) ?_ ?_)); (case hp => (repeat (first | exact Picks.nil | (apply Picks.cons; (· (repeat (first | exact Pick.here | apply Pick.there)))) | apply Picks.empty)))
  · exact hr.now hG
  · exact fun i h => ⟨(hgood i h).ok, (hin i h).rd.now hG⟩
  have htl := trail_len (builtOf (l.map (·.st)) s) (bts t) (builtOf (l.map (·.st)) s).init
  rw [bts_len] at htl
  rw [← hbts] at htrail
  generalize builtOf (l.map (·.st)) s = b at *
  generalize b.trail b.init (bts t) = T at *
  rintro ⟨⟨v1, l1⟩, ⟨v2, l2⟩, ⟨v3, l3⟩⟩ ⟨ho1, ho2, ho3⟩
  dsimp only at ho1 ho2 ho3 ⊢
  obtain ⟨g1, cap1, cur1, rfl, rfl, _, _, hz1, hcur1, hx1⟩ := ho1.openN (by omega)
  obtain ⟨g2, cap2, cur2, rfl, rfl, _, _, hz2, hcur2, hx2⟩ := ho2.openN (by omega)
  obtain ⟨g3, cap3, cur3, rfl, rfl, _, _, hz3, hcur3, hx3⟩ := ho3.openN (by omega)
  refine op_move rfl rfl ?_
  refine op_extract rfl rfl rfl ?_
  refine op_extract rfl rfl rfl ?_
  refine op_extract rfl rfl rfl ?_
  refine op_extract rfl rfl rfl ?_
  refine op_assign rfl rfl ?_
  refine op_assign rfl rfl ?_
  refine op_assign rfl rfl ?_
  refine op_assign rfl rfl ?_
  refine ops_nil ?_
  refine fin_code ?_
  refine run_seq ?_
  refine run_seq ?_
  refine run_region rfl ?_
  refine op_move rfl rfl ?_
  refine op_not rfl rfl ?_
  refine op_move rfl rfl ?_
  refine ops_guard_yes rfl rfl rfl ?_
  refine op_move rfl rfl ?_
  refine ops_guard_yes rfl rfl rfl ?_
  refine op_len rfl rfl ?_
  refine ops_guard_yes rfl rfl rfl ?_
  refine op_move rfl rfl ?_
  refine ops_guard_yes rfl rfl rfl ?_
  (refine op_val rfl (val_slen rfl) ?_)
  refine ops_guard_yes rfl rfl rfl ?_
  refine op_add rfl rfl rfl (by simp only [kLo, kHi]; omega) ?_
  refine ops_guard_yes rfl rfl rfl ?_
  refine op_cmp_f rfl rfl rfl rfl (by first | (simp only [cmpP]; done) | (simp only [cmpP]; omega)) ?_
  refine op_pick_f rfl rfl rfl ?_
  refine op_move rfl rfl ?_
  refine ops_guard_yes rfl rfl rfl ?_
  refine op_move rfl rfl ?_
  refine ops_guard_yes rfl rfl rfl ?_
  refine op_len rfl rfl ?_
  refine ops_guard_yes rfl rfl rfl ?_
  refine op_move rfl rfl ?_
  refine ops_guard_yes rfl rfl rfl ?_
  (refine op_val rfl (val_slen rfl) ?_)
  refine ops_guard_yes rfl rfl rfl ?_
  refine op_add rfl rfl rfl (by simp only [kLo, kHi]; omega) ?_
  refine ops_guard_yes rfl rfl rfl ?_
  refine op_cmp_f rfl rfl rfl rfl (by first | (simp only [cmpP]; done) | (simp only [cmpP]; omega)) ?_
  refine op_pick_f rfl rfl rfl ?_
  refine op_move rfl rfl ?_
  refine ops_guard_yes rfl rfl rfl ?_
  refine op_move rfl rfl ?_
  refine ops_guard_yes rfl rfl rfl ?_
  refine op_len rfl rfl ?_
  refine ops_guard_yes rfl rfl rfl ?_
  refine op_move rfl rfl ?_
  refine ops_guard_yes rfl rfl rfl ?_
  (refine op_val rfl (val_slen rfl) ?_)
  refine ops_guard_yes rfl rfl rfl ?_
  refine op_add rfl rfl rfl (by simp only [kLo, kHi]; omega) ?_
  refine ops_guard_yes rfl rfl rfl ?_
  refine op_cmp_f rfl rfl rfl rfl (by first | (simp only [cmpP]; done) | (simp only [cmpP]; omega)) ?_
  refine op_pick_f rfl rfl rfl ?_
  refine ops_nil ?_
  refine fin_code ?_
  refine run_cond_f rfl ?_
  refine run_skip ?_
  refine fin_code ?_
  refine run_seq ?_
  refine run_region rfl ?_
  refine op_move rfl rfl ?_
  ((first | (apply op_call; (· exact rfl)) | apply op_call0); (· exact rfl)); (case' hc => (refine fun w hG hw => places_any w A0 c0 rs (by omega) hrs ?_)); (case hp => (repeat (first | exact Picks.nil | (apply Picks.cons; (· (repeat (first | exact Pick.here | apply Pick.there)))) | apply Picks.empty)))
  · exact ho.rd (At.item hG.now (by (repeat (first | exact Pick.here | apply Pick.there))))
  rintro ⟨vp, lp⟩ hop
  dsimp only at hop ⊢
  obtain ⟨gp, capp, curp, rfl, rfl, _, _, hzp, hcurp, hxp⟩ := hop.openN (by omega)
  refine op_move rfl rfl ?_
  refine op_assign rfl rfl ?_
  refine op_assign rfl rfl ?_
  refine ops_nil ?_
  refine fin_code ?_
  refine run_seq ?_
  refine run_seq ?_
  refine run_region rfl ?_
  refine op_assign rfl rfl ?_
  refine ops_nil ?_
  refine fin_code ?_
  refine run_block ?_
  refine run_loop (α := Nat) (fun x => [(0, .slice A n c), (7, .slice A0 rs.length c0), (9, .slice (some ⟨g1, 0, none⟩) (t.size + 1) cap1), (10, .slice (some ⟨g2, 0, none⟩) (t.size + 1) cap2), (11, .slice (some ⟨g3, 0, none⟩) (t.size + 1) cap3), (13, .slice (some ⟨gp, 0, none⟩) (rs.length + 1) capp), (14, .int .i64 (goS (l.map (·.st)) s (rs.take (x - 1)))), (15, .int .i64 (x : Nat))])
    (fun _ => [l0, [⟨g1, .cells cur1 5 (0, 0)⟩], [⟨g2, .cells cur2 4 (0, 0)⟩], [⟨g3, .cells cur3 4 (0, 0)⟩], [⟨gp, .cells curp 3 (0, 0)⟩]]) (fun x => x ≤ rs.length + 1) (fun x => rs.length + 1 - x) 0 (Nat.zero_le _) (by (repeat (first | exact Sub.nil _ | (refine Sub.cons rfl ?_)))) (by (apply le_of_picks; (repeat (first | exact Picks.nil | (apply Picks.cons; (· (repeat (first | exact Pick.here | apply Pick.there)))) | apply Picks.empty)))) ?_
  rintro x hx0
  by_cases hx : x < rs.length + 1
  rotate_left 1
  · refine run_seq ?_
    refine run_seq ?_
    refine run_region rfl ?_
    refine op_move rfl rfl ?_
    refine op_move rfl rfl ?_
    refine op_len rfl rfl ?_
    refine op_cmp_f rfl rfl rfl rfl (by first | (simp only [cmpP]; done) | (simp only [cmpP]; omega)) ?_
    refine ops_nil ?_
    refine fin_code ?_
    refine run_cond_f rfl ?_
    refine run_exit ?_
    refine fin_exit_code ?_
    refine fin_exit_inv ?_
    refine fin_exit_here ?_
    refine fin_code ?_
    refine run_seq ?_
    refine run_region rfl ?_
    refine op_assign rfl rfl ?_
    refine ops_nil ?_
    refine fin_code ?_
    refine run_ret ?_
    refine fin_ret1 rfl rfl ?_
    intro w' g
    exact hR _ _ (post_of g () trivial rfl (by (apply le_of_picks; (repeat (first | exact Picks.nil | (apply Picks.cons; (· (repeat (first | exact Pick.here | apply Pick.there)))) | apply Picks.empty)))))
  refine run_seq ?_
  refine run_seq ?_
  refine run_region rfl ?_
  refine op_move rfl rfl ?_
  refine op_move rfl rfl ?_
  refine op_len rfl rfl ?_
  refine op_cmp_t rfl rfl rfl rfl (by first | (simp only [cmpP]; done) | (simp only [cmpP]; omega)) ?_
  refine ops_nil ?_
  refine fin_code ?_
  refine run_cond_t rfl ?_
  refine run_skip ?_
  refine fin_code ?_
  refine run_seq ?_
  refine run_block ?_
  refine run_seq ?_
  refine run_seq ?_
  refine run_region rfl ?_
  refine op_move rfl rfl ?_
  refine ops_join1 (α := Unit) (fun _ => [(0, .slice A n c), (7, .slice A0 rs.length c0), (9, .slice (some ⟨g1, 0, none⟩) (t.size + 1) cap1), (10, .slice (some ⟨g2, 0, none⟩) (t.size + 1) cap2), (11, .slice (some ⟨g3, 0, none⟩) (t.size + 1) cap3), (13, .slice (some ⟨gp, 0, none⟩) (rs.length + 1) capp), (14, .int .i64 (goS (l.map (·.st)) s (rs.take x))), (15, .int .i64 (x : Nat))])
    (fun _ => [l0, [⟨g1, .cells cur1 5 (0, 0)⟩], [⟨g2, .cells cur2 4 (0, 0)⟩], [⟨g3, .cells cur3 4 (0, 0)⟩], [⟨gp, .cells curp 3 (0, 0)⟩]]) (fun _ => True) ?_ ?_
  rotate_left 1
  · intro J
    rcases Nat.eq_zero_or_pos x with hx1 | hx1
    · subst hx1
      have J1 := J () trivial
      refine op_cmp_f rfl rfl rfl rfl (by first | (simp only [cmpP]; done) | (simp only [cmpP]; omega)) ?_
      refine ops_nil ?_
      refine fin_code ?_
      refine run_cond_f rfl ?_
      refine run_skip ?_
      (apply J1)
      · (repeat (first | exact Sub.nil _ | (refine Sub.cons rfl ?_)))
      · (apply le_of_picks; (repeat (first | exact Picks.nil | (apply Picks.cons; (· (repeat (first | exact Pick.here | apply Pick.there)))) | apply Picks.empty)))
    obtain ⟨k, rfl⟩ : ∃ k, x = k + 1 := ⟨x - 1, by omega⟩
    have J1 := J () trivial
    rw [goS_snoc (by omega)] at J1
    rw [Nat.add_sub_cancel]
    obtain ⟨g0, cap0, cur0, hA0, hl0, _, _, hz0, hcur0, hx0'⟩ := ho.openN (by omega)
    simp only [Value.slice.injEq] at hA0
    obtain ⟨rfl, _, rfl⟩ := hA0
    subst hl0
    have hgl : aget cur0 (0 + (((k + 1 : Nat) : Int) - 1).toNat * 1) = some (.int .i64 (rs.getD k 0 : Nat)) := by
      rw [show 0 + (((k + 1 : Nat) : Int) - 1).toNat * 1 = k by omega]
      exact hcur0 k _ (getD_map (by omega) (fun (x : Nat) => Value.int .i64 x))
    generalize rs.getD k 0 = r at *
    have hok' := goS_ok (fun x hx => (hgl' x hx).ok) (rs.take k) (s : Int) (by omega) (by omega)
    generalize goS (l.map (·.st)) s (rs.take k) = a at *
    by_cases ha : a < 0
    · rw [show nxt (l.map (·.st)) a r = -1 by unfold nxt; rw [if_pos ha]] at J1
      refine op_cmp_t rfl rfl rfl rfl (by first | (simp only [cmpP]; done) | (simp only [cmpP]; omega)) ?_
      refine ops_nil ?_
      refine fin_code ?_
      refine run_cond_t rfl ?_
      refine run_region rfl ?_
      refine op_move rfl rfl ?_
      refine op_move rfl rfl ?_
      refine op_move rfl rfl ?_
      refine op_move rfl rfl ?_
      refine op_sub rfl rfl rfl (by simp only [kLo, kHi]; omega) ?_
      refine op_index rfl rfl rfl (by omega) (by first | (rw [Int.toNat_natCast, Nat.mul_one, Nat.zero_add]) | (rw [Int.toNat_natCast, Nat.mul_one]) | (rw [Int.toNat_natCast, Nat.zero_add]) | (rw [Int.toNat_natCast]) | exact rfl) ?_
      (apply op_load; (· exact rfl); (· exact rfl); (· apply cell_of_has; (· (repeat (first | exact Has.here | apply Has.there))); (· first | exact hp | exact hm | exact hc3 | exact hd | exact hgl | exact rfl)))
      ((first | (apply op_call; (· exact rfl)) | apply op_call0); (· exact rfl); rotate_left 1; (· exact fun w hG hw => next_neg w A n c a r ha); rotate_right 1; (· (repeat (first | exact Picks.nil | (apply Picks.cons; (· (repeat (first | exact Pick.here | apply Pick.there)))) | apply Picks.empty))))
      intro _ _
      refine op_assign rfl rfl ?_
      refine ops_nil ?_
      (apply J1)
      · (repeat (first | exact Sub.nil _ | (refine Sub.cons rfl ?_)))
      · (apply le_of_picks; (repeat (first | exact Picks.nil | (apply Picks.cons; (· (repeat (first | exact Pick.here | apply Pick.there)))) | apply Picks.empty)))
    · obtain ⟨j, rfl⟩ : ∃ j : Nat, a = j := ⟨a.toNat, by omega⟩
      have hjl : j < l.length := by omega
      rw [show nxt (l.map (·.st)) j r = l[j].st.next r by
        unfold nxt
        rw [if_neg ha, Int.toNat_natCast, List.getElem?_eq_getElem (by simpa using hjl), List.getElem_map]] at J1
      refine op_cmp_t rfl rfl rfl rfl (by first | (simp only [cmpP]; done) | (simp only [cmpP]; omega)) ?_
      refine ops_nil ?_
      refine fin_code ?_
      refine run_cond_t rfl ?_
      refine run_region rfl ?_
      refine op_move rfl rfl ?_
      refine op_move rfl rfl ?_
      refine op_move rfl rfl ?_
      refine op_move rfl rfl ?_
      refine op_sub rfl rfl rfl (by simp only [kLo, kHi]; omega) ?_
      refine op_index rfl rfl rfl (by omega) (by first | (rw [Int.toNat_natCast, Nat.mul_one, Nat.zero_add]) | (rw [Int.toNat_natCast, Nat.mul_one]) | (rw [Int.toNat_natCast, Nat.zero_add]) | (rw [Int.toNat_natCast]) | exact rfl) ?_
      (apply op_load; (· exact rfl); (· exact rfl); (· apply cell_of_has; (· (repeat (first | exact Has.here | apply Has.there))); (· first | exact hp | exact hm | exact hc3 | exact hd | exact hgl | exact rfl)))
      ((first | (apply op_call; (· exact rfl)) | apply op_call0); (· exact rfl)); (case' hc => (refine fun w hG hw => next_any w A n c j r l hl hn2 ?_ hjl l[j] rfl (hfew j hjl) ?_ (hin j hjl).r32)); (case hp => (repeat (first | exact Picks.nil | (apply Picks.cons; (· (repeat (first | exact Pick.here | apply Pick.there)))) | apply Picks.empty)))
      · exact hr.now hG
      · exact (hin j hjl).rd.now hG
      intro _ _
      refine op_assign rfl rfl ?_
      refine ops_nil ?_
      (apply J1)
      · (repeat (first | exact Sub.nil _ | (refine Sub.cons rfl ?_)))
      · (apply le_of_picks; (repeat (first | exact Picks.nil | (apply Picks.cons; (· (repeat (first | exact Pick.here | apply Pick.there)))) | apply Picks.empty)))
  rintro ⟨⟩ _
  have hP := placesOf_leF (l := rs) (i := x) (by omega)
  rw [← hts] at hP
  have htr := htrail x (by omega)
  have hok' := goS_ok (fun x hx => (hgl' x hx).ok) (rs.take x) (s : Int) (by omega) (by omega)
  have hp : aget curp x = some (.int .i64 ((placesOf rs).getD x 0 : Nat)) := hcurp x _ (getD_map (by rw [placesOf_len]; omega) (fun (x : Nat) => Value.int .i64 x))
  generalize (placesOf rs).getD x 0 = p at *
  have hd := hcur1 p _ (getD_map (d := 0) (by omega) _)
  have hm := hcur2 p _ (getD_map (d := 0) (by omega) _)
  have hc3 := hcur3 p _ (getD_map (d := 0) (by omega) _)
  obtain ⟨ht1, ht2⟩ := htr
  rw [ht1] at hd hm
  generalize T.getD p 0 = q at *
  generalize hga : goS (l.map (·.st)) s (rs.take x) = a at *
  by_cases ha : a < 0
  · have hq : decide (0 < q) = false := by simp; omega
    rw [hq] at hc3
    have ht : tellD (l.map (·.st)) a = (false, 255) := by unfold tellD; rw [if_pos ha]
    rw [ht] at hd hm
    dsimp only at hd hm
    refine fin_code ?_
    refine run_seq ?_
    refine run_region rfl ?_
    refine op_move rfl rfl ?_
    refine op_move rfl rfl ?_
    refine op_index rfl rfl rfl (by omega) (by first | (rw [Int.toNat_natCast, Nat.mul_one, Nat.zero_add]) | (rw [Int.toNat_natCast, Nat.mul_one]) | (rw [Int.toNat_natCast, Nat.zero_add]) | (rw [Int.toNat_natCast]) | exact rfl) ?_
    (apply op_load; (· exact rfl); (· exact rfl); (· apply cell_of_has; (· (repeat (first | exact Has.here | apply Has.there))); (· first | exact hp | exact hm | exact hc3 | exact hd | exact hgl | exact rfl)))
    refine op_assign rfl rfl ?_
    refine ops_nil ?_
    refine fin_code ?_
    refine run_seq ?_
    refine run_drawS [[⟨g1, .cells cur1 5 (0, 0)⟩], [⟨g2, .cells cur2 4 (0, 0)⟩], [⟨g3, .cells cur3 4 (0, 0)⟩]] (by kernel_rfl) ?_
    refine dr_stab 0 rfl rfl (Val.s (val_move rfl)) (by decide +kernel) rfl rfl ?_
    refine dr_stab 1 rfl rfl (Val.s (val_move rfl)) (by decide +kernel) rfl rfl ?_
    refine dr_stab 2 rfl rfl (Val.s (val_index rfl rfl (by omega) (by first | (rw [Int.toNat_natCast, Nat.mul_one, Nat.zero_add]) | (rw [Int.toNat_natCast, Nat.mul_one]) | (rw [Int.toNat_natCast, Nat.zero_add]) | (rw [Int.toNat_natCast]) | exact rfl))) (by decide +kernel) rfl rfl ?_
    (apply dr_stab 3; (· exact rfl); (· exact rfl); (· apply ValAt.s; (first | (apply val_load; (· exact rfl); (· apply cell_of_has; (· (repeat (first | exact Has.here | apply Has.there))); (· first | exact hp | exact hm | exact hc3 | exact hd | exact hgl | exact rfl))) | (apply val_load; (· exact rfl); (· exact lst_cell hc hg (by simp [ids]) hil rfl)))); (· decide +kernel); (· exact rfl); (· exact rfl))
    refine dr_stab 4 rfl rfl (Val.s (val_move rfl)) (by decide +kernel) rfl rfl ?_
    refine dr_stab 5 rfl rfl (Val.s (val_cmp_f rfl rfl rfl (by first | (simp only [cmpP]; done) | (simp only [cmpP]; omega)))) (by decide +kernel) rfl rfl ?_
    (apply dr_stab 6; (· exact rfl); (· exact rfl); (· apply Val.s; first | first | exact val_neqb0 rfl rfl | exact val_cmp_f rfl rfl rfl (fun h => h rfl)); (· decide +kernel); (· exact rfl); (· exact rfl))
    refine dr_stab 7 rfl rfl (Val.s (val_move rfl)) (by decide +kernel) rfl rfl ?_
    first | refine dr_stab 8 rfl rfl (Val.s (val_move rfl)) (by decide +kernel) rfl rfl ?_ | refine dr_off 8 rfl rfl (by decide +kernel) rfl rfl ?_
    first | refine dr_stab 9 rfl rfl (Val.s (val_move rfl)) (by decide +kernel) rfl rfl ?_ | refine dr_off 9 rfl rfl (by decide +kernel) rfl rfl ?_
    refine dr_stab 10 rfl rfl (Val.s (val_index rfl rfl (by omega) (by first | (rw [Int.toNat_natCast, Nat.mul_one, Nat.zero_add]) | (rw [Int.toNat_natCast, Nat.mul_one]) | (rw [Int.toNat_natCast, Nat.zero_add]) | (rw [Int.toNat_natCast]) | exact rfl))) (by decide +kernel) rfl rfl ?_
    (apply dr_stab 11; (· exact rfl); (· exact rfl); (· apply ValAt.s; (first | (apply val_load; (· exact rfl); (· apply cell_of_has; (· (repeat (first | exact Has.here | apply Has.there))); (· first | exact hp | exact hm | exact hc3 | exact hd | exact hgl | exact rfl))) | (apply val_load; (· exact rfl); (· exact lst_cell hc hg (by simp [ids]) hil rfl)))); (· decide +kernel); (· exact rfl); (· exact rfl))
    first | refine dr_stab 12 rfl rfl (Val.s (val_move rfl)) (by decide +kernel) rfl rfl ?_ | refine dr_off 12 rfl rfl (by decide +kernel) rfl rfl ?_
    refine dr_stab 13 rfl rfl (Val.s (val_cmp_f rfl rfl rfl (by first | (simp only [cmpP]; done) | (simp only [cmpP]; omega)))) (by decide +kernel) rfl rfl ?_
    first | refine dr_stab 14 rfl rfl (Val.s (val_move rfl)) (by decide +kernel) rfl rfl ?_ | refine dr_off 14 rfl rfl (by decide +kernel) rfl rfl ?_
    first | refine dr_stab 15 rfl rfl (Val.s (val_move rfl)) (by decide +kernel) rfl rfl ?_ | refine dr_off 15 rfl rfl (by decide +kernel) rfl rfl ?_
    first | refine dr_stab 16 rfl rfl (Val.s (val_move rfl)) (by decide +kernel) rfl rfl ?_ | refine dr_off 16 rfl rfl (by decide +kernel) rfl rfl ?_
    refine dr_off 17 rfl rfl (by decide +kernel) rfl rfl ?_
    first | refine dr_stab 18 rfl rfl (Val.s (val_fieldAddr rfl)) (by decide +kernel) rfl rfl ?_ | refine dr_off 18 rfl rfl (by decide +kernel) rfl rfl ?_
    refine dr_off 19 rfl rfl (by decide +kernel) rfl rfl ?_
    refine dr_stab 20 rfl rfl (Val.s (val_pick_f rfl rfl)) (by decide +kernel) rfl rfl ?_
    (apply dr_stab 21; (· exact rfl); (· exact rfl); (· apply Val.s; first | first | exact val_neqb0 rfl rfl | exact val_cmp_f rfl rfl rfl (fun h => h rfl)); (· decide +kernel); (· exact rfl); (· exact rfl))
    refine dr_stab 22 rfl rfl (Val.s (val_pick_f rfl rfl)) (by decide +kernel) rfl rfl ?_
    refine dr_stab 23 rfl rfl (Val.s (val_move rfl)) (by decide +kernel) rfl rfl ?_
    first | refine dr_stab 24 rfl rfl (Val.s (val_move rfl)) (by decide +kernel) rfl rfl ?_ | refine dr_off 24 rfl rfl (by decide +kernel) rfl rfl ?_
    refine dr_stab 25 rfl rfl (Val.s (val_cmp_f rfl rfl rfl (by first | (simp only [cmpP]; done) | (simp only [cmpP]; omega)))) (by decide +kernel) rfl rfl ?_
    first | refine dr_stab 26 rfl rfl (Val.s (val_move rfl)) (by decide +kernel) rfl rfl ?_ | refine dr_off 26 rfl rfl (by decide +kernel) rfl rfl ?_
    first | refine dr_stab 27 rfl rfl (Val.s (val_move rfl)) (by decide +kernel) rfl rfl ?_ | refine dr_off 27 rfl rfl (by decide +kernel) rfl rfl ?_
    first | refine dr_stab 28 rfl rfl (Val.s (val_move rfl)) (by decide +kernel) rfl rfl ?_ | refine dr_off 28 rfl rfl (by decide +kernel) rfl rfl ?_
    refine dr_off 29 rfl rfl (by decide +kernel) rfl rfl ?_
    refine dr_off 30 rfl rfl (by decide +kernel) rfl rfl ?_
    first | refine dr_stab 31 rfl rfl (Val.s (val_move rfl)) (by decide +kernel) rfl rfl ?_ | refine dr_off 31 rfl rfl (by decide +kernel) rfl rfl ?_
    first | refine dr_stab 32 rfl rfl (Val.s (val_move rfl)) (by decide +kernel) rfl rfl ?_ | refine dr_off 32 rfl rfl (by decide +kernel) rfl rfl ?_
    refine dr_off 33 rfl rfl (by decide +kernel) rfl rfl ?_
    first | refine dr_stab 34 rfl rfl (Val.s (val_fieldAddr rfl)) (by decide +kernel) rfl rfl ?_ | refine dr_off 34 rfl rfl (by decide +kernel) rfl rfl ?_
    refine dr_off 35 rfl rfl (by decide +kernel) rfl rfl ?_
    refine dr_off 36 rfl rfl (by decide +kernel) rfl rfl ?_
    refine dr_stab 37 rfl rfl (Val.s (val_pick_f rfl rfl)) (by decide +kernel) rfl rfl ?_
    refine dr_stab 38 rfl rfl (Val.s (val_pick_f rfl rfl)) (by decide +kernel) rfl rfl ?_
    (refine dr_done (by decide +kernel) (by (apply le_of_picks; (repeat (first | exact Picks.nil | (apply Picks.cons; (· (repeat (first | exact Pick.here | apply Pick.there)))) | apply Picks.empty)))) ?_)
    refine fin_code ?_
    refine run_cond_f rfl ?_
    refine run_skip ?_
    refine fin_block ?_
    refine fin_code ?_
    refine run_region rfl ?_
    refine op_move rfl rfl ?_
    refine op_add rfl rfl rfl (by simp only [kLo, kHi]; omega) ?_
    refine op_assign rfl rfl ?_
    refine ops_nil ?_
    refine fin_round (x + 1) (by omega) (by rw [Nat.add_sub_cancel, hga]; (repeat (first | exact Sub.nil _ | (refine Sub.cons rfl ?_)))) (by (apply le_of_picks; (repeat (first | exact Picks.nil | (apply Picks.cons; (· (repeat (first | exact Pick.here | apply Pick.there)))) | apply Picks.empty)))) (by omega)
  · obtain ⟨i, rfl⟩ : ∃ i : Nat, a = i := ⟨a.toNat, by omega⟩
    have hq : decide (0 < q) = true := by simp; omega
    rw [hq] at hc3
    have hil : i < l.length := by omega
    have ht : tellD (l.map (·.st)) i = (l[i].st.ex, l[i].st.dist) := by
      unfold tellD
      rw [if_neg ha, Int.toNat_natCast, List.getElem?_eq_getElem (by simpa using hil), List.getElem_map]
    rw [ht] at hd hm
    dsimp only at hd hm
    obtain ⟨g, o, rfl, hg, hc⟩ := hr.some (by rw [flat_len lstV 4 (fun _ => rfl)]; omega)
    refine fin_code ?_
    refine run_seq ?_
    refine run_region rfl ?_
    refine op_move rfl rfl ?_
    refine op_move rfl rfl ?_
    refine op_index rfl rfl rfl (by omega) (by first | (rw [Int.toNat_natCast, Nat.mul_one, Nat.zero_add]) | (rw [Int.toNat_natCast, Nat.mul_one]) | (rw [Int.toNat_natCast, Nat.zero_add]) | (rw [Int.toNat_natCast]) | exact rfl) ?_
    (apply op_load; (· exact rfl); (· exact rfl); (· apply cell_of_has; (· (repeat (first | exact Has.here | apply Has.there))); (· first | exact hp | exact hm | exact hc3 | exact hd | exact hgl | exact rfl)))
    refine op_assign rfl rfl ?_
    refine ops_nil ?_
    refine fin_code ?_
    refine run_seq ?_
    refine run_drawS [[⟨g1, .cells cur1 5 (0, 0)⟩], [⟨g2, .cells cur2 4 (0, 0)⟩], [⟨g3, .cells cur3 4 (0, 0)⟩]] (by kernel_rfl) ?_
    refine dr_stab 0 rfl rfl (Val.s (val_move rfl)) (by decide +kernel) rfl rfl ?_
    refine dr_stab 1 rfl rfl (Val.s (val_move rfl)) (by decide +kernel) rfl rfl ?_
    refine dr_stab 2 rfl rfl (Val.s (val_index rfl rfl (by omega) (by first | (rw [Int.toNat_natCast, Nat.mul_one, Nat.zero_add]) | (rw [Int.toNat_natCast, Nat.mul_one]) | (rw [Int.toNat_natCast, Nat.zero_add]) | (rw [Int.toNat_natCast]) | exact rfl))) (by decide +kernel) rfl rfl ?_
    (apply dr_stab 3; (· exact rfl); (· exact rfl); (· apply ValAt.s; (first | (apply val_load; (· exact rfl); (· apply cell_of_has; (· (repeat (first | exact Has.here | apply Has.there))); (· first | exact hp | exact hm | exact hc3 | exact hd | exact hgl | exact rfl))) | (apply val_load; (· exact rfl); (· exact lst_cell hc hg (by simp [ids]) hil rfl)))); (· decide +kernel); (· exact rfl); (· exact rfl))
    refine dr_stab 4 rfl rfl (Val.s (val_move rfl)) (by decide +kernel) rfl rfl ?_
    refine dr_stab 5 rfl rfl (Val.s (val_cmp_t rfl rfl rfl (by first | (simp only [cmpP]; done) | (simp only [cmpP]; omega)))) (by decide +kernel) rfl rfl ?_
    (apply dr_stab 6; (· exact rfl); (· exact rfl); (· apply Val.s; first | first | exact val_neqb0 rfl rfl | exact val_cmp_f rfl rfl rfl (fun h => h rfl)); (· decide +kernel); (· exact rfl); (· exact rfl))
    refine dr_stab 7 rfl rfl (Val.s (val_move rfl)) (by decide +kernel) rfl rfl ?_
    first | refine dr_stab 8 rfl rfl (Val.s (val_move rfl)) (by decide +kernel) rfl rfl ?_ | refine dr_off 8 rfl rfl (by decide +kernel) rfl rfl ?_
    first | refine dr_stab 9 rfl rfl (Val.s (val_move rfl)) (by decide +kernel) rfl rfl ?_ | refine dr_off 9 rfl rfl (by decide +kernel) rfl rfl ?_
    refine dr_stab 10 rfl rfl (Val.s (val_index rfl rfl (by omega) (by first | (rw [Int.toNat_natCast, Nat.mul_one, Nat.zero_add]) | (rw [Int.toNat_natCast, Nat.mul_one]) | (rw [Int.toNat_natCast, Nat.zero_add]) | (rw [Int.toNat_natCast]) | exact rfl))) (by decide +kernel) rfl rfl ?_
    (apply dr_stab 11; (· exact rfl); (· exact rfl); (· apply ValAt.s; (first | (apply val_load; (· exact rfl); (· apply cell_of_has; (· (repeat (first | exact Has.here | apply Has.there))); (· first | exact hp | exact hm | exact hc3 | exact hd | exact hgl | exact rfl))) | (apply val_load; (· exact rfl); (· exact lst_cell hc hg (by simp [ids]) hil rfl)))); (· decide +kernel); (· exact rfl); (· exact rfl))
    first | refine dr_stab 12 rfl rfl (Val.s (val_move rfl)) (by decide +kernel) rfl rfl ?_ | refine dr_off 12 rfl rfl (by decide +kernel) rfl rfl ?_
    refine dr_stab 13 rfl rfl (Val.s (val_cmp_t rfl rfl rfl (by first | (simp only [cmpP]; done) | (simp only [cmpP]; omega)))) (by decide +kernel) rfl rfl ?_
    first | refine dr_stab 14 rfl rfl (Val.s (val_move rfl)) (by decide +kernel) rfl rfl ?_ | refine dr_off 14 rfl rfl (by decide +kernel) rfl rfl ?_
    first | refine dr_stab 15 rfl rfl (Val.s (val_move rfl)) (by decide +kernel) rfl rfl ?_ | refine dr_off 15 rfl rfl (by decide +kernel) rfl rfl ?_
    first | refine dr_stab 16 rfl rfl (Val.s (val_move rfl)) (by decide +kernel) rfl rfl ?_ | refine dr_off 16 rfl rfl (by decide +kernel) rfl rfl ?_
    refine dr_stab 17 rfl rfl (Val.s (val_index rfl rfl (by omega) (by first | (rw [Int.toNat_natCast, Nat.mul_one, Nat.zero_add]) | (rw [Int.toNat_natCast, Nat.mul_one]) | (rw [Int.toNat_natCast, Nat.zero_add]) | (rw [Int.toNat_natCast]) | exact rfl))) (by decide +kernel) rfl rfl ?_
    first | refine dr_stab 18 rfl rfl (Val.s (val_fieldAddr rfl)) (by decide +kernel) rfl rfl ?_ | refine dr_off 18 rfl rfl (by decide +kernel) rfl rfl ?_
    (apply dr_stab 19; (· exact rfl); (· exact rfl); (· apply ValAt.s; (first | (apply val_load; (· exact rfl); (· apply cell_of_has; (· (repeat (first | exact Has.here | apply Has.there))); (· first | exact hp | exact hm | exact hc3 | exact hd | exact hgl | exact rfl))) | (apply val_load; (· exact rfl); (· exact lst_cell hc hg (by simp [ids]) hil rfl)))); (· decide +kernel); (· exact rfl); (· exact rfl))
    refine dr_stab 20 rfl rfl (Val.s (val_pick_t rfl rfl)) (by decide +kernel) rfl rfl ?_
    (apply dr_stab 21; (· exact rfl); (· exact rfl); (· apply Val.s; first | first | exact val_neqb0 rfl rfl | exact val_cmp_f rfl rfl rfl (fun h => h rfl)); (· decide +kernel); (· exact rfl); (· exact rfl))
    refine dr_stab 22 rfl rfl (Val.s (val_pick_f rfl rfl)) (by decide +kernel) rfl rfl ?_
    refine dr_stab 23 rfl rfl (Val.s (val_move rfl)) (by decide +kernel) rfl rfl ?_
    first | refine dr_stab 24 rfl rfl (Val.s (val_move rfl)) (by decide +kernel) rfl rfl ?_ | refine dr_off 24 rfl rfl (by decide +kernel) rfl rfl ?_
    refine dr_stab 25 rfl rfl (Val.s (val_cmp_t rfl rfl rfl (by first | (simp only [cmpP]; done) | (simp only [cmpP]; omega)))) (by decide +kernel) rfl rfl ?_
    first | refine dr_stab 26 rfl rfl (Val.s (val_move rfl)) (by decide +kernel) rfl rfl ?_ | refine dr_off 26 rfl rfl (by decide +kernel) rfl rfl ?_
    first | refine dr_stab 27 rfl rfl (Val.s (val_move rfl)) (by decide +kernel) rfl rfl ?_ | refine dr_off 27 rfl rfl (by decide +kernel) rfl rfl ?_
    first | refine dr_stab 28 rfl rfl (Val.s (val_move rfl)) (by decide +kernel) rfl rfl ?_ | refine dr_off 28 rfl rfl (by decide +kernel) rfl rfl ?_
    refine dr_stab 29 rfl rfl (Val.s (val_index rfl rfl (by omega) (by first | (rw [Int.toNat_natCast, Nat.mul_one, Nat.zero_add]) | (rw [Int.toNat_natCast, Nat.mul_one]) | (rw [Int.toNat_natCast, Nat.zero_add]) | (rw [Int.toNat_natCast]) | exact rfl))) (by decide +kernel) rfl rfl ?_
    (apply dr_stab 30; (· exact rfl); (· exact rfl); (· apply ValAt.s; (first | (apply val_load; (· exact rfl); (· apply cell_of_has; (· (repeat (first | exact Has.here | apply Has.there))); (· first | exact hp | exact hm | exact hc3 | exact hd | exact hgl | exact rfl))) | (apply val_load; (· exact rfl); (· exact lst_cell hc hg (by simp [ids]) hil rfl)))); (· decide +kernel); (· exact rfl); (· exact rfl))
    first | refine dr_stab 31 rfl rfl (Val.s (val_move rfl)) (by decide +kernel) rfl rfl ?_ | refine dr_off 31 rfl rfl (by decide +kernel) rfl rfl ?_
    first | refine dr_stab 32 rfl rfl (Val.s (val_move rfl)) (by decide +kernel) rfl rfl ?_ | refine dr_off 32 rfl rfl (by decide +kernel) rfl rfl ?_
    refine dr_stab 33 rfl rfl (Val.s (val_index rfl rfl (by omega) (by first | (rw [Int.toNat_natCast, Nat.mul_one, Nat.zero_add]) | (rw [Int.toNat_natCast, Nat.mul_one]) | (rw [Int.toNat_natCast, Nat.zero_add]) | (rw [Int.toNat_natCast]) | exact rfl))) (by decide +kernel) rfl rfl ?_
    first | refine dr_stab 34 rfl rfl (Val.s (val_fieldAddr rfl)) (by decide +kernel) rfl rfl ?_ | refine dr_off 34 rfl rfl (by decide +kernel) rfl rfl ?_
    (apply dr_stab 35; (· exact rfl); (· exact rfl); (· apply ValAt.s; (first | (apply val_load; (· exact rfl); (· apply cell_of_has; (· (repeat (first | exact Has.here | apply Has.there))); (· first | exact hp | exact hm | exact hc3 | exact hd | exact hgl | exact rfl))) | (apply val_load; (· exact rfl); (· exact lst_cell hc hg (by simp [ids]) hil rfl)))); (· decide +kernel); (· exact rfl); (· exact rfl))
    (apply dr_stab 36; (· exact rfl); (· exact rfl); (· apply Val.s; first | first | exact val_neqb0 rfl rfl | exact val_cmp_f rfl rfl rfl (fun h => h rfl)); (· decide +kernel); (· exact rfl); (· exact rfl))
    refine dr_stab 37 rfl rfl (Val.s (val_pick_t rfl rfl)) (by decide +kernel) rfl rfl ?_
    refine dr_stab 38 rfl rfl (Val.s (val_pick_f rfl rfl)) (by decide +kernel) rfl rfl ?_
    (refine dr_done (by decide +kernel) (by (apply le_of_picks; (repeat (first | exact Picks.nil | (apply Picks.cons; (· (repeat (first | exact Pick.here | apply Pick.there)))) | apply Picks.empty)))) ?_)
    refine fin_code ?_
    refine run_cond_f rfl ?_
    refine run_skip ?_
    refine fin_block ?_
    refine fin_code ?_
    refine run_region rfl ?_
    refine op_move rfl rfl ?_
    refine op_add rfl rfl rfl (by simp only [kLo, kHi]; omega) ?_
    refine op_assign rfl rfl ?_
    refine ops_nil ?_
    refine fin_round (x + 1) (by omega) (by rw [Nat.add_sub_cancel, hga]; (repeat (first | exact Sub.nil _ | (refine Sub.cons rfl ?_)))) (by (apply le_of_picks; (repeat (first | exact Picks.nil | (apply Picks.cons; (· (repeat (first | exact Pick.here | apply Pick.there)))) | apply Picks.empty)))) (by omega)
end Go.Proofs.Eng
