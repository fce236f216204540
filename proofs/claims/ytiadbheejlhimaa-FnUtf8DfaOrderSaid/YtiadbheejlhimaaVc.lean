/- A part of the proof: what functions of the program do, step by step. -/
import Derived.Test.YtiadbheejlhimaaVb
set_option linter.unusedVariables false
set_option linter.unusedSimpArgs false
namespace Go.Proofs.Eng
open Go.RowKit
/-- A transition and a state, as impl.Letters tells them. -/
structure LArc where
  r : Int
  to : Int
structure LSt where
  dflt : Int
  arcs : List LArc
  dist : Nat
  ex : Bool
/-- A state that lies in memory. -/
structure LStM where
  st : LSt
  A : Option Addr
  c : Nat
def larV (a : LArc) : List Value := [.int .i32 a.r, .int .i64 a.to]
def lstV (s : LStM) : List Value := [.int .i64 s.st.dflt, .slice s.A s.st.arcs.length s.c, .int .u8 s.st.dist, .bool s.st.ex]
theorem lstV_one (s : LStM) : ∀ v ∈ (lstV s).toArray.toList, v.oneCell' = true := by
  intro v hv
  simp [lstV] at hv
  rcases hv with rfl | rfl | rfl | rfl <;> rfl
theorem lst_cell {C : Ctx} {Ls : List Hp} {B g o : Nat} {l : List LStM} (h : ∀ (j : Nat) v, (l.flatMap lstV)[j]? = some v → C.w0.cell? ⟨g, o + j, none⟩ = some v) (hg : g < B) (hL : ∀ k ∈ ids C.L0, B ≤ k) {i f : Nat} {v : Value} (hi : i < l.length) (hv : (lstV l[i])[f]? = some v) : Cell C Ls ⟨g, o + i * 4 + f, none⟩ v := by
  rw [Nat.add_assoc]
  exact Rd.cell h hg hL (flat_get lstV 4 (fun _ => rfl) l i hi f v hv)
theorem lar_cell {C : Ctx} {Ls : List Hp} {B g o : Nat} {l : List LArc} (h : ∀ (j : Nat) v, (l.flatMap larV)[j]? = some v → C.w0.cell? ⟨g, o + j, none⟩ = some v) (hg : g < B) (hL : ∀ k ∈ ids C.L0, B ≤ k) {i f : Nat} {v : Value} (hi : i < l.length) (hv : (larV l[i])[f]? = some v) : Cell C Ls ⟨g, o + i * 2 + f, none⟩ v := by
  rw [Nat.add_assoc]
  exact Rd.cell h hg hL (flat_get larV 2 (fun _ => rfl) l i hi f v hv)
set_option maxRecDepth 100000 in
theorem fits10_any (w : World) (d : Int) (k : Nat) (e : Bool) (A : Option Addr) (n c : Nat) :
    Calls Try.prog 15 #[.agg #[.int .i64 d, .slice A n c, .int .u8 k, .bool e]] w (Post w ([] : List Hp).flatten (fun b : Bool => .bool b) (fun _ => ([] : List Hp).flatten) (fun b => b = true → n ≤ 2147483647)) := by
  refine enter [] Try.func15 rfl rfl (At.nil w) (Le.refl _) ?_
  intro R hR
  by_cases h : 2147483647 < n
  · refine run_seq ?_
    refine run_region rfl ?_
    (refine op_box rfl rfl ?_; intro _ _)
    refine op_assign rfl rfl ?_
    refine ops_nil ?_
    refine fin_code ?_
    refine run_seq ?_
    refine run_seq ?_
    refine run_region rfl ?_
    refine op_fieldAddr rfl rfl ?_
    (apply op_load; (· exact rfl); (· exact rfl); (· apply cell_of_has; (· (repeat (first | exact Has.here | apply Has.there))); (· first | exact rfl | exact nats_get _ _ _ (by omega))))
    refine op_len rfl rfl ?_
    refine op_cmp_t rfl rfl rfl rfl (by first | (simp only [cmpP]; done) | (simp only [cmpP]; omega)) ?_
    refine ops_nil ?_
    refine fin_code ?_
    refine run_cond_t rfl ?_
    refine run_seq ?_
    refine run_region rfl ?_
    refine op_assign rfl rfl ?_
    refine ops_nil ?_
    refine fin_code ?_
    refine run_ret ?_
    refine fin_ret_code ?_
    refine fin_ret1 rfl rfl ?_
    intro w' g
    exact hR _ _ (post_of g false (by simp) rfl (by (apply le_of_picks; (repeat (first | exact Picks.nil | (apply Picks.cons; (· (repeat (first | exact Pick.here | apply Pick.there)))) | apply Picks.empty)))))
  · refine run_seq ?_
    refine run_region rfl ?_
    (refine op_box rfl rfl ?_; intro _ _)
    refine op_assign rfl rfl ?_
    refine ops_nil ?_
    refine fin_code ?_
    refine run_seq ?_
    refine run_seq ?_
    refine run_region rfl ?_
    refine op_fieldAddr rfl rfl ?_
    (apply op_load; (· exact rfl); (· exact rfl); (· apply cell_of_has; (· (repeat (first | exact Has.here | apply Has.there))); (· first | exact rfl | exact nats_get _ _ _ (by omega))))
    refine op_len rfl rfl ?_
    refine op_cmp_f rfl rfl rfl rfl (by first | (simp only [cmpP]; done) | (simp only [cmpP]; omega)) ?_
    refine ops_nil ?_
    refine fin_code ?_
    refine run_cond_f rfl ?_
    refine run_skip ?_
    refine fin_code ?_
    refine run_seq ?_
    refine run_region rfl ?_
    refine op_assign rfl rfl ?_
    refine ops_nil ?_
    refine fin_code ?_
    refine run_ret ?_
    refine fin_ret1 rfl rfl ?_
    intro w' g
    exact hR _ _ (post_of g true (fun _ => by omega) rfl (by (apply le_of_picks; (repeat (first | exact Picks.nil | (apply Picks.cons; (· (repeat (first | exact Pick.here | apply Pick.there)))) | apply Picks.empty)))))
set_option maxRecDepth 100000 in
theorem fits9_any (w : World) (A : Option Addr) (n c : Nat) (l : List LStM) (hl : l.length = n) (hn : n ≤ 9223372036854775807) (hr : Rd w w.heap.size A (l.flatMap lstV)) :
    Calls Try.prog 9 #[.slice A n c] w (Post w ([] : List Hp).flatten (fun b : Bool => .bool b) (fun _ => ([] : List Hp).flatten) (fun b => b = true → n ≤ 2147483647 ∧ ∀ j (h : j < l.length), l[j].st.arcs.length ≤ 2147483647)) := by
  refine enter [] Try.func9 rfl rfl (At.nil w) (Le.refl _) ?_
  intro R hR
  by_cases h : 2147483647 < n
  · refine run_seq ?_
    refine run_region rfl ?_
    refine op_assign rfl rfl ?_
    refine ops_nil ?_
    refine fin_code ?_
    refine run_seq ?_
    refine run_seq ?_
    refine run_region rfl ?_
    refine op_move rfl rfl ?_
    refine op_len rfl rfl ?_
    refine op_cmp_t rfl rfl rfl rfl (by first | (simp only [cmpP]; done) | (simp only [cmpP]; omega)) ?_
    refine ops_nil ?_
    refine fin_code ?_
    refine run_cond_t rfl ?_
    refine run_seq ?_
    refine run_region rfl ?_
    refine op_assign rfl rfl ?_
    refine ops_nil ?_
    refine fin_code ?_
    refine run_ret ?_
    refine fin_ret_code ?_
    refine fin_ret1 rfl rfl ?_
    intro w' g
    exact hR _ _ (post_of g false (by simp) rfl (by (apply le_of_picks; (repeat (first | exact Picks.nil | (apply Picks.cons; (· (repeat (first | exact Pick.here | apply Pick.there)))) | apply Picks.empty)))))
  refine run_seq ?_
  refine run_region rfl ?_
  refine op_assign rfl rfl ?_
  refine ops_nil ?_
  refine fin_code ?_
  refine run_seq ?_
  refine run_seq ?_
  refine run_region rfl ?_
  refine op_move rfl rfl ?_
  refine op_len rfl rfl ?_
  refine op_cmp_f rfl rfl rfl rfl (by first | (simp only [cmpP]; done) | (simp only [cmpP]; omega)) ?_
  refine ops_nil ?_
  refine fin_code ?_
  refine run_cond_f rfl ?_
  refine run_skip ?_
  refine fin_code ?_
  refine run_seq ?_
  refine run_seq ?_
  refine run_region rfl ?_
  refine op_move rfl rfl ?_
  refine op_len rfl rfl ?_
  refine op_move rfl rfl ?_
  refine ops_nil ?_
  refine fin_code ?_
  refine run_block ?_
  refine run_loop (α := Nat) (fun x => [(8, .slice A n c), (9, .int .i64 n), (10, .int .i64 x)]) (fun _ => [])
    (fun x => x ≤ n ∧ ∀ j (h : j < l.length), j < x → l[j].st.arcs.length ≤ 2147483647) (fun x => n - x) 0 ⟨Nat.zero_le _, fun j _ h => by omega⟩ ?_ ?_ ?_
  · (repeat (first | exact Sub.nil _ | (refine Sub.cons rfl ?_)))
  · (apply le_of_picks; (repeat (first | exact Picks.nil | (apply Picks.cons; (· (repeat (first | exact Pick.here | apply Pick.there)))) | apply Picks.empty)))
  rintro i ⟨hi, hall⟩
  by_cases hin : i < n
  · have hil : i < l.length := by omega
    rcases hr with hr | ⟨g, o, rfl, hg, hc⟩
    · exfalso
      have := flat_len lstV 4 (fun _ => rfl) l
      rw [hr] at this
      simp at this
      omega
    refine run_seq ?_
    refine run_region rfl ?_
    refine op_cmp_t rfl rfl rfl rfl (by first | (simp only [cmpP]; done) | (simp only [cmpP]; omega)) ?_
    refine ops_nil ?_
    refine fin_code ?_
    refine run_seq ?_
    refine run_cond_t rfl ?_
    refine run_skip ?_
    refine fin_code ?_
    refine run_seq ?_
    refine run_block ?_
    refine run_seq ?_
    refine run_region rfl ?_
    refine op_index rfl rfl rfl (by omega) (by first | (rw [Int.toNat_natCast, Nat.mul_one, Nat.zero_add]) | (rw [Int.toNat_natCast, Nat.mul_one]) | (rw [Int.toNat_natCast, Nat.zero_add]) | (rw [Int.toNat_natCast]) | exact rfl) ?_
    (apply op_loadA; (· exact rfl); (· exact rfl); (· exact (show (lstV l[i]).length = 4 from rfl)); (· exact fun j v hv => by rw [Nat.add_assoc]; exact Rd.cell hc hg (by simp [ids]) (flat_get lstV 4 (fun _ => rfl) l i hil j v hv)))
    (refine op_alloc rfl ?_; intro _ _)
    (apply op_storeAll; (· exact rfl); (· exact rfl); (· exact rfl); (· exact lstV_one _); (· (repeat (first | exact Swap.here | apply Swap.there))); (· exact rfl))
    refine ops_nil ?_
    refine fin_code ?_
    refine run_seq ?_
    refine run_region rfl ?_
    (apply op_loadAll; (· exact rfl); (· exact rfl); (· (repeat (first | exact Has.here | apply Has.there))); (· exact rfl))
    ((first | (apply op_call; (· exact rfl)) | apply op_call0); (· exact rfl); rotate_left 1; (· exact fun w hG hw => fits10_any w _ _ _ _ _ _); rotate_right 1; (· (repeat (first | exact Picks.nil | (apply Picks.cons; (· (repeat (first | exact Pick.here | apply Pick.there)))) | apply Picks.empty))))
    intro b hb
    cases b with
    | false =>
      refine op_not rfl rfl ?_
      refine ops_nil ?_
      refine fin_code ?_
      refine run_cond_t rfl ?_
      refine run_seq ?_
      refine run_region rfl ?_
      refine op_assign rfl rfl ?_
      refine ops_nil ?_
      refine fin_code ?_
      refine run_ret ?_
      refine fin_ret_block ?_
      refine fin_ret_code ?_
      refine fin_ret_inv ?_
      refine fin_ret_block ?_
      refine fin_ret_code ?_
      refine fin_ret1 rfl rfl ?_
      intro w' g
      exact hR _ _ (post_of g false (by simp) rfl (by (apply le_of_picks; (repeat (first | exact Picks.nil | (apply Picks.cons; (· (repeat (first | exact Pick.here | apply Pick.there)))) | apply Picks.empty)))))
    | true =>
      refine op_not rfl rfl ?_
      refine ops_nil ?_
      refine fin_code ?_
      refine run_cond_f rfl ?_
      refine run_skip ?_
      refine fin_block ?_
      refine fin_code ?_
      refine run_region rfl ?_
      refine op_add rfl rfl rfl (by simp only [kLo, kHi]; omega) ?_
      refine op_move rfl rfl ?_
      refine ops_nil ?_
      refine fin_round (i + 1) ?_ ?_ ?_ ⟨by omega, fun j h hj => ?_⟩
      · (first | omega | (dsimp only; omega))
      · (repeat (first | exact Sub.nil _ | (refine Sub.cons rfl ?_)))
      · (apply le_of_picks; (repeat (first | exact Picks.nil | (apply Picks.cons; (· (repeat (first | exact Pick.here | apply Pick.there)))) | apply Picks.empty)))
      · by_cases e : j = i
        · subst e; exact hb rfl
        · exact hall j h (by omega)
  · have : i = n := by omega
    subst this
    refine run_seq ?_
    refine run_region rfl ?_
    refine op_cmp_f rfl rfl rfl rfl (by first | (simp only [cmpP]; done) | (simp only [cmpP]; omega)) ?_
    refine ops_nil ?_
    refine fin_code ?_
    refine run_seq ?_
    refine run_cond_f rfl ?_
    refine run_exit ?_
    refine fin_exit_code ?_
    refine fin_exit_inv ?_
    refine fin_exit_here ?_
    refine fin_code ?_
    refine run_seq ?_
    refine run_region rfl ?_
    refine op_assign rfl rfl ?_
    refine ops_nil ?_
    refine fin_code ?_
    refine run_ret ?_
    refine fin_ret1 rfl rfl ?_
    intro w' g
    exact hR _ _ (post_of g true (fun _ => ⟨by omega, fun j h => hall j h (by omega)⟩) rfl (by (apply le_of_picks; (repeat (first | exact Picks.nil | (apply Picks.cons; (· (repeat (first | exact Pick.here | apply Pick.there)))) | apply Picks.empty)))))
set_option maxRecDepth 100000 in
theorem next_neg (w : World) (A : Option Addr) (n c : Nat) (a x : Int) (ha : a < 0) :
    Calls Try.prog 14 #[.slice A n c, .int .i64 a, .int .i64 x] w (Post w ([] : List Hp).flatten (fun _ : Unit => .int .i64 (-1)) (fun _ => ([] : List Hp).flatten) (fun _ => True)) := by
  refine enter [] Try.func14 rfl rfl (At.nil w) (Le.refl _) ?_
  intro R hR
  refine run_seq ?_
  refine run_region rfl ?_
  refine op_assign rfl rfl ?_
  refine ops_nil ?_
  refine fin_code ?_
  refine run_seq ?_
  refine run_seq ?_
  refine run_region rfl ?_
  refine op_move rfl rfl ?_
  refine op_cmp_t rfl rfl rfl rfl (by first | (simp only [cmpP]; done) | (simp only [cmpP]; omega)) ?_
  refine ops_nil ?_
  refine fin_code ?_
  refine run_cond_t rfl ?_
  refine run_seq ?_
  refine run_region rfl ?_
  refine op_assign rfl rfl ?_
  refine ops_nil ?_
  refine fin_code ?_
  refine run_ret ?_
  refine fin_ret_code ?_
  refine fin_ret1 rfl rfl ?_
  intro w' g
  exact hR _ _ (post_of g () trivial rfl (by (apply le_of_picks; (repeat (first | exact Picks.nil | (apply Picks.cons; (· (repeat (first | exact Pick.here | apply Pick.there)))) | apply Picks.empty)))))
/-- Where a letter leads. -/
def LSt.next (s : LSt) (x : Int) : Int := match s.arcs.find? (fun a => a.r == x) with
  | some a => a.to
  | none => s.dflt
theorem find_at {l : List LArc} {x : Int} {k : Nat} (hk : k < l.length) (hb : ∀ j (h : j < l.length), j < k → l[j].r ≠ x) (he : l[k].r = x) : l.find? (fun a => a.r == x) = some l[k] := by
  rw [List.find?_eq_some_iff_getElem]
  refine ⟨by simpa using he, k, hk, rfl, fun j hj => by simpa using hb j (by omega) hj⟩
theorem find_no {l : List LArc} {x : Int} (hb : ∀ j (h : j < l.length), l[j].r ≠ x) : l.find? (fun a => a.r == x) = none := by
  rw [List.find?_eq_none]
  intro a ha
  obtain ⟨j, hj, rfl⟩ := List.getElem_of_mem ha
  simpa using hb j hj
set_option maxRecDepth 100000 in
set_option maxHeartbeats 4000000 in
theorem next_any (w : World) (A : Option Addr) (n c i : Nat) (x : Int) (l : List LStM) (hl : l.length = n) (hn : n ≤ 2147483647) (hr : Rd w w.heap.size A (l.flatMap lstV)) (hil : i < l.length) (s : LStM) (hs : l[i] = s)
    (hn2 : s.st.arcs.length ≤ 2147483647) (hri : Rd w w.heap.size s.A (s.st.arcs.flatMap larV)) (hr32 : ∀ a ∈ s.st.arcs, -2147483648 ≤ a.r ∧ a.r ≤ 2147483647) :
    Calls Try.prog 14 #[.slice A n c, .int .i64 i, .int .i64 x] w (Post w ([] : List Hp).flatten (fun _ : Unit => .int .i64 (s.st.next x)) (fun _ => ([] : List Hp).flatten) (fun _ => True)) := by
  refine enter [] Try.func14 rfl rfl (At.nil w) (Le.refl _) ?_
  intro R hR
  obtain ⟨st, A2, c2⟩ := s
  dsimp only at hR hn2 hri hr32 ⊢
  have h1 : (lstV l[i])[1]? = some (.slice A2 st.arcs.length c2) := by rw [hs]; rfl
  have h0 : (lstV l[i])[0]? = some (.int .i64 st.dflt) := by rw [hs]; rfl
  rcases hr with hr | ⟨g, o, rfl, hg, hc⟩
  · exfalso
    have := flat_len lstV 4 (fun _ => rfl) l
    rw [hr] at this
    simp at this
    omega
  refine run_seq ?_
  refine run_region rfl ?_
  refine op_assign rfl rfl ?_
  refine ops_nil ?_
  refine fin_code ?_
  refine run_seq ?_
  refine run_seq ?_
  refine run_region rfl ?_
  refine op_move rfl rfl ?_
  refine op_cmp_f rfl rfl rfl rfl (by first | (simp only [cmpP]; done) | (simp only [cmpP]; omega)) ?_
  refine ops_nil ?_
  refine fin_code ?_
  refine run_cond_f rfl ?_
  refine run_skip ?_
  refine fin_code ?_
  refine run_seq ?_
  refine run_seq ?_
  refine run_region rfl ?_
  refine op_assign rfl rfl ?_
  refine ops_nil ?_
  refine fin_code ?_
  refine run_block ?_
  refine run_loop (α := Nat) (fun k => [(0, .slice (some ⟨g, o, none⟩) n c), (1, .int .i64 i), (2, .int .i64 x), (7, .int .i64 (k : Nat))]) (fun _ => [])
    (fun k => k ≤ st.arcs.length ∧ ∀ j (h : j < st.arcs.length), j < k → st.arcs[j].r ≠ x) (fun k => st.arcs.length - k) 0 ⟨Nat.zero_le _, fun j _ h => by omega⟩ (by (repeat (first | exact Sub.nil _ | (refine Sub.cons rfl ?_)))) (by (apply le_of_picks; (repeat (first | exact Picks.nil | (apply Picks.cons; (· (repeat (first | exact Pick.here | apply Pick.there)))) | apply Picks.empty)))) ?_
  rintro k ⟨hkn, hall⟩
  by_cases hk : k < st.arcs.length
  · obtain ⟨g1, o1, rfl, hg1, hc1⟩ := hri.some (by rw [flat_len larV 2 (fun _ => rfl)]; omega)
    have hrk := hr32 _ (List.getElem_mem hk)
    by_cases he : st.arcs[k].r = x
    · have hnx : st.next x = st.arcs[k].to := by unfold LSt.next; rw [find_at hk hall he]
      rw [hnx] at hR
      refine run_seq ?_
      refine run_seq ?_
      refine run_region rfl ?_
      refine op_move rfl rfl ?_
      refine op_move rfl rfl ?_
      refine op_move rfl rfl ?_
      refine op_index rfl rfl rfl (by omega) (by first | (rw [Int.toNat_natCast, Nat.mul_one, Nat.zero_add]) | (rw [Int.toNat_natCast, Nat.mul_one]) | (rw [Int.toNat_natCast, Nat.zero_add]) | (rw [Int.toNat_natCast]) | exact rfl) ?_
      refine op_fieldAddr rfl rfl ?_
      (apply op_load; (· exact rfl); (· exact rfl); (· exact lst_cell hc hg (by simp [ids]) hil (by assumption)))
      refine op_len rfl rfl ?_
      refine op_cmp_t rfl rfl rfl rfl (by first | (simp only [cmpP]; done) | (simp only [cmpP]; omega)) ?_
      refine ops_nil ?_
      refine fin_code ?_
      refine run_cond_t rfl ?_
      refine run_skip ?_
      refine fin_code ?_
      refine run_seq ?_
      refine run_block ?_
      refine run_seq ?_
      refine run_region rfl ?_
      refine op_move rfl rfl ?_
      refine op_move rfl rfl ?_
      refine op_index rfl rfl rfl (by omega) (by first | (rw [Int.toNat_natCast, Nat.mul_one, Nat.zero_add]) | (rw [Int.toNat_natCast, Nat.mul_one]) | (rw [Int.toNat_natCast, Nat.zero_add]) | (rw [Int.toNat_natCast]) | exact rfl) ?_
      refine op_fieldAddr rfl rfl ?_
      (apply op_load; (· exact rfl); (· exact rfl); (· exact lst_cell hc hg (by simp [ids]) hil (by assumption)))
      refine op_move rfl rfl ?_
      refine op_index rfl rfl rfl (by omega) (by first | (rw [Int.toNat_natCast, Nat.mul_one, Nat.zero_add]) | (rw [Int.toNat_natCast, Nat.mul_one]) | (rw [Int.toNat_natCast, Nat.zero_add]) | (rw [Int.toNat_natCast]) | exact rfl) ?_
      refine op_fieldAddr rfl rfl ?_
      (apply op_load; (· exact rfl); (· exact rfl); (· exact lar_cell hc1 hg1 (by simp [ids]) hk rfl))
      refine op_conv rfl rfl (by simp only [kLo, kHi]; omega) ?_
      refine op_move rfl rfl ?_
      refine op_cmp_t rfl rfl rfl rfl (by first | (simp only [cmpP]; done) | (simp only [cmpP]; omega)) ?_
      refine ops_nil ?_
      refine fin_code ?_
      refine run_cond_t rfl ?_
      refine run_seq ?_
      refine run_region rfl ?_
      refine op_move rfl rfl ?_
      refine op_move rfl rfl ?_
      refine op_index rfl rfl rfl (by omega) (by first | (rw [Int.toNat_natCast, Nat.mul_one, Nat.zero_add]) | (rw [Int.toNat_natCast, Nat.mul_one]) | (rw [Int.toNat_natCast, Nat.zero_add]) | (rw [Int.toNat_natCast]) | exact rfl) ?_
      refine op_fieldAddr rfl rfl ?_
      (apply op_load; (· exact rfl); (· exact rfl); (· exact lst_cell hc hg (by simp [ids]) hil (by assumption)))
      refine op_move rfl rfl ?_
      refine op_index rfl rfl rfl (by omega) (by first | (rw [Int.toNat_natCast, Nat.mul_one, Nat.zero_add]) | (rw [Int.toNat_natCast, Nat.mul_one]) | (rw [Int.toNat_natCast, Nat.zero_add]) | (rw [Int.toNat_natCast]) | exact rfl) ?_
      refine op_fieldAddr rfl rfl ?_
      (apply op_load; (· exact rfl); (· exact rfl); (· exact lar_cell hc1 hg1 (by simp [ids]) hk rfl))
      refine op_assign rfl rfl ?_
      refine ops_nil ?_
      refine fin_code ?_
      refine run_ret ?_
      refine fin_ret_block ?_
      refine fin_ret_code ?_
      refine fin_ret_inv ?_
      refine fin_ret_block ?_
      refine fin_ret_code ?_
      refine fin_ret1 rfl rfl ?_
      intro w' g
      exact hR _ _ (post_of g () trivial rfl (by (apply le_of_picks; (repeat (first | exact Picks.nil | (apply Picks.cons; (· (repeat (first | exact Pick.here | apply Pick.there)))) | apply Picks.empty)))))
    · refine run_seq ?_
      refine run_seq ?_
      refine run_region rfl ?_
      refine op_move rfl rfl ?_
      refine op_move rfl rfl ?_
      refine op_move rfl rfl ?_
      refine op_index rfl rfl rfl (by omega) (by first | (rw [Int.toNat_natCast, Nat.mul_one, Nat.zero_add]) | (rw [Int.toNat_natCast, Nat.mul_one]) | (rw [Int.toNat_natCast, Nat.zero_add]) | (rw [Int.toNat_natCast]) | exact rfl) ?_
      refine op_fieldAddr rfl rfl ?_
      (apply op_load; (· exact rfl); (· exact rfl); (· exact lst_cell hc hg (by simp [ids]) hil (by assumption)))
      refine op_len rfl rfl ?_
      refine op_cmp_t rfl rfl rfl rfl (by first | (simp only [cmpP]; done) | (simp only [cmpP]; omega)) ?_
      refine ops_nil ?_
      refine fin_code ?_
      refine run_cond_t rfl ?_
      refine run_skip ?_
      refine fin_code ?_
      refine run_seq ?_
      refine run_block ?_
      refine run_seq ?_
      refine run_region rfl ?_
      refine op_move rfl rfl ?_
      refine op_move rfl rfl ?_
      refine op_index rfl rfl rfl (by omega) (by first | (rw [Int.toNat_natCast, Nat.mul_one, Nat.zero_add]) | (rw [Int.toNat_natCast, Nat.mul_one]) | (rw [Int.toNat_natCast, Nat.zero_add]) | (rw [Int.toNat_natCast]) | exact rfl) ?_
      refine op_fieldAddr rfl rfl ?_
      (apply op_load; (· exact rfl); (· exact rfl); (· exact lst_cell hc hg (by simp [ids]) hil (by assumption)))
      refine op_move rfl rfl ?_
      refine op_index rfl rfl rfl (by omega) (by first | (rw [Int.toNat_natCast, Nat.mul_one, Nat.zero_add]) | (rw [Int.toNat_natCast, Nat.mul_one]) | (rw [Int.toNat_natCast, Nat.zero_add]) | (rw [Int.toNat_natCast]) | exact rfl) ?_
      refine op_fieldAddr rfl rfl ?_
      (apply op_load; (· exact rfl); (· exact rfl); (· exact lar_cell hc1 hg1 (by simp [ids]) hk rfl))
      refine op_conv rfl rfl (by simp only [kLo, kHi]; omega) ?_
      refine op_move rfl rfl ?_
      refine op_cmp_f rfl rfl rfl rfl (by first | (simp only [cmpP]; done) | (simp only [cmpP]; omega)) ?_
      refine ops_nil ?_
      refine fin_code ?_
      refine run_cond_f rfl ?_
      refine run_skip ?_
      refine fin_block ?_
      refine fin_code ?_
      refine run_region rfl ?_
      refine op_move rfl rfl ?_
      refine op_add rfl rfl rfl (by simp only [kLo, kHi]; omega) ?_
      refine op_assign rfl rfl ?_
      refine ops_nil ?_
      refine fin_round (k + 1) (by omega) (by (repeat (first | exact Sub.nil _ | (refine Sub.cons rfl ?_)))) (by (apply le_of_picks; (repeat (first | exact Picks.nil | (apply Picks.cons; (· (repeat (first | exact Pick.here | apply Pick.there)))) | apply Picks.empty)))) ⟨by omega, fun j h hj => ?_⟩
      by_cases e : j = k
      · subst e; exact he
      · exact hall j h (by omega)
  · have hnx : st.next x = st.dflt := by unfold LSt.next; rw [find_no (fun j h => hall j h (by omega))]
    rw [hnx] at hR
    refine run_seq ?_
    refine run_seq ?_
    refine run_region rfl ?_
    refine op_move rfl rfl ?_
    refine op_move rfl rfl ?_
    refine op_move rfl rfl ?_
    refine op_index rfl rfl rfl (by omega) (by first | (rw [Int.toNat_natCast, Nat.mul_one, Nat.zero_add]) | (rw [Int.toNat_natCast, Nat.mul_one]) | (rw [Int.toNat_natCast, Nat.zero_add]) | (rw [Int.toNat_natCast]) | exact rfl) ?_
    refine op_fieldAddr rfl rfl ?_
    (apply op_load; (· exact rfl); (· exact rfl); (· exact lst_cell hc hg (by simp [ids]) hil (by assumption)))
    refine op_len rfl rfl ?_
    refine op_cmp_f rfl rfl rfl rfl (by first | (simp only [cmpP]; done) | (simp only [cmpP]; omega)) ?_
    refine ops_nil ?_
    refine fin_code ?_
    refine run_cond_f rfl ?_
    refine run_exit ?_
    refine fin_exit_code ?_
    refine fin_exit_inv ?_
    refine fin_exit_here ?_
    refine fin_code ?_
    refine run_seq ?_
    refine run_region rfl ?_
    refine op_move rfl rfl ?_
    refine op_move rfl rfl ?_
    refine op_index rfl rfl rfl (by omega) (by first | (rw [Int.toNat_natCast, Nat.mul_one, Nat.zero_add]) | (rw [Int.toNat_natCast, Nat.mul_one]) | (rw [Int.toNat_natCast, Nat.zero_add]) | (rw [Int.toNat_natCast]) | exact rfl) ?_
    refine op_fieldAddr rfl rfl ?_
    (apply op_load; (· exact rfl); (· exact rfl); (· exact lst_cell hc hg (by simp [ids]) hil (by assumption)))
    refine op_assign rfl rfl ?_
    refine ops_nil ?_
    refine fin_code ?_
    refine run_ret ?_
    refine fin_ret1 rfl rfl ?_
    intro w' g
    exact hR _ _ (post_of g () trivial rfl (by (apply le_of_picks; (repeat (first | exact Picks.nil | (apply Picks.cons; (· (repeat (first | exact Pick.here | apply Pick.there)))) | apply Picks.empty)))))
end Go.Proofs.Eng
