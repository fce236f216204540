/- A part of the proof: what functions of the program do, step by step. -/
import Derived.Test.YtjfpcckdelocpaaDoorEngT4
import Derived.Test.YtjfpcckdelocpaaDoorY2
import Derived.Test.YtjfpcckdelocpaaDoorC1
set_option linter.unusedVariables false
set_option linter.unusedSimpArgs false
namespace Go.Proofs.Eng
open Go.RowKit
def bv (l : List Bool) : List Value := l.map fun (x : Bool) => .bool x
theorem bv_get (l : List Bool) (i : Nat) (h : i < l.length) : (bv l)[i]? = some (.bool l[i]) := by simp [bv, h]
theorem bv_set (l : List Bool) (i : Nat) (b : Bool) : (bv l).set i (.bool b) = bv (l.set i b) := by simp [bv]
@[simp] theorem bv_len (l : List Bool) : (bv l).length = l.length := by simp [bv]
theorem bv_one (l : List Bool) : ∀ u ∈ bv l, u.oneCell' = true := by
  intro u hu
  simp [bv] at hu
  rcases hu with ⟨_, rfl⟩ | ⟨_, rfl⟩ <;> rfl
def u64L (l : List Nat) : List Value := l.map fun (n : Nat) => .int .u64 n
theorem aget_nv (l : List Nat) (i : Nat) (h : i < l.length) : aget (u64L l).toArray i = some (.int .u64 (l[i] : Nat)) := by simp [aget_eq, u64L, h]
theorem enc_get (l : List In) (i : Nat) (h : i < l.length) (f : Nat) (v : Value) (hv : (inCells l[i])[f]? = some v) : (encI l)[i * 6 + f]? = some v := flat_get inCells 6 (fun _ => rfl) l i h f v hv
theorem Rd.inCell {C : Ctx} {Ls : List Hp} {B g o : Nat} {l : List In} (h : ∀ (j : Nat) v, (encI l)[j]? = Option.some v → C.w0.cell? ⟨g, o + j, none⟩ = Option.some v) (hg : g < B) (hL : ∀ k ∈ ids C.L0, B ≤ k) {i f : Nat} {v : Value} (hi : i < l.length) (hv : (inCells l[i])[f]? = Option.some v) : Cell C Ls ⟨g, o + i * 6 + f, none⟩ v := by
  rw [Nat.add_assoc]
  exact Rd.cell h hg hL (enc_get l i hi f v hv)
theorem Reach.snoc {l : List In} {x y z : Nat} (h : Reach l x y) (s : Step l y z) : Reach l x z := by
  induction h with
  | refl x => exact .step s (.refl _)
  | step s1 _ ih => exact .step s1 (ih s)
/-- A set between one and what is reached from it. -/
structure Mid (l : List In) (n : Nat) (set out : List Bool) : Prop where
  len : out.length = n
  sub : ∀ i : Nat, set[i]? = some true → out[i]? = some true
  from_ : ∀ i : Nat, out[i]? = some true → ∃ x : Nat, set[x]? = some true ∧ Reach l x i
theorem Mid.put {l : List In} {n : Nat} {set out : List Bool} (h : Mid l n set out) {i z : Nat} (hi : out[i]? = some true) (hs : Step l i z) : Mid l n set (out.set z true) := by
  refine ⟨by simp [h.len], fun j hj => ?_, fun j hj => ?_⟩
  · rw [List.getElem?_set]
    split
    · rename_i e
      subst e
      have := (List.getElem?_eq_some_iff.1 (h.sub _ hj)).1
      simp [this]
    · exact h.sub _ hj
  · rw [List.getElem?_set] at hj
    split at hj
    · rename_i e
      subst e
      obtain ⟨x, hx, hr⟩ := h.from_ _ hi
      exact ⟨x, hx, hr.snoc hs⟩
    · exact h.from_ _ hj
def falses (l : List Bool) : Nat := l.count false
theorem falses_set : ∀ (l : List Bool) (z : Nat), l[z]? = some false → falses (l.set z true) < falses l
  | [], z, h => by simp at h
  | x :: r, 0, h => by
    simp at h
    subst h
    simp [falses]
  | x :: r, z + 1, h => by
    have := falses_set r z (by simpa using h)
    simp [falses, List.count_cons] at this ⊢
    exact this
/-- What has come of a round of the outer loop. -/
structure Rnd (l : List In) (n : Nat) (set out0 : List Bool) (i : Nat) (again : Bool) (out : List Bool) : Prop where
  mid : Mid l n set out
  no : again = false → out = out0 ∧ ∀ j, j < i → out[j]? = some true → ∀ z, Step l j z → out[z]? = some true
  yes : again = true → falses out < falses out0
set_option maxRecDepth 100000 in
set_option maxHeartbeats 4000000 in
theorem reached_any (w : World) (A : Option Addr) (n c : Nat) (l : List In) (hl : l.length = n) (hn : n ≤ 1000000) (hn0 : 0 < n) (hr : Rd w w.heap.size A (encI l)) (hS : Sound l)
    (A' : Option Addr) (c' : Nat) (set : List Bool) (hsl : set.length = n) (hsr : Rd w w.heap.size A' (bv set)) :
    Calls Tryd.prog 35 #[.slice A n c, .slice A' n c'] w (Post w ([] : List Hp).flatten (fun r : Value × Hp × List Bool => r.1) (fun r => ([r.2.1] : List Hp).flatten)
      (fun r => Own 4 1 r.1 n (bv r.2.2) r.2.1 ∧ Mid l n set r.2.2 ∧ ∀ j : Nat, r.2.2[j]? = some true → ∀ z, Step l j z → r.2.2[z]? = some true)) := by
  rcases hr with hr | ⟨g, o, rfl, hag, hac⟩
  · cases l with
    | nil => simp at hl; omega
    | cons x r => simp [encI, inCells] at hr
  rcases hsr with hsr | ⟨g', o', rfl, hbg, hbc⟩
  · have : (bv set).length = 0 := by rw [hsr]; rfl
    rw [bv_len] at this; omega
  refine enter [] Tryd.func35 rfl rfl (At.nil w) (Le.refl _) ?_
  intro R hR
  refine run_seq ?_
  refine run_region rfl ?_
  refine op_assign rfl rfl ?_
  refine ops_nil ?_
  refine fin_code ?_
  refine run_seq ?_
  refine run_region rfl ?_
  (refine op_sliceN rfl rfl rfl (by first | (intro v hv; simp at hv; done) | (intro v hv; simp at hv; rcases hv with rfl | rfl | rfl | rfl | rfl | rfl | rfl <;> rfl) | (intro v hv; simp at hv; rcases hv with rfl | rfl | rfl | rfl | rfl | rfl <;> rfl) | (intro v hv; simp at hv; rcases hv with rfl | rfl | rfl | rfl | rfl <;> rfl) | (intro v hv; simp at hv; rcases hv with rfl | rfl | rfl | rfl <;> rfl) | (intro v hv; simp at hv; rcases hv with rfl | rfl | rfl <;> rfl) | (intro v hv; simp at hv; rcases hv with rfl | rfl <;> rfl) | (intro v hv; simp at hv; rcases hv with rfl; rfl)) rfl rfl (by decide) ?_; intro _ _)
  refine op_move rfl rfl ?_
  apply op_append
  · exact rfl
  · exact rfl
  · exact rfl
  · exact Own.empty
  · (repeat (first | exact Pick.here | apply Pick.there))
  · exact (show (bv set).length = n * 1 by rw [bv_len]; omega)
  · exact bv_one set
  · exact fun j u hj => by rw [add_addr]; exact Rd.cell hbc hbg (by simp [ids]) hj
  · simp only [maxLen]; omega
  · omega
  · exact rfl
  intro v' l' ho'
  have ho : Own 4 1 v' n (bv set) l' := by simpa using ho'
  obtain ⟨g2, cap, sp, rfl, rfl, hc1, hc2, hc3, hc4⟩ := ho.open hn0
  refine op_assign rfl rfl ?_
  refine ops_nil ?_
  refine fin_code ?_
  refine run_seq ?_
  refine run_seq ?_
  refine run_region rfl ?_
  refine op_assign rfl rfl ?_
  refine ops_nil ?_
  refine fin_code ?_
  refine run_block ?_
  refine run_loop (α := Bool × List Bool) (fun x => [(0, .slice (some ⟨g, o, none⟩) n c), (5, .slice (some ⟨g2, 0, none⟩) n cap), (6, .bool x.1)]) (fun x => [[⟨g2, .cells (bv x.2 ++ sp).toArray 4 (0, 0)⟩]])
    (fun x => Mid l n set x.2 ∧ (x.1 = false → ∀ j : Nat, x.2[j]? = some true → ∀ z, Step l j z → x.2[z]? = some true)) (fun x => 2 * falses x.2 + (if x.1 then 1 else 0)) (true, set) ⟨⟨hsl, fun _ h => h, fun i h => ⟨i, h, .refl _⟩⟩, fun h => by cases h⟩ ?_ ?_ ?_
  · (repeat (first | exact Sub.nil _ | (refine Sub.cons rfl ?_)))
  · (apply le_of_picks; (repeat (first | exact Picks.nil | (apply Picks.cons; (· (repeat (first | exact Pick.here | apply Pick.there)))) | apply Picks.empty)))
  rintro ⟨again, out0⟩ ⟨hm0, hcl⟩
  dsimp only at hm0 hcl ⊢
  cases again with
  | false =>
    refine run_seq ?_
    refine run_seq ?_
    refine run_region rfl ?_
    refine op_move rfl rfl ?_
    refine ops_nil ?_
    refine fin_code ?_
    refine run_cond_f rfl ?_
    refine run_exit ?_
    refine fin_exit_code ?_
    refine fin_exit_inv ?_
    refine fin_exit_here ?_
    refine fin_code ?_
    refine run_seq ?_
    refine run_region rfl ?_
    refine op_move rfl rfl ?_
    refine op_assign rfl rfl ?_
    refine ops_nil ?_
    refine fin_code ?_
    refine run_ret ?_
    refine fin_ret1 rfl rfl ?_
    intro w' gg
    have hlen := hm0.len
    refine hR _ _ (post_of gg (.slice (some ⟨g2, 0, none⟩) n cap, [⟨g2, .cells (bv out0 ++ sp).toArray 4 (0, 0)⟩], out0) ⟨Own.close (by rw [bv_len, hlen]) hc1 hc2 ?_, hm0, hcl rfl⟩ rfl ?_)
    · show (bv out0 ++ sp).length = cap
      rw [List.length_append, bv_len] at hc3 ⊢; omega
    · (apply le_of_picks; (repeat (first | exact Picks.nil | (apply Picks.cons; (· (repeat (first | exact Pick.here | apply Pick.there)))) | apply Picks.empty)))
  | true =>
    refine run_seq ?_
    refine run_seq ?_
    refine run_region rfl ?_
    refine op_move rfl rfl ?_
    refine ops_nil ?_
    refine fin_code ?_
    refine run_cond_t rfl ?_
    refine run_skip ?_
    refine fin_code ?_
    refine run_block ?_
    refine run_seq ?_
    refine run_region rfl ?_
    refine op_assign rfl rfl ?_
    refine ops_nil ?_
    refine fin_code ?_
    refine run_seq ?_
    refine run_region rfl ?_
    refine op_assign rfl rfl ?_
    refine ops_nil ?_
    refine fin_code ?_
    refine run_block ?_
    refine run_loop (α := Nat × Bool × List Bool) (fun x => [(0, .slice (some ⟨g, o, none⟩) n c), (5, .slice (some ⟨g2, 0, none⟩) n cap), (6, .bool x.2.1), (7, .int .i64 x.1)]) (fun x => [[⟨g2, .cells (bv x.2.2 ++ sp).toArray 4 (0, 0)⟩]])
      (fun x => x.1 ≤ n ∧ Rnd l n set out0 x.1 x.2.1 x.2.2) (fun x => n - x.1) (0, false, out0) ⟨Nat.zero_le _, ⟨hm0, fun _ => ⟨rfl, fun j hj => absurd hj (Nat.not_lt_zero j)⟩, fun h => by cases h⟩⟩ ?_ ?_ ?_
    · (repeat (first | exact Sub.nil _ | (refine Sub.cons rfl ?_)))
    · (apply le_of_picks; (repeat (first | exact Picks.nil | (apply Picks.cons; (· (repeat (first | exact Pick.here | apply Pick.there)))) | apply Picks.empty)))
    rintro ⟨i, again, out⟩ ⟨hi, hrn⟩
    dsimp only at hi hrn ⊢
    have hlen := hrn.mid.len
    by_cases hin : i < n
    · have hil : i < l.length := by omega
      have hb := bv_get out i (by omega)
      cases ho : out[i] with
      | false =>
        rw [ho] at hb
        refine run_seq ?_
        refine run_seq ?_
        refine run_region rfl ?_
        refine op_move rfl rfl ?_
        refine op_move rfl rfl ?_
        refine op_len rfl rfl ?_
        refine op_cmp_t rfl rfl rfl rfl (by first | (simp only [cmpP]; done) | (simp only [cmpP]; omega)) ?_
        refine ops_nil ?_
        refine fin_code ?_
        refine run_cond_t rfl ?_
        refine run_skip ?_
        refine fin_code ?_
        refine run_seq ?_
        refine run_block ?_
        refine run_seq ?_
        refine run_seq ?_
        refine run_region rfl ?_
        refine op_move rfl rfl ?_
        refine op_move rfl rfl ?_
        refine op_index rfl rfl rfl (by omega) (by first | (rw [Int.toNat_natCast, Nat.mul_one, Nat.zero_add]) | (rw [Int.toNat_natCast, Nat.mul_one]) | (rw [Int.toNat_natCast, Nat.zero_add]) | (rw [Int.toNat_natCast]) | exact rfl) ?_
        (apply op_load; (· exact rfl); (· exact rfl); (· apply cell_of_has; (· (repeat (first | exact Has.here | apply Has.there))); (· first | exact rfl | exact aget_pre hb | exact aget_nv _ _ (by omega) | exact hget)))
        refine op_not rfl rfl ?_
        refine ops_nil ?_
        refine fin_code ?_
        refine run_cond_t rfl ?_
        refine run_exit ?_
        refine fin_exit_code ?_
        refine fin_exit_here ?_
        refine fin_code ?_
        refine run_region rfl ?_
        refine op_move rfl rfl ?_
        refine op_add rfl rfl rfl (by simp only [kLo, kHi]; omega) ?_
        refine op_assign rfl rfl ?_
        refine ops_nil ?_
        refine fin_round (i + 1, again, out) ?_ ?_ ?_ ⟨by omega, hrn.mid, fun h => ⟨(hrn.no h).1, fun j hj ht => ?_⟩, hrn.yes⟩
        · dsimp only; omega
        · (repeat (first | exact Sub.nil _ | (refine Sub.cons rfl ?_)))
        · (apply le_of_picks; (repeat (first | exact Picks.nil | (apply Picks.cons; (· (repeat (first | exact Pick.here | apply Pick.there)))) | apply Picks.empty)))
        · rcases Nat.lt_or_ge j i with h2 | h2
          · exact (hrn.no h).2 j h2 ht
          · dsimp only at hj ht
            have : j = i := by omega
            subst this
            rw [List.getElem?_eq_getElem (by omega), ho] at ht
            cases ht
      | true =>
        rw [ho] at hb
        have hoi : out[i]? = some true := by rw [List.getElem?_eq_getElem (by omega), ho]
        refine run_seq ?_
        refine run_seq ?_
        refine run_region rfl ?_
        refine op_move rfl rfl ?_
        refine op_move rfl rfl ?_
        refine op_len rfl rfl ?_
        refine op_cmp_t rfl rfl rfl rfl (by first | (simp only [cmpP]; done) | (simp only [cmpP]; omega)) ?_
        refine ops_nil ?_
        refine fin_code ?_
        refine run_cond_t rfl ?_
        refine run_skip ?_
        refine fin_code ?_
        refine run_seq ?_
        refine run_block ?_
        refine run_seq ?_
        refine run_seq ?_
        refine run_region rfl ?_
        refine op_move rfl rfl ?_
        refine op_move rfl rfl ?_
        refine op_index rfl rfl rfl (by omega) (by first | (rw [Int.toNat_natCast, Nat.mul_one, Nat.zero_add]) | (rw [Int.toNat_natCast, Nat.mul_one]) | (rw [Int.toNat_natCast, Nat.zero_add]) | (rw [Int.toNat_natCast]) | exact rfl) ?_
        (apply op_load; (· exact rfl); (· exact rfl); (· apply cell_of_has; (· (repeat (first | exact Has.here | apply Has.there))); (· first | exact rfl | exact aget_pre hb | exact aget_nv _ _ (by omega) | exact hget)))
        refine op_not rfl rfl ?_
        refine ops_nil ?_
        refine fin_code ?_
        refine run_cond_f rfl ?_
        refine run_skip ?_
        refine fin_code ?_
        refine run_seq ?_
        refine run_region rfl ?_
        (refine op_sliceN rfl rfl rfl (by first | (intro v hv; simp at hv; done) | (intro v hv; simp at hv; rcases hv with rfl | rfl | rfl | rfl | rfl | rfl | rfl <;> rfl) | (intro v hv; simp at hv; rcases hv with rfl | rfl | rfl | rfl | rfl | rfl <;> rfl) | (intro v hv; simp at hv; rcases hv with rfl | rfl | rfl | rfl | rfl <;> rfl) | (intro v hv; simp at hv; rcases hv with rfl | rfl | rfl | rfl <;> rfl) | (intro v hv; simp at hv; rcases hv with rfl | rfl | rfl <;> rfl) | (intro v hv; simp at hv; rcases hv with rfl | rfl <;> rfl) | (intro v hv; simp at hv; rcases hv with rfl; rfl)) rfl rfl (by decide) ?_; intro _ _)
        refine op_assign rfl rfl ?_
        refine ops_nil ?_
        refine fin_code ?_
        refine run_seq ?_
        refine run_seq ?_
        refine run_region rfl ?_
        refine op_move rfl rfl ?_
        refine op_move rfl rfl ?_
        refine op_index rfl rfl rfl (by omega) (by first | (rw [Int.toNat_natCast, Nat.mul_one, Nat.zero_add]) | (rw [Int.toNat_natCast, Nat.mul_one]) | (rw [Int.toNat_natCast, Nat.zero_add]) | (rw [Int.toNat_natCast]) | exact rfl) ?_
        refine op_fieldAddr rfl rfl ?_
        (apply op_load; (· exact rfl); (· exact rfl); (· exact Rd.inCell hac hag (by simp [ids]) hil rfl))
        refine ops_join1 (α := List Nat × Nat) (fun x => [(0, .slice (some ⟨g, o, none⟩) n c), (5, .slice (some ⟨g2, 0, none⟩) n cap), (6, .bool again), (7, .int .i64 i), (8, .slice (some ⟨x.2, 0, none⟩) x.1.length x.1.length)]) (fun x => [[⟨g2, .cells (bv out ++ sp).toArray 4 (0, 0)⟩], [⟨x.2, .cells (u64L x.1).toArray 46 (0, 0)⟩]])
          (fun x => x.1 = if l[i].op = 1 then [l[i].to] else []) ?_ ?_
        rotate_left 1
        · intro J
          by_cases h1 : l[i].op = 1
          · have J1 := fun gt => J ([l[i].to], gt) (by rw [if_pos h1])
            refine op_cmp_t rfl rfl rfl rfl (by first | (simp only [cmpP]; done) | (simp only [cmpP]; omega)) ?_
            refine ops_nil ?_
            refine fin_code ?_
            refine run_cond_t rfl ?_
            refine run_region rfl ?_
            refine op_move rfl rfl ?_
            refine op_move rfl rfl ?_
            refine op_index rfl rfl rfl (by omega) (by first | (rw [Int.toNat_natCast, Nat.mul_one, Nat.zero_add]) | (rw [Int.toNat_natCast, Nat.mul_one]) | (rw [Int.toNat_natCast, Nat.zero_add]) | (rw [Int.toNat_natCast]) | exact rfl) ?_
            refine op_fieldAddr rfl rfl ?_
            (apply op_load; (· exact rfl); (· exact rfl); (· exact Rd.inCell hac hag (by simp [ids]) hil rfl))
            (refine op_slice1 rfl rfl (by first | rfl | simp [Value.cells]) (by decide) ?_; intro _ _)
            refine op_assign rfl rfl ?_
            refine ops_nil ?_
            (apply J1)
            · (repeat (first | exact Sub.nil _ | (refine Sub.cons rfl ?_)))
            · (apply le_of_picks; (repeat (first | exact Picks.nil | (apply Picks.cons; (· (repeat (first | exact Pick.here | apply Pick.there)))) | apply Picks.empty)))
          · have J1 := fun gt => J ([], gt) (by rw [if_neg h1])
            refine op_cmp_f rfl rfl rfl rfl (by first | (simp only [cmpP]; done) | (simp only [cmpP]; omega)) ?_
            refine ops_nil ?_
            refine fin_code ?_
            refine run_cond_f rfl ?_
            refine run_skip ?_
            (apply J1)
            · (repeat (first | exact Sub.nil _ | (refine Sub.cons rfl ?_)))
            · (apply le_of_picks; (repeat (first | exact Picks.nil | (apply Picks.cons; (· (repeat (first | exact Pick.here | apply Pick.there)))) | apply Picks.empty)))
        rintro ⟨ts, gt⟩ hts
        dsimp only at hts ⊢
        refine fin_code ?_
        refine run_seq ?_
        refine run_seq ?_
        refine run_region rfl ?_
        refine op_move rfl rfl ?_
        refine op_move rfl rfl ?_
        refine op_index rfl rfl rfl (by omega) (by first | (rw [Int.toNat_natCast, Nat.mul_one, Nat.zero_add]) | (rw [Int.toNat_natCast, Nat.mul_one]) | (rw [Int.toNat_natCast, Nat.zero_add]) | (rw [Int.toNat_natCast]) | exact rfl) ?_
        refine op_fieldAddr rfl rfl ?_
        (apply op_load; (· exact rfl); (· exact rfl); (· exact Rd.inCell hac hag (by simp [ids]) hil rfl))
        refine ops_join1 (α := List Nat × Nat) (fun x => [(0, .slice (some ⟨g, o, none⟩) n c), (5, .slice (some ⟨g2, 0, none⟩) n cap), (6, .bool again), (7, .int .i64 i), (8, .slice (some ⟨x.2, 0, none⟩) x.1.length x.1.length)]) (fun x => [[⟨g2, .cells (bv out ++ sp).toArray 4 (0, 0)⟩], [⟨x.2, .cells (u64L x.1).toArray 46 (0, 0)⟩]])
          (fun x => (∀ z, Step l i z ↔ z ∈ x.1) ∧ x.1.length ≤ 2) ?_ ?_
        rotate_left 1
        · intro J
          have hgl : l[i]? = some l[i] := List.getElem?_eq_getElem hil
          by_cases h2 : l[i].op = 2
          · have J1 := fun gt => J ([l[i].a, l[i].b], gt) ⟨fun z => by simp [Step, hgl, h2], by simp⟩
            refine op_cmp_t rfl rfl rfl rfl (by first | (simp only [cmpP]; done) | (simp only [cmpP]; omega)) ?_
            refine ops_nil ?_
            refine fin_code ?_
            refine run_cond_t rfl ?_
            (refine run_draw (by kernel_rfl) ?_)
            (apply any_pure 0; (· exact rfl); (· exact rfl); (· exact rfl); (· (first | exact val_move rfl | exact val_assign rfl | exact val_nilCheck rfl | exact val_fieldAddr rfl | exact val_index rfl rfl (by omega) (by first | (rw [Int.toNat_natCast, Nat.mul_one, Nat.zero_add]) | (rw [Int.toNat_natCast, Nat.mul_one]) | (rw [Int.toNat_natCast, Nat.zero_add]) | (rw [Int.toNat_natCast]) | exact rfl) | exact val_len rfl | exact val_cap rfl | exact val_add rfl rfl (by simp only [kLo, kHi]; omega) | exact val_sub rfl rfl (by simp only [kLo, kHi]; omega) | exact val_cmp_t rfl rfl rfl (by first | (simp only [cmpP]; done) | (simp only [cmpP]; omega)) | exact val_cmp_f rfl rfl rfl (by first | (simp only [cmpP]; done) | (simp only [cmpP]; omega)) | exact val_pick_t rfl rfl | exact val_pick_f rfl rfl | exact val_extract rfl rfl | exact val_conv rfl (by simp only [kLo, kHi]; omega) | exact val_field1 rfl rfl | exact val_remN rfl rfl (by omega) | exact val_not rfl | exact val_fieldN rfl | exact val_build rfl rfl (by first | (intro v hv; simp at hv; done) | (intro v hv; simp at hv; rcases hv with rfl | rfl | rfl | rfl | rfl | rfl | rfl <;> rfl) | (intro v hv; simp at hv; rcases hv with rfl | rfl | rfl | rfl | rfl | rfl <;> rfl) | (intro v hv; simp at hv; rcases hv with rfl | rfl | rfl | rfl | rfl <;> rfl) | (intro v hv; simp at hv; rcases hv with rfl | rfl | rfl | rfl <;> rfl) | (intro v hv; simp at hv; rcases hv with rfl | rfl | rfl <;> rfl) | (intro v hv; simp at hv; rcases hv with rfl | rfl <;> rfl) | (intro v hv; simp at hv; rcases hv with rfl; rfl)) rfl | fail)); (· decide +kernel); (· decide +kernel); (· decide +kernel); (· exact rfl); (· exact rfl))
            (apply any_pure 0; (· exact rfl); (· exact rfl); (· exact rfl); (· (first | exact val_move rfl | exact val_assign rfl | exact val_nilCheck rfl | exact val_fieldAddr rfl | exact val_index rfl rfl (by omega) (by first | (rw [Int.toNat_natCast, Nat.mul_one, Nat.zero_add]) | (rw [Int.toNat_natCast, Nat.mul_one]) | (rw [Int.toNat_natCast, Nat.zero_add]) | (rw [Int.toNat_natCast]) | exact rfl) | exact val_len rfl | exact val_cap rfl | exact val_add rfl rfl (by simp only [kLo, kHi]; omega) | exact val_sub rfl rfl (by simp only [kLo, kHi]; omega) | exact val_cmp_t rfl rfl rfl (by first | (simp only [cmpP]; done) | (simp only [cmpP]; omega)) | exact val_cmp_f rfl rfl rfl (by first | (simp only [cmpP]; done) | (simp only [cmpP]; omega)) | exact val_pick_t rfl rfl | exact val_pick_f rfl rfl | exact val_extract rfl rfl | exact val_conv rfl (by simp only [kLo, kHi]; omega) | exact val_field1 rfl rfl | exact val_remN rfl rfl (by omega) | exact val_not rfl | exact val_fieldN rfl | exact val_build rfl rfl (by first | (intro v hv; simp at hv; done) | (intro v hv; simp at hv; rcases hv with rfl | rfl | rfl | rfl | rfl | rfl | rfl <;> rfl) | (intro v hv; simp at hv; rcases hv with rfl | rfl | rfl | rfl | rfl | rfl <;> rfl) | (intro v hv; simp at hv; rcases hv with rfl | rfl | rfl | rfl | rfl <;> rfl) | (intro v hv; simp at hv; rcases hv with rfl | rfl | rfl | rfl <;> rfl) | (intro v hv; simp at hv; rcases hv with rfl | rfl | rfl <;> rfl) | (intro v hv; simp at hv; rcases hv with rfl | rfl <;> rfl) | (intro v hv; simp at hv; rcases hv with rfl; rfl)) rfl | fail)); (· decide +kernel); (· decide +kernel); (· decide +kernel); (· exact rfl); (· exact rfl))
            (apply any_pure 0; (· exact rfl); (· exact rfl); (· exact rfl); (· (first | exact val_move rfl | exact val_assign rfl | exact val_nilCheck rfl | exact val_fieldAddr rfl | exact val_index rfl rfl (by omega) (by first | (rw [Int.toNat_natCast, Nat.mul_one, Nat.zero_add]) | (rw [Int.toNat_natCast, Nat.mul_one]) | (rw [Int.toNat_natCast, Nat.zero_add]) | (rw [Int.toNat_natCast]) | exact rfl) | exact val_len rfl | exact val_cap rfl | exact val_add rfl rfl (by simp only [kLo, kHi]; omega) | exact val_sub rfl rfl (by simp only [kLo, kHi]; omega) | exact val_cmp_t rfl rfl rfl (by first | (simp only [cmpP]; done) | (simp only [cmpP]; omega)) | exact val_cmp_f rfl rfl rfl (by first | (simp only [cmpP]; done) | (simp only [cmpP]; omega)) | exact val_pick_t rfl rfl | exact val_pick_f rfl rfl | exact val_extract rfl rfl | exact val_conv rfl (by simp only [kLo, kHi]; omega) | exact val_field1 rfl rfl | exact val_remN rfl rfl (by omega) | exact val_not rfl | exact val_fieldN rfl | exact val_build rfl rfl (by first | (intro v hv; simp at hv; done) | (intro v hv; simp at hv; rcases hv with rfl | rfl | rfl | rfl | rfl | rfl | rfl <;> rfl) | (intro v hv; simp at hv; rcases hv with rfl | rfl | rfl | rfl | rfl | rfl <;> rfl) | (intro v hv; simp at hv; rcases hv with rfl | rfl | rfl | rfl | rfl <;> rfl) | (intro v hv; simp at hv; rcases hv with rfl | rfl | rfl | rfl <;> rfl) | (intro v hv; simp at hv; rcases hv with rfl | rfl | rfl <;> rfl) | (intro v hv; simp at hv; rcases hv with rfl | rfl <;> rfl) | (intro v hv; simp at hv; rcases hv with rfl; rfl)) rfl | fail)); (· decide +kernel); (· decide +kernel); (· decide +kernel); (· exact rfl); (· exact rfl))
            (apply any_pure 0; (· exact rfl); (· exact rfl); (· exact rfl); (· (first | exact val_move rfl | exact val_assign rfl | exact val_nilCheck rfl | exact val_fieldAddr rfl | exact val_index rfl rfl (by omega) (by first | (rw [Int.toNat_natCast, Nat.mul_one, Nat.zero_add]) | (rw [Int.toNat_natCast, Nat.mul_one]) | (rw [Int.toNat_natCast, Nat.zero_add]) | (rw [Int.toNat_natCast]) | exact rfl) | exact val_len rfl | exact val_cap rfl | exact val_add rfl rfl (by simp only [kLo, kHi]; omega) | exact val_sub rfl rfl (by simp only [kLo, kHi]; omega) | exact val_cmp_t rfl rfl rfl (by first | (simp only [cmpP]; done) | (simp only [cmpP]; omega)) | exact val_cmp_f rfl rfl rfl (by first | (simp only [cmpP]; done) | (simp only [cmpP]; omega)) | exact val_pick_t rfl rfl | exact val_pick_f rfl rfl | exact val_extract rfl rfl | exact val_conv rfl (by simp only [kLo, kHi]; omega) | exact val_field1 rfl rfl | exact val_remN rfl rfl (by omega) | exact val_not rfl | exact val_fieldN rfl | exact val_build rfl rfl (by first | (intro v hv; simp at hv; done) | (intro v hv; simp at hv; rcases hv with rfl | rfl | rfl | rfl | rfl | rfl | rfl <;> rfl) | (intro v hv; simp at hv; rcases hv with rfl | rfl | rfl | rfl | rfl | rfl <;> rfl) | (intro v hv; simp at hv; rcases hv with rfl | rfl | rfl | rfl | rfl <;> rfl) | (intro v hv; simp at hv; rcases hv with rfl | rfl | rfl | rfl <;> rfl) | (intro v hv; simp at hv; rcases hv with rfl | rfl | rfl <;> rfl) | (intro v hv; simp at hv; rcases hv with rfl | rfl <;> rfl) | (intro v hv; simp at hv; rcases hv with rfl; rfl)) rfl | fail)); (· decide +kernel); (· decide +kernel); (· decide +kernel); (· exact rfl); (· exact rfl))
            (apply any_pure 1; (· exact rfl); (· exact rfl); (· exact rfl); (· (first | exact val_move rfl | exact val_assign rfl | exact val_nilCheck rfl | exact val_fieldAddr rfl | exact val_index rfl rfl (by omega) (by first | (rw [Int.toNat_natCast, Nat.mul_one, Nat.zero_add]) | (rw [Int.toNat_natCast, Nat.mul_one]) | (rw [Int.toNat_natCast, Nat.zero_add]) | (rw [Int.toNat_natCast]) | exact rfl) | exact val_len rfl | exact val_cap rfl | exact val_add rfl rfl (by simp only [kLo, kHi]; omega) | exact val_sub rfl rfl (by simp only [kLo, kHi]; omega) | exact val_cmp_t rfl rfl rfl (by first | (simp only [cmpP]; done) | (simp only [cmpP]; omega)) | exact val_cmp_f rfl rfl rfl (by first | (simp only [cmpP]; done) | (simp only [cmpP]; omega)) | exact val_pick_t rfl rfl | exact val_pick_f rfl rfl | exact val_extract rfl rfl | exact val_conv rfl (by simp only [kLo, kHi]; omega) | exact val_field1 rfl rfl | exact val_remN rfl rfl (by omega) | exact val_not rfl | exact val_fieldN rfl | exact val_build rfl rfl (by first | (intro v hv; simp at hv; done) | (intro v hv; simp at hv; rcases hv with rfl | rfl | rfl | rfl | rfl | rfl | rfl <;> rfl) | (intro v hv; simp at hv; rcases hv with rfl | rfl | rfl | rfl | rfl | rfl <;> rfl) | (intro v hv; simp at hv; rcases hv with rfl | rfl | rfl | rfl | rfl <;> rfl) | (intro v hv; simp at hv; rcases hv with rfl | rfl | rfl | rfl <;> rfl) | (intro v hv; simp at hv; rcases hv with rfl | rfl | rfl <;> rfl) | (intro v hv; simp at hv; rcases hv with rfl | rfl <;> rfl) | (intro v hv; simp at hv; rcases hv with rfl; rfl)) rfl | fail)); (· decide +kernel); (· decide +kernel); (· decide +kernel); (· exact rfl); (· exact rfl))
            (apply any_pure 1; (· exact rfl); (· exact rfl); (· exact rfl); (· (first | exact val_move rfl | exact val_assign rfl | exact val_nilCheck rfl | exact val_fieldAddr rfl | exact val_index rfl rfl (by omega) (by first | (rw [Int.toNat_natCast, Nat.mul_one, Nat.zero_add]) | (rw [Int.toNat_natCast, Nat.mul_one]) | (rw [Int.toNat_natCast, Nat.zero_add]) | (rw [Int.toNat_natCast]) | exact rfl) | exact val_len rfl | exact val_cap rfl | exact val_add rfl rfl (by simp only [kLo, kHi]; omega) | exact val_sub rfl rfl (by simp only [kLo, kHi]; omega) | exact val_cmp_t rfl rfl rfl (by first | (simp only [cmpP]; done) | (simp only [cmpP]; omega)) | exact val_cmp_f rfl rfl rfl (by first | (simp only [cmpP]; done) | (simp only [cmpP]; omega)) | exact val_pick_t rfl rfl | exact val_pick_f rfl rfl | exact val_extract rfl rfl | exact val_conv rfl (by simp only [kLo, kHi]; omega) | exact val_field1 rfl rfl | exact val_remN rfl rfl (by omega) | exact val_not rfl | exact val_fieldN rfl | exact val_build rfl rfl (by first | (intro v hv; simp at hv; done) | (intro v hv; simp at hv; rcases hv with rfl | rfl | rfl | rfl | rfl | rfl | rfl <;> rfl) | (intro v hv; simp at hv; rcases hv with rfl | rfl | rfl | rfl | rfl | rfl <;> rfl) | (intro v hv; simp at hv; rcases hv with rfl | rfl | rfl | rfl | rfl <;> rfl) | (intro v hv; simp at hv; rcases hv with rfl | rfl | rfl | rfl <;> rfl) | (intro v hv; simp at hv; rcases hv with rfl | rfl | rfl <;> rfl) | (intro v hv; simp at hv; rcases hv with rfl | rfl <;> rfl) | (intro v hv; simp at hv; rcases hv with rfl; rfl)) rfl | fail)); (· decide +kernel); (· decide +kernel); (· decide +kernel); (· exact rfl); (· exact rfl))
            (apply any_pure 1; (· exact rfl); (· exact rfl); (· exact rfl); (· (first | exact val_move rfl | exact val_assign rfl | exact val_nilCheck rfl | exact val_fieldAddr rfl | exact val_index rfl rfl (by omega) (by first | (rw [Int.toNat_natCast, Nat.mul_one, Nat.zero_add]) | (rw [Int.toNat_natCast, Nat.mul_one]) | (rw [Int.toNat_natCast, Nat.zero_add]) | (rw [Int.toNat_natCast]) | exact rfl) | exact val_len rfl | exact val_cap rfl | exact val_add rfl rfl (by simp only [kLo, kHi]; omega) | exact val_sub rfl rfl (by simp only [kLo, kHi]; omega) | exact val_cmp_t rfl rfl rfl (by first | (simp only [cmpP]; done) | (simp only [cmpP]; omega)) | exact val_cmp_f rfl rfl rfl (by first | (simp only [cmpP]; done) | (simp only [cmpP]; omega)) | exact val_pick_t rfl rfl | exact val_pick_f rfl rfl | exact val_extract rfl rfl | exact val_conv rfl (by simp only [kLo, kHi]; omega) | exact val_field1 rfl rfl | exact val_remN rfl rfl (by omega) | exact val_not rfl | exact val_fieldN rfl | exact val_build rfl rfl (by first | (intro v hv; simp at hv; done) | (intro v hv; simp at hv; rcases hv with rfl | rfl | rfl | rfl | rfl | rfl | rfl <;> rfl) | (intro v hv; simp at hv; rcases hv with rfl | rfl | rfl | rfl | rfl | rfl <;> rfl) | (intro v hv; simp at hv; rcases hv with rfl | rfl | rfl | rfl | rfl <;> rfl) | (intro v hv; simp at hv; rcases hv with rfl | rfl | rfl | rfl <;> rfl) | (intro v hv; simp at hv; rcases hv with rfl | rfl | rfl <;> rfl) | (intro v hv; simp at hv; rcases hv with rfl | rfl <;> rfl) | (intro v hv; simp at hv; rcases hv with rfl; rfl)) rfl | fail)); (· decide +kernel); (· decide +kernel); (· decide +kernel); (· exact rfl); (· exact rfl))
            (apply any_pure 1; (· exact rfl); (· exact rfl); (· exact rfl); (· (first | exact val_move rfl | exact val_assign rfl | exact val_nilCheck rfl | exact val_fieldAddr rfl | exact val_index rfl rfl (by omega) (by first | (rw [Int.toNat_natCast, Nat.mul_one, Nat.zero_add]) | (rw [Int.toNat_natCast, Nat.mul_one]) | (rw [Int.toNat_natCast, Nat.zero_add]) | (rw [Int.toNat_natCast]) | exact rfl) | exact val_len rfl | exact val_cap rfl | exact val_add rfl rfl (by simp only [kLo, kHi]; omega) | exact val_sub rfl rfl (by simp only [kLo, kHi]; omega) | exact val_cmp_t rfl rfl rfl (by first | (simp only [cmpP]; done) | (simp only [cmpP]; omega)) | exact val_cmp_f rfl rfl rfl (by first | (simp only [cmpP]; done) | (simp only [cmpP]; omega)) | exact val_pick_t rfl rfl | exact val_pick_f rfl rfl | exact val_extract rfl rfl | exact val_conv rfl (by simp only [kLo, kHi]; omega) | exact val_field1 rfl rfl | exact val_remN rfl rfl (by omega) | exact val_not rfl | exact val_fieldN rfl | exact val_build rfl rfl (by first | (intro v hv; simp at hv; done) | (intro v hv; simp at hv; rcases hv with rfl | rfl | rfl | rfl | rfl | rfl | rfl <;> rfl) | (intro v hv; simp at hv; rcases hv with rfl | rfl | rfl | rfl | rfl | rfl <;> rfl) | (intro v hv; simp at hv; rcases hv with rfl | rfl | rfl | rfl | rfl <;> rfl) | (intro v hv; simp at hv; rcases hv with rfl | rfl | rfl | rfl <;> rfl) | (intro v hv; simp at hv; rcases hv with rfl | rfl | rfl <;> rfl) | (intro v hv; simp at hv; rcases hv with rfl | rfl <;> rfl) | (intro v hv; simp at hv; rcases hv with rfl; rfl)) rfl | fail)); (· decide +kernel); (· decide +kernel); (· decide +kernel); (· exact rfl); (· exact rfl))
            (apply any_read 0; (· exact rfl); (· exact rfl); (· exact rfl); (· (first | (apply val_load; (· exact rfl); (· apply cell_of_has; (· (repeat (first | exact Has.here | apply Has.there))); (· first | exact rfl | exact aget_pre hb | exact aget_nv _ _ (by omega) | exact hget))) | (apply val_load; (· exact rfl); (· exact Rd.inCell hac hag (by simp [ids]) hil rfl)))); (· decide +kernel); (· decide +kernel); (· decide +kernel); (· exact rfl); (· exact rfl))
            (apply any_read 0; (· exact rfl); (· exact rfl); (· exact rfl); (· (first | (apply val_load; (· exact rfl); (· apply cell_of_has; (· (repeat (first | exact Has.here | apply Has.there))); (· first | exact rfl | exact aget_pre hb | exact aget_nv _ _ (by omega) | exact hget))) | (apply val_load; (· exact rfl); (· exact Rd.inCell hac hag (by simp [ids]) hil rfl)))); (· decide +kernel); (· decide +kernel); (· decide +kernel); (· exact rfl); (· exact rfl))
            (apply any_one; (· exact rfl); (· exact rfl); (· decide +kernel))
            (refine op_sliceN rfl rfl rfl (by first | (intro v hv; simp at hv; done) | (intro v hv; simp at hv; rcases hv with rfl | rfl | rfl | rfl | rfl | rfl | rfl <;> rfl) | (intro v hv; simp at hv; rcases hv with rfl | rfl | rfl | rfl | rfl | rfl <;> rfl) | (intro v hv; simp at hv; rcases hv with rfl | rfl | rfl | rfl | rfl <;> rfl) | (intro v hv; simp at hv; rcases hv with rfl | rfl | rfl | rfl <;> rfl) | (intro v hv; simp at hv; rcases hv with rfl | rfl | rfl <;> rfl) | (intro v hv; simp at hv; rcases hv with rfl | rfl <;> rfl) | (intro v hv; simp at hv; rcases hv with rfl; rfl)) rfl rfl (by decide) ?_; intro _ _)
            refine ops_nil ?_
            refine fin_any ?_
            (apply any_pure 0; (· exact rfl); (· exact rfl); (· exact rfl); (· (first | exact val_move rfl | exact val_assign rfl | exact val_nilCheck rfl | exact val_fieldAddr rfl | exact val_index rfl rfl (by omega) (by first | (rw [Int.toNat_natCast, Nat.mul_one, Nat.zero_add]) | (rw [Int.toNat_natCast, Nat.mul_one]) | (rw [Int.toNat_natCast, Nat.zero_add]) | (rw [Int.toNat_natCast]) | exact rfl) | exact val_len rfl | exact val_cap rfl | exact val_add rfl rfl (by simp only [kLo, kHi]; omega) | exact val_sub rfl rfl (by simp only [kLo, kHi]; omega) | exact val_cmp_t rfl rfl rfl (by first | (simp only [cmpP]; done) | (simp only [cmpP]; omega)) | exact val_cmp_f rfl rfl rfl (by first | (simp only [cmpP]; done) | (simp only [cmpP]; omega)) | exact val_pick_t rfl rfl | exact val_pick_f rfl rfl | exact val_extract rfl rfl | exact val_conv rfl (by simp only [kLo, kHi]; omega) | exact val_field1 rfl rfl | exact val_remN rfl rfl (by omega) | exact val_not rfl | exact val_fieldN rfl | exact val_build rfl rfl (by first | (intro v hv; simp at hv; done) | (intro v hv; simp at hv; rcases hv with rfl | rfl | rfl | rfl | rfl | rfl | rfl <;> rfl) | (intro v hv; simp at hv; rcases hv with rfl | rfl | rfl | rfl | rfl | rfl <;> rfl) | (intro v hv; simp at hv; rcases hv with rfl | rfl | rfl | rfl | rfl <;> rfl) | (intro v hv; simp at hv; rcases hv with rfl | rfl | rfl | rfl <;> rfl) | (intro v hv; simp at hv; rcases hv with rfl | rfl | rfl <;> rfl) | (intro v hv; simp at hv; rcases hv with rfl | rfl <;> rfl) | (intro v hv; simp at hv; rcases hv with rfl; rfl)) rfl | fail)); (· decide +kernel); (· decide +kernel); (· decide +kernel); (· exact rfl); (· exact rfl))
            (apply any_done; (· decide +kernel))
            (apply J1)
            · (repeat (first | exact Sub.nil _ | (refine Sub.cons rfl ?_)))
            · (apply le_of_picks; (repeat (first | exact Picks.nil | (apply Picks.cons; (· (repeat (first | exact Pick.here | apply Pick.there)))) | apply Picks.empty)))
          · have J1 := J (ts, gt) ⟨fun z => by rw [hts]; by_cases h1 : l[i].op = 1 <;> simp [Step, hgl, h1, h2], by rw [hts]; split <;> simp⟩
            refine op_cmp_f rfl rfl rfl rfl (by first | (simp only [cmpP]; done) | (simp only [cmpP]; omega)) ?_
            refine ops_nil ?_
            refine fin_code ?_
            refine run_cond_f rfl ?_
            refine run_skip ?_
            (apply J1)
            · (repeat (first | exact Sub.nil _ | (refine Sub.cons rfl ?_)))
            · (apply le_of_picks; (repeat (first | exact Picks.nil | (apply Picks.cons; (· (repeat (first | exact Pick.here | apply Pick.there)))) | apply Picks.empty)))
        rintro ⟨ts, gt⟩ ⟨hts, htl⟩
        dsimp only at hts htl ⊢
        refine fin_code ?_
        refine run_seq ?_
        refine run_region rfl ?_
        refine op_assign rfl rfl ?_
        refine ops_nil ?_
        refine fin_code ?_
        refine run_block ?_
        refine run_loop (α := Nat × Bool × List Bool) (fun x => [(0, .slice (some ⟨g, o, none⟩) n c), (5, .slice (some ⟨g2, 0, none⟩) n cap), (6, .bool x.2.1), (7, .int .i64 i), (8, .slice (some ⟨gt, 0, none⟩) ts.length ts.length), (9, .int .i64 x.1)]) (fun x => [[⟨g2, .cells (bv x.2.2 ++ sp).toArray 4 (0, 0)⟩], [⟨gt, .cells (u64L ts).toArray 46 (0, 0)⟩]])
          (fun x => x.1 ≤ ts.length ∧ x.2.2[i]? = some true ∧ Rnd l n set out0 i x.2.1 x.2.2 ∧ (x.2.1 = false → ∀ j, j < x.1 → ∀ z, ts[j]? = some z → x.2.2[z]? = some true)) (fun x => ts.length - x.1) (0, again, out) ⟨Nat.zero_le _, hoi, hrn, fun _ j hj => absurd hj (Nat.not_lt_zero j)⟩ ?_ ?_ ?_
        · (repeat (first | exact Sub.nil _ | (refine Sub.cons rfl ?_)))
        · (apply le_of_picks; (repeat (first | exact Picks.nil | (apply Picks.cons; (· (repeat (first | exact Pick.here | apply Pick.there)))) | apply Picks.empty)))
        clear hrn hb hoi ho hlen
        rintro ⟨k, again, out⟩ ⟨hk, hoi, hrn, hno⟩
        dsimp only at hk hoi hrn hno ⊢
        have hlen := hrn.mid.len
        by_cases hkt : k < ts.length
        · have hst := (hts ts[k]).2 (List.getElem_mem hkt)
          have htn := hS _ _ hst
          have hb := bv_get out ts[k] (by omega)
          cases ho : out[ts[k]] with
          | true =>
            rw [ho] at hb
            refine run_seq ?_
            refine run_seq ?_
            refine run_region rfl ?_
            refine op_move rfl rfl ?_
            refine op_move rfl rfl ?_
            refine op_len rfl rfl ?_
            refine op_cmp_t rfl rfl rfl rfl (by first | (simp only [cmpP]; done) | (simp only [cmpP]; omega)) ?_
            refine ops_nil ?_
            refine fin_code ?_
            refine run_cond_t rfl ?_
            refine run_skip ?_
            refine fin_code ?_
            refine run_seq ?_
            refine run_block ?_
            refine run_seq ?_
            refine run_region rfl ?_
            refine op_move rfl rfl ?_
            refine op_move rfl rfl ?_
            refine op_move rfl rfl ?_
            refine op_index rfl rfl rfl (by omega) (by first | (rw [Int.toNat_natCast, Nat.mul_one, Nat.zero_add]) | (rw [Int.toNat_natCast, Nat.mul_one]) | (rw [Int.toNat_natCast, Nat.zero_add]) | (rw [Int.toNat_natCast]) | exact rfl) ?_
            (apply op_load; (· exact rfl); (· exact rfl); (· apply cell_of_has; (· (repeat (first | exact Has.here | apply Has.there))); (· first | exact rfl | exact aget_pre hb | exact aget_nv _ _ (by omega) | exact hget)))
            refine op_conv rfl rfl (by simp only [kLo, kHi]; omega) ?_
            refine op_index rfl rfl rfl (by omega) (by first | (rw [Int.toNat_natCast, Nat.mul_one, Nat.zero_add]) | (rw [Int.toNat_natCast, Nat.mul_one]) | (rw [Int.toNat_natCast, Nat.zero_add]) | (rw [Int.toNat_natCast]) | exact rfl) ?_
            (apply op_load; (· exact rfl); (· exact rfl); (· apply cell_of_has; (· (repeat (first | exact Has.here | apply Has.there))); (· first | exact rfl | exact aget_pre hb | exact aget_nv _ _ (by omega) | exact hget)))
            refine op_not rfl rfl ?_
            refine ops_nil ?_
            refine fin_code ?_
            refine run_cond_f rfl ?_
            refine run_skip ?_
            refine fin_block ?_
            refine fin_code ?_
            refine run_region rfl ?_
            refine op_move rfl rfl ?_
            refine op_add rfl rfl rfl (by simp only [kLo, kHi]; omega) ?_
            refine op_assign rfl rfl ?_
            refine ops_nil ?_
            refine fin_round (k + 1, again, out) ?_ ?_ ?_ ⟨by omega, hoi, hrn, fun h j hj z hz => ?_⟩
            · dsimp only; omega
            · (repeat (first | exact Sub.nil _ | (refine Sub.cons rfl ?_)))
            · (apply le_of_picks; (repeat (first | exact Picks.nil | (apply Picks.cons; (· (repeat (first | exact Pick.here | apply Pick.there)))) | apply Picks.empty)))
            · dsimp only at h hj ⊢
              rcases Nat.lt_or_ge j k with h2 | h2
              · exact hno h j h2 z hz
              · have : j = k := by omega
                subst this
                rw [List.getElem?_eq_getElem hkt] at hz
                cases hz
                rw [List.getElem?_eq_getElem (by omega), ho]
          | false =>
            rw [ho] at hb
            refine run_seq ?_
            refine run_seq ?_
            refine run_region rfl ?_
            refine op_move rfl rfl ?_
            refine op_move rfl rfl ?_
            refine op_len rfl rfl ?_
            refine op_cmp_t rfl rfl rfl rfl (by first | (simp only [cmpP]; done) | (simp only [cmpP]; omega)) ?_
            refine ops_nil ?_
            refine fin_code ?_
            refine run_cond_t rfl ?_
            refine run_skip ?_
            refine fin_code ?_
            refine run_seq ?_
            refine run_block ?_
            refine run_seq ?_
            refine run_region rfl ?_
            refine op_move rfl rfl ?_
            refine op_move rfl rfl ?_
            refine op_move rfl rfl ?_
            refine op_index rfl rfl rfl (by omega) (by first | (rw [Int.toNat_natCast, Nat.mul_one, Nat.zero_add]) | (rw [Int.toNat_natCast, Nat.mul_one]) | (rw [Int.toNat_natCast, Nat.zero_add]) | (rw [Int.toNat_natCast]) | exact rfl) ?_
            (apply op_load; (· exact rfl); (· exact rfl); (· apply cell_of_has; (· (repeat (first | exact Has.here | apply Has.there))); (· first | exact rfl | exact aget_pre hb | exact aget_nv _ _ (by omega) | exact hget)))
            refine op_conv rfl rfl (by simp only [kLo, kHi]; omega) ?_
            refine op_index rfl rfl rfl (by omega) (by first | (rw [Int.toNat_natCast, Nat.mul_one, Nat.zero_add]) | (rw [Int.toNat_natCast, Nat.mul_one]) | (rw [Int.toNat_natCast, Nat.zero_add]) | (rw [Int.toNat_natCast]) | exact rfl) ?_
            (apply op_load; (· exact rfl); (· exact rfl); (· apply cell_of_has; (· (repeat (first | exact Has.here | apply Has.there))); (· first | exact rfl | exact aget_pre hb | exact aget_nv _ _ (by omega) | exact hget)))
            refine op_not rfl rfl ?_
            refine ops_nil ?_
            refine fin_code ?_
            refine run_cond_t rfl ?_
            refine run_seq ?_
            refine run_region rfl ?_
            refine op_move rfl rfl ?_
            refine op_move rfl rfl ?_
            refine op_move rfl rfl ?_
            refine op_index rfl rfl rfl (by omega) (by first | (rw [Int.toNat_natCast, Nat.mul_one, Nat.zero_add]) | (rw [Int.toNat_natCast, Nat.mul_one]) | (rw [Int.toNat_natCast, Nat.zero_add]) | (rw [Int.toNat_natCast]) | exact rfl) ?_
            (apply op_load; (· exact rfl); (· exact rfl); (· apply cell_of_has; (· (repeat (first | exact Has.here | apply Has.there))); (· first | exact rfl | exact aget_pre hb | exact aget_nv _ _ (by omega) | exact hget)))
            refine op_conv rfl rfl (by simp only [kLo, kHi]; omega) ?_
            refine op_index rfl rfl rfl (by omega) (by first | (rw [Int.toNat_natCast, Nat.mul_one, Nat.zero_add]) | (rw [Int.toNat_natCast, Nat.mul_one]) | (rw [Int.toNat_natCast, Nat.zero_add]) | (rw [Int.toNat_natCast]) | exact rfl) ?_
            (apply op_store; (· exact rfl); (· exact rfl); (· exact rfl); (· (repeat (first | exact Swap.here | apply Swap.there))); (· first | decide | (simp; done) | (simp; omega) | assumption))
            refine ops_nil ?_
            refine fin_code ?_
            refine run_region rfl ?_
            refine op_assign rfl rfl ?_
            refine ops_nil ?_
            refine fin_block ?_
            refine fin_code ?_
            refine run_region rfl ?_
            refine op_move rfl rfl ?_
            refine op_add rfl rfl rfl (by simp only [kLo, kHi]; omega) ?_
            refine op_assign rfl rfl ?_
            refine ops_nil ?_
            rw [set_pre (by rw [bv_len]; omega), bv_set]
            have hfo : out[ts[k]]? = some false := by rw [List.getElem?_eq_getElem (by omega), ho]
            refine fin_round (k + 1, true, out.set ts[k] true) ?_ ?_ ?_ ⟨by omega, ?_, ⟨hrn.mid.put hoi hst, fun h => (by cases h), fun _ => ?_⟩, fun h => (by cases h)⟩
            · dsimp only; omega
            · (repeat (first | exact Sub.nil _ | (refine Sub.cons rfl ?_)))
            · (apply le_of_picks; (repeat (first | exact Picks.nil | (apply Picks.cons; (· (repeat (first | exact Pick.here | apply Pick.there)))) | apply Picks.empty)))
            · dsimp only
              rw [List.getElem?_set]
              split
              · simp; omega
              · exact hoi
            · dsimp only
              have h1 := falses_set out ts[k] hfo
              cases again with
              | false => rw [(hrn.no rfl).1] at h1 ⊢; exact h1
              | true => have := hrn.yes rfl; omega
        · have : k = ts.length := by omega
          subst this
          refine run_seq ?_
          refine run_seq ?_
          refine run_region rfl ?_
          refine op_move rfl rfl ?_
          refine op_move rfl rfl ?_
          refine op_len rfl rfl ?_
          refine op_cmp_f rfl rfl rfl rfl (by first | (simp only [cmpP]; done) | (simp only [cmpP]; omega)) ?_
          refine ops_nil ?_
          refine fin_code ?_
          refine run_cond_f rfl ?_
          refine run_exit ?_
          refine fin_exit_code ?_
          refine fin_exit_inv ?_
          refine fin_exit_here ?_
          refine fin_block ?_
          refine fin_code ?_
          refine run_region rfl ?_
          refine op_move rfl rfl ?_
          refine op_add rfl rfl rfl (by simp only [kLo, kHi]; omega) ?_
          refine op_assign rfl rfl ?_
          refine ops_nil ?_
          refine fin_round (i + 1, again, out) ?_ ?_ ?_ ⟨by omega, hrn.mid, fun h => ⟨(hrn.no h).1, fun j hj ht z hz => ?_⟩, hrn.yes⟩
          · dsimp only; omega
          · (repeat (first | exact Sub.nil _ | (refine Sub.cons rfl ?_)))
          · (apply le_of_picks; (repeat (first | exact Picks.nil | (apply Picks.cons; (· (repeat (first | exact Pick.here | apply Pick.there)))) | apply Picks.empty)))
          · dsimp only at h hj ht ⊢
            rcases Nat.lt_or_ge j i with h2 | h2
            · exact (hrn.no h).2 j h2 ht z hz
            · have : j = i := by omega
              subst this
              obtain ⟨q, hq⟩ := List.mem_iff_getElem?.1 ((hts z).1 hz)
              exact hno h q ((List.getElem?_eq_some_iff.1 hq).1) z hq
    · have : i = n := by omega
      subst this
      refine run_seq ?_
      refine run_seq ?_
      refine run_region rfl ?_
      refine op_move rfl rfl ?_
      refine op_move rfl rfl ?_
      refine op_len rfl rfl ?_
      refine op_cmp_f rfl rfl rfl rfl (by first | (simp only [cmpP]; done) | (simp only [cmpP]; omega)) ?_
      refine ops_nil ?_
      refine fin_code ?_
      refine run_cond_f rfl ?_
      refine run_exit ?_
      refine fin_exit_code ?_
      refine fin_exit_inv ?_
      refine fin_exit_here ?_
      refine fin_block ?_
      refine fin_round (again, out) ?_ ?_ ?_ ⟨hrn.mid, fun h j hj z hz => ?_⟩
      · dsimp only
        cases again with
        | false => rw [(hrn.no rfl).1]; simp
        | true => have := hrn.yes rfl; simp; omega
      · (repeat (first | exact Sub.nil _ | (refine Sub.cons rfl ?_)))
      · (apply le_of_picks; (repeat (first | exact Picks.nil | (apply Picks.cons; (· (repeat (first | exact Pick.here | apply Pick.there)))) | apply Picks.empty)))
      · dsimp only at h hj ⊢
        have hji := (List.getElem?_eq_some_iff.1 hj).1
        exact (hrn.no h).2 j (by omega) hj z hz
end Go.Proofs.Eng
