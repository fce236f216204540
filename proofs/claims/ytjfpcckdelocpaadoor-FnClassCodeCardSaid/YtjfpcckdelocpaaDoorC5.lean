/- A part of the proof: what functions of the program do, step by step. -/
import Derived.Test.YtjfpcckdelocpaaDoorC4
set_option linter.unusedVariables false
set_option linter.unusedSimpArgs false
namespace Go.Proofs.Eng
open Go.RowKit
/-- The bytes of a text, as numbers. -/
def strN (s : ByteArray) : List Nat := s.data.toList.map UInt8.toNat
instance : TStr Tryd.prog 9 := ⟨by kernel_rfl⟩
theorem strN_len (s : ByteArray) : (strN s).length = s.size := by
  unfold strN
  rw [List.length_map, Array.length_toList]
  rfl
theorem strN_get {s : ByteArray} {i : Nat} {b : UInt8} (h : s.data[i]? = some b) : (strN s)[i]? = some b.toNat := by
  simp [strN, h]
theorem set_pre0 (n : Nat) (b : Value) (xs : List Bool) (hb : xs.length = n) (i : Nat) (x : Bool) : (bv xs).toArray.setIfInBounds i (.bool x) = (bv (xs.set i x)).toArray := by
  rw [List.setIfInBounds_toArray, bv_set]
theorem bv_rep (n : Nat) : (List.replicate n (Value.bool false)).toArray = (bv (List.replicate n false)).toArray := by simp [bv]
structure RnS where
  i : Nat
  v : Value
  sl : Hp
  set : List Bool
  mv : Value
  ml : Hp
  ms : List Bool
  cv : Value
  cl : Hp
  cs : List Bool
/-- What the byte at i leads to from the first k instructions. -/
def NextK (l : List In) (u : List Nat) (out : List Bool) (i k z : Nat) : Prop := ∃ j x b, z = j + 1 ∧ j < k ∧ out[j]? = some true ∧ l[j]? = some x ∧ x.op = 3 ∧ u[i]? = some b ∧ x.lo ≤ b ∧ b ≤ x.hi
def MatchK (l : List In) (out : List Bool) (k : Nat) : Prop := ∃ j x, j < k ∧ out[j]? = some true ∧ l[j]? = some x ∧ x.op = 0
theorem NextK.same {l : List In} {u : List Nat} {out : List Bool} {i k : Nat} (h : ∀ x b, out[k]? = some true → l[k]? = some x → x.op = 3 → u[i]? = some b → x.lo ≤ b → b ≤ x.hi → False) (z : Nat) : NextK l u out i (k + 1) z ↔ NextK l u out i k z := by
  constructor
  · rintro ⟨j, x, b, h1, h2, h3⟩
    refine ⟨j, x, b, h1, ?_, h3⟩
    rcases Nat.lt_or_ge j k with h4 | h4
    · exact h4
    · obtain rfl : j = k := by omega
      exact (h x b h3.1 h3.2.1 h3.2.2.1 h3.2.2.2.1 h3.2.2.2.2.1 h3.2.2.2.2.2).elim
  · rintro ⟨j, x, b, h1, h2, h3⟩
    exact ⟨j, x, b, h1, by omega, h3⟩
theorem NextK.put {l : List In} {u : List Nat} {out nx : List Bool} {i k b : Nat} {x : In} (h : ∀ z : Nat, nx[z]? = some true ↔ NextK l u out i k z) (hk : k + 1 < nx.length) (h1 : out[k]? = some true) (h2 : l[k]? = some x) (h3 : x.op = 3) (h4 : u[i]? = some b) (h5 : x.lo ≤ b) (h6 : b ≤ x.hi) (z : Nat) : (nx.set (k + 1) true)[z]? = some true ↔ NextK l u out i (k + 1) z := by
  rw [List.getElem?_set]
  split
  · rename_i e
    subst e
    simp only [hk, if_true, true_iff]
    exact ⟨k, x, b, rfl, by omega, h1, h2, h3, h4, h5, h6⟩
  · rename_i e
    rw [h z]
    constructor
    · rintro ⟨j, x, b, h1, h2, h3⟩
      exact ⟨j, x, b, h1, by omega, h3⟩
    · rintro ⟨j, x, b, h1, h2, h3⟩
      exact ⟨j, x, b, h1, by omega, h3⟩
theorem MatchK.step {l : List In} {out : List Bool} {k : Nat} {m : Bool} {x : In} {y : Bool} (h : m = true ↔ MatchK l out k) (h1 : out[k]? = some y) (h2 : l[k]? = some x) : (m || (y && decide (x.op = 0))) = true ↔ MatchK l out (k + 1) := by
  rw [Bool.or_eq_true, Bool.and_eq_true, decide_eq_true_eq, h]
  constructor
  · rintro (⟨j, x, h1, h2⟩ | ⟨rfl, h3⟩)
    · exact ⟨j, x, by omega, h2⟩
    · exact ⟨k, x, by omega, h1, h2, h3⟩
  · rintro ⟨j, x', h3, h4, h5, h6⟩
    rcases Nat.lt_or_ge j k with h7 | h7
    · exact .inl ⟨j, x', h7, h4, h5, h6⟩
    · obtain rfl : j = k := by omega
      rw [h1] at h4
      rw [h2] at h5
      cases h4
      cases h5
      exact .inr ⟨rfl, h6⟩
set_option maxRecDepth 100000 in
set_option maxHeartbeats 16000000 in
theorem runP_any (w : World) (A : Option Addr) (n c : Nat) (l : List In) (hl : l.length = n) (hn : n ≤ 1000000) (hn0 : 0 < n) (hr : Rd w w.heap.size A (encI l)) (hS : Sound l) (hS2 : ∀ i x, l[i]? = some x → x.op = 3 → i + 1 < n) (s : ByteArray) (hs : s.size ≤ 100000) :
    Calls Tryd.prog 19 #[.slice A n c, .string s] w (Post w ([] : List Hp).flatten (fun r : Value × Value × Hp × List Bool => .tuple #[r.1, r.2.1]) (fun r => ([r.2.2.1] : List Hp).flatten)
      (fun r => Own 4 1 r.1 (s.size + 1) (bv r.2.2.2) r.2.2.1 ∧ ∃ b, r.2.2.2[s.size]? = some b ∧ (b = true ↔ Acc l 0 (strN s)))) := by
  have hr0 := hr
  rcases hr with hr | ⟨g, o, rfl, hag, hac⟩
  · cases l with
    | nil => simp at hl; omega
    | cons x r => simp [encI, inCells] at hr
  have hmax : (2000000 : Nat) ≤ maxLen := by decide
  refine enter [] Tryd.func19 rfl rfl (At.nil w) (Le.refl _) ?_
  intro R hR
  refine run_seq ?_
  refine run_region rfl ?_
  refine op_assign rfl rfl ?_
  refine op_assign rfl rfl ?_
  refine ops_nil ?_
  refine fin_code ?_
  refine run_seq ?_
  refine run_region rfl ?_
  refine op_move rfl rfl ?_
  refine op_len rfl rfl ?_
  (refine op_make1 rfl rfl rfl rfl (by omega) (by omega) ?_; intro _ _)
  refine op_assign rfl rfl ?_
  refine ops_nil ?_
  refine fin_code ?_
  refine run_seq ?_
  refine run_region rfl ?_
  refine op_move rfl rfl ?_
  refine op_index rfl rfl rfl (by omega) (by first | (rw [Int.toNat_natCast, Nat.mul_one, Nat.zero_add]) | (rw [Int.toNat_natCast, Nat.mul_one]) | (rw [Int.toNat_natCast, Nat.zero_add]) | (rw [Int.toNat_natCast]) | exact rfl) ?_
  (apply op_store; (· exact rfl); (· exact rfl); (· exact rfl); (· (repeat (first | exact Swap.here | apply Swap.there))); (· first | decide | (simp; done) | (simp; omega) | assumption))
  refine ops_nil ?_
  refine fin_code ?_
  refine run_seq ?_
  refine run_region rfl ?_
  refine op_assign rfl rfl ?_
  refine ops_nil ?_
  refine fin_code ?_
  refine run_block ?_
  rename_i g2 _
  rw [bv_rep, set_pre0 n (.bool true) _ (by simp)]
  refine run_loop (α := RnS) (fun x => [(0, .slice (some ⟨g, o, none⟩) n c), (1, .string s), (4, x.mv), (5, x.cv), (6, x.v), (7, .int .i64 (x.i : Nat))]) (fun x => [x.sl, x.ml, x.cl])
    (fun x => x.i ≤ s.size ∧ Own 4 1 x.v n (bv x.set) x.sl ∧ x.set.length = n ∧ Own 4 1 x.mv x.i (bv x.ms) x.ml ∧ x.ms.length = x.i ∧ Own 4 1 x.cv x.i (bv x.cs) x.cl ∧ StS l ((strN s).take x.i) (fun k => x.set[k]? = some true)) (fun x => s.size + 1 - x.i)
    ⟨0, .slice (some ⟨g2, 0, none⟩) n n, [⟨g2, .cells (bv ((List.replicate n false).set 0 true)).toArray 4 (0, 0)⟩], (List.replicate n false).set 0 true, .slice none 0 0, [], [], .slice none 0 0, [], []⟩ ⟨Nat.zero_le _, Own.lit (by simp) (by omega), by simp, Own.nil _ _, rfl, Own.nil _ _, ?_⟩ (by (repeat (first | exact Sub.nil _ | (refine Sub.cons rfl ?_)))) (by (apply le_of_picks; (repeat (first | exact Picks.nil | (apply Picks.cons; (· (repeat (first | exact Pick.here | apply Pick.there)))) | apply Picks.empty)))) ?_
  · dsimp only
    intro v
    rw [List.take_zero, ← StS.start l v]
    constructor
    · rintro ⟨k, hk, a⟩
      refine ⟨k, ?_, a⟩
      rw [List.getElem?_set] at hk
      split at hk
      · rename_i e; exact e.symm
      · rw [List.getElem?_replicate] at hk
        split at hk <;> simp at hk
    · rintro ⟨k, hk, a⟩
      refine ⟨k, ?_, a⟩
      subst hk
      rw [List.getElem?_set]
      simp [hn0]
  rintro ⟨i, v, sl, set, mv, ml, ms, cv, cl, cs⟩ ⟨hi, hso, hsl, hmo, hml, hco, hst⟩
  dsimp only at hi hso hsl hmo hml hco hst ⊢
  obtain ⟨A1, c1, rfl⟩ := hso.isSlice
  refine run_seq ?_
  refine run_block ?_
  refine run_seq ?_
  refine run_region rfl ?_
  refine op_move rfl rfl ?_
  refine op_move rfl rfl ?_
  ((first | (apply op_call; (· exact rfl)) | apply op_call0); (· exact rfl)); (case' hc => (refine fun w hG hw => reached_any w (some ⟨g, o, none⟩) n c l hl hn hn0 ?_ hS A1 c1 set hsl ?_)); (case hp => (repeat (first | exact Picks.nil | (apply Picks.cons; (· (repeat (first | exact Pick.here | apply Pick.there)))) | apply Picks.empty)))
  · exact hr0.now hG
  · exact hso.rd (At.item hG.now (by (repeat (first | exact Pick.here | apply Pick.there))))
  rintro ⟨v2, l2, out⟩ ⟨ho2, hm2, hc2⟩
  dsimp only at ho2 hm2 hc2 ⊢
  have hst2 := hst.close (set' := fun k => out[k]? = some true) (fun k h => hm2.sub k h) (fun k h => hm2.from_ k h)
  have hol := hm2.len
  obtain ⟨g3, cap, sp, rfl, rfl, _, _, hsp, _⟩ := ho2.open hn0
  refine op_assign rfl rfl ?_
  refine ops_nil ?_
  refine fin_code ?_
  refine run_seq ?_
  refine run_region rfl ?_
  refine op_assign rfl rfl ?_
  refine op_assign rfl rfl ?_
  refine ops_nil ?_
  refine fin_code ?_
  refine run_seq ?_
  refine run_region rfl ?_
  refine op_move rfl rfl ?_
  refine op_len rfl rfl ?_
  (refine op_make1 rfl rfl rfl rfl (by omega) (by omega) ?_; intro _ _)
  refine op_assign rfl rfl ?_
  refine ops_nil ?_
  refine fin_code ?_
  refine run_seq ?_
  refine run_seq ?_
  refine run_region rfl ?_
  refine op_assign rfl rfl ?_
  refine ops_nil ?_
  refine fin_code ?_
  refine run_block ?_
  rename_i gN _
  rw [bv_rep]
  refine run_loop (α := Nat × Bool × Bool × List Bool) (fun x => [(0, .slice (some ⟨g, o, none⟩) n c), (1, .string s), (4, mv), (5, cv), (6, .slice (some ⟨g3, 0, none⟩) n cap), (7, .int .i64 (i : Nat)), (8, .bool x.2.1), (9, .bool x.2.2.1), (10, .slice (some ⟨gN, 0, none⟩) n n), (11, .int .i64 (x.1 : Nat))])
    (fun x => [[⟨g3, .cells (bv out ++ sp).toArray 4 (0, 0)⟩], ml, cl, [⟨gN, .cells (bv x.2.2.2).toArray 4 (0, 0)⟩]])
    (fun x => x.1 ≤ n ∧ x.2.2.2.length = n ∧ (x.2.1 = true ↔ MatchK l out x.1) ∧ ∀ z : Nat, x.2.2.2[z]? = some true ↔ NextK l (strN s) out i x.1 z) (fun x => n - x.1)
    (0, false, false, List.replicate n false) ⟨Nat.zero_le _, by simp, ?_, ?_⟩ (by (repeat (first | exact Sub.nil _ | (refine Sub.cons rfl ?_)))) (by (apply le_of_picks; (repeat (first | exact Picks.nil | (apply Picks.cons; (· (repeat (first | exact Pick.here | apply Pick.there)))) | apply Picks.empty)))) ?_
  · dsimp only
    simp only [Bool.false_eq_true, false_iff]
    rintro ⟨j, x, h, _⟩
    omega
  · intro z
    dsimp only
    constructor
    · intro hz
      rw [List.getElem?_replicate] at hz
      split at hz <;> simp at hz
    · rintro ⟨j, x, b, _, h, _⟩
      omega
  rintro ⟨k, m, cn, nx⟩ ⟨hk, hnl, hm, hnx⟩
  dsimp only at hk hnl hm hnx ⊢
  by_cases hkn : k < n
  · have hil : k < l.length := by omega
    have hlk : l[k]? = some l[k] := List.getElem?_eq_getElem hil
    have hok : out[k]? = some out[k] := List.getElem?_eq_getElem (by omega)
    have hb := bv_get out k (by omega)
    refine run_seq ?_
    refine run_seq ?_
    refine run_region rfl ?_
    refine op_move rfl rfl ?_
    refine op_move rfl rfl ?_
    refine op_len rfl rfl ?_
    refine op_cmp_t rfl rfl rfl rfl (by first | (simp only [cmpP]; done) | (simp only [cmpP]; omega)) ?_
    refine ops_nil ?_
    refine fin_code ?_
    refine run_cond_t rfl ?_
    refine run_skip ?_
    refine fin_code ?_
    refine run_seq ?_
    refine run_block ?_
    refine run_seq ?_
    refine run_region rfl ?_
    refine op_move rfl rfl ?_
    refine op_move rfl rfl ?_
    refine ops_join (α := Bool) (fun b => [(0, .slice (some ⟨g, o, none⟩) n c), (1, .string s), (4, mv), (5, cv), (6, .slice (some ⟨g3, 0, none⟩) n cap), (7, .int .i64 (i : Nat)), (8, .bool b), (9, .bool cn), (10, .slice (some ⟨gN, 0, none⟩) n n), (11, .int .i64 (k : Nat))])
      (fun _ => [[⟨g3, .cells (bv out ++ sp).toArray 4 (0, 0)⟩], ml, cl, [⟨gN, .cells (bv nx).toArray 4 (0, 0)⟩]]) (fun b => b = (m || (out[k] && decide (l[k].op = 0)))) ?_ ?_
    rotate_left 1
    · intro J
      cases m with
      | true =>
        have J1 := J true (by simp)
        refine ops_off1 rfl rfl ?_
        refine ops_off1 rfl rfl ?_
        refine ops_off1 rfl rfl ?_
        refine ops_off1 rfl rfl ?_
        refine ops_off1 rfl rfl ?_
        refine ops_off1 rfl rfl ?_
        refine ops_off1 rfl rfl ?_
        refine ops_off1 rfl rfl ?_
        refine ops_off1 rfl rfl ?_
        refine ops_off1 rfl rfl ?_
        refine ops_off1 rfl rfl ?_
        refine ops_off1 rfl rfl ?_
        refine op_pick_t rfl rfl rfl ?_
        refine op_assign rfl rfl ?_
        refine ops_nil ?_
        (apply J1)
        · (repeat (first | exact Sub.nil _ | (refine Sub.cons rfl ?_)))
        · (apply le_of_picks; (repeat (first | exact Picks.nil | (apply Picks.cons; (· (repeat (first | exact Pick.here | apply Pick.there)))) | apply Picks.empty)))
      | false =>
        cases hoo : out[k] with
        | false =>
          rw [hoo] at hb J
          have J1 := J false (by simp)
          refine ops_guard_yes rfl rfl rfl ?_
          refine op_move rfl rfl ?_
          refine ops_guard_yes rfl rfl rfl ?_
          refine op_move rfl rfl ?_
          refine ops_guard_yes rfl rfl rfl ?_
          refine op_index rfl rfl rfl (by omega) (by first | (rw [Int.toNat_natCast, Nat.mul_one, Nat.zero_add]) | (rw [Int.toNat_natCast, Nat.mul_one]) | (rw [Int.toNat_natCast, Nat.zero_add]) | (rw [Int.toNat_natCast]) | exact rfl) ?_
          refine ops_guard_yes rfl rfl rfl ?_
          (apply op_load; (· exact rfl); (· exact rfl); (· apply cell_of_has; (· (repeat (first | exact Has.here | apply Has.there))); (· first | exact rfl | exact aget_pre hb | exact hget)))
          refine ops_guard_yes rfl rfl rfl ?_
          refine op_move rfl rfl ?_
          refine ops_off1 rfl rfl ?_
          refine ops_off1 rfl rfl ?_
          refine ops_off1 rfl rfl ?_
          refine ops_off1 rfl rfl ?_
          refine ops_off1 rfl rfl ?_
          refine ops_off1 rfl rfl ?_
          refine ops_guard_yes rfl rfl rfl ?_
          refine op_pick_f rfl rfl rfl ?_
          refine op_pick_f rfl rfl rfl ?_
          refine op_assign rfl rfl ?_
          refine ops_nil ?_
          (apply J1)
          · (repeat (first | exact Sub.nil _ | (refine Sub.cons rfl ?_)))
          · (apply le_of_picks; (repeat (first | exact Picks.nil | (apply Picks.cons; (· (repeat (first | exact Pick.here | apply Pick.there)))) | apply Picks.empty)))
        | true =>
          rw [hoo] at hb J
          by_cases h0 : l[k].op = 0
          · have J1 := J true (by simp [h0])
            refine ops_guard_yes rfl rfl rfl ?_
            refine op_move rfl rfl ?_
            refine ops_guard_yes rfl rfl rfl ?_
            refine op_move rfl rfl ?_
            refine ops_guard_yes rfl rfl rfl ?_
            refine op_index rfl rfl rfl (by omega) (by first | (rw [Int.toNat_natCast, Nat.mul_one, Nat.zero_add]) | (rw [Int.toNat_natCast, Nat.mul_one]) | (rw [Int.toNat_natCast, Nat.zero_add]) | (rw [Int.toNat_natCast]) | exact rfl) ?_
            refine ops_guard_yes rfl rfl rfl ?_
            (apply op_load; (· exact rfl); (· exact rfl); (· apply cell_of_has; (· (repeat (first | exact Has.here | apply Has.there))); (· first | exact rfl | exact aget_pre hb | exact hget)))
            refine ops_guard_yes rfl rfl rfl ?_
            refine op_move rfl rfl ?_
            refine ops_guard_yes rfl rfl rfl ?_
            refine op_move rfl rfl ?_
            refine ops_guard_yes rfl rfl rfl ?_
            refine op_move rfl rfl ?_
            refine ops_guard_yes rfl rfl rfl ?_
            refine op_index rfl rfl rfl (by omega) (by first | (rw [Int.toNat_natCast, Nat.mul_one, Nat.zero_add]) | (rw [Int.toNat_natCast, Nat.mul_one]) | (rw [Int.toNat_natCast, Nat.zero_add]) | (rw [Int.toNat_natCast]) | exact rfl) ?_
            refine ops_guard_yes rfl rfl rfl ?_
            refine op_fieldAddr rfl rfl ?_
            refine ops_guard_yes rfl rfl rfl ?_
            (apply op_load; (· exact rfl); (· exact rfl); (· exact Rd.inCell hac hag (by simp [ids]) hil rfl))
            refine ops_guard_yes rfl rfl rfl ?_
            refine op_cmp_t rfl rfl rfl rfl (by first | (simp only [cmpP]; done) | (simp only [cmpP]; omega)) ?_
            refine ops_guard_yes rfl rfl rfl ?_
            refine op_pick_t rfl rfl rfl ?_
            refine op_pick_f rfl rfl rfl ?_
            refine op_assign rfl rfl ?_
            refine ops_nil ?_
            (apply J1)
            · (repeat (first | exact Sub.nil _ | (refine Sub.cons rfl ?_)))
            · (apply le_of_picks; (repeat (first | exact Picks.nil | (apply Picks.cons; (· (repeat (first | exact Pick.here | apply Pick.there)))) | apply Picks.empty)))
          · have J1 := J false (by simp [h0])
            refine ops_guard_yes rfl rfl rfl ?_
            refine op_move rfl rfl ?_
            refine ops_guard_yes rfl rfl rfl ?_
            refine op_move rfl rfl ?_
            refine ops_guard_yes rfl rfl rfl ?_
            refine op_index rfl rfl rfl (by omega) (by first | (rw [Int.toNat_natCast, Nat.mul_one, Nat.zero_add]) | (rw [Int.toNat_natCast, Nat.mul_one]) | (rw [Int.toNat_natCast, Nat.zero_add]) | (rw [Int.toNat_natCast]) | exact rfl) ?_
            refine ops_guard_yes rfl rfl rfl ?_
            (apply op_load; (· exact rfl); (· exact rfl); (· apply cell_of_has; (· (repeat (first | exact Has.here | apply Has.there))); (· first | exact rfl | exact aget_pre hb | exact hget)))
            refine ops_guard_yes rfl rfl rfl ?_
            refine op_move rfl rfl ?_
            refine ops_guard_yes rfl rfl rfl ?_
            refine op_move rfl rfl ?_
            refine ops_guard_yes rfl rfl rfl ?_
            refine op_move rfl rfl ?_
            refine ops_guard_yes rfl rfl rfl ?_
            refine op_index rfl rfl rfl (by omega) (by first | (rw [Int.toNat_natCast, Nat.mul_one, Nat.zero_add]) | (rw [Int.toNat_natCast, Nat.mul_one]) | (rw [Int.toNat_natCast, Nat.zero_add]) | (rw [Int.toNat_natCast]) | exact rfl) ?_
            refine ops_guard_yes rfl rfl rfl ?_
            refine op_fieldAddr rfl rfl ?_
            refine ops_guard_yes rfl rfl rfl ?_
            (apply op_load; (· exact rfl); (· exact rfl); (· exact Rd.inCell hac hag (by simp [ids]) hil rfl))
            refine ops_guard_yes rfl rfl rfl ?_
            refine op_cmp_f rfl rfl rfl rfl (by first | (simp only [cmpP]; done) | (simp only [cmpP]; omega)) ?_
            refine ops_guard_yes rfl rfl rfl ?_
            refine op_pick_t rfl rfl rfl ?_
            refine op_pick_f rfl rfl rfl ?_
            refine op_assign rfl rfl ?_
            refine ops_nil ?_
            (apply J1)
            · (repeat (first | exact Sub.nil _ | (refine Sub.cons rfl ?_)))
            · (apply le_of_picks; (repeat (first | exact Picks.nil | (apply Picks.cons; (· (repeat (first | exact Pick.here | apply Pick.there)))) | apply Picks.empty)))
    intro m2 hm2'
    have hm3 := MatchK.step hm hok hlk
    rw [← hm2'] at hm3
    clear hm2' hm
    refine fin_code ?_
    refine run_seq ?_
    refine run_region rfl ?_
    refine op_move rfl rfl ?_
    refine op_move rfl rfl ?_
    refine ops_join (α := Bool) (fun b => [(0, .slice (some ⟨g, o, none⟩) n c), (1, .string s), (4, mv), (5, cv), (6, .slice (some ⟨g3, 0, none⟩) n cap), (7, .int .i64 (i : Nat)), (8, .bool m2), (9, .bool b), (10, .slice (some ⟨gN, 0, none⟩) n n), (11, .int .i64 (k : Nat))])
      (fun _ => [[⟨g3, .cells (bv out ++ sp).toArray 4 (0, 0)⟩], ml, cl, [⟨gN, .cells (bv nx).toArray 4 (0, 0)⟩]]) (fun b => True) ?_ ?_
    rotate_left 1
    · intro J
      have J1 := fun b => J b trivial
      cases cn with
      | true =>
        refine ops_off1 rfl rfl ?_
        refine ops_off1 rfl rfl ?_
        refine ops_off1 rfl rfl ?_
        refine ops_off1 rfl rfl ?_
        refine ops_off1 rfl rfl ?_
        refine ops_off1 rfl rfl ?_
        refine ops_off1 rfl rfl ?_
        refine ops_off1 rfl rfl ?_
        refine ops_off1 rfl rfl ?_
        refine ops_off1 rfl rfl ?_
        refine ops_off1 rfl rfl ?_
        refine ops_off1 rfl rfl ?_
        refine ops_off1 rfl rfl ?_
        refine ops_off1 rfl rfl ?_
        refine ops_off1 rfl rfl ?_
        refine ops_off1 rfl rfl ?_
        refine ops_off1 rfl rfl ?_
        refine ops_off1 rfl rfl ?_
        refine ops_off1 rfl rfl ?_
        refine ops_off1 rfl rfl ?_
        refine op_pick_t rfl rfl rfl ?_
        refine op_assign rfl rfl ?_
        refine ops_nil ?_
        (apply J1)
        · (repeat (first | exact Sub.nil _ | (refine Sub.cons rfl ?_)))
        · (apply le_of_picks; (repeat (first | exact Picks.nil | (apply Picks.cons; (· (repeat (first | exact Pick.here | apply Pick.there)))) | apply Picks.empty)))
      | false =>
        cases hoo : out[k] with
        | false =>
          rw [hoo] at hb
          refine ops_guard_yes rfl rfl rfl ?_
          refine op_move rfl rfl ?_
          refine ops_guard_yes rfl rfl rfl ?_
          refine op_move rfl rfl ?_
          refine ops_guard_yes rfl rfl rfl ?_
          refine op_index rfl rfl rfl (by omega) (by first | (rw [Int.toNat_natCast, Nat.mul_one, Nat.zero_add]) | (rw [Int.toNat_natCast, Nat.mul_one]) | (rw [Int.toNat_natCast, Nat.zero_add]) | (rw [Int.toNat_natCast]) | exact rfl) ?_
          refine ops_guard_yes rfl rfl rfl ?_
          (apply op_load; (· exact rfl); (· exact rfl); (· apply cell_of_has; (· (repeat (first | exact Has.here | apply Has.there))); (· first | exact rfl | exact aget_pre hb | exact hget)))
          refine ops_guard_yes rfl rfl rfl ?_
          refine op_move rfl rfl ?_
          refine ops_off1 rfl rfl ?_
          refine ops_off1 rfl rfl ?_
          refine ops_off1 rfl rfl ?_
          refine ops_off1 rfl rfl ?_
          refine ops_off1 rfl rfl ?_
          refine ops_off1 rfl rfl ?_
          refine ops_off1 rfl rfl ?_
          refine ops_off1 rfl rfl ?_
          refine ops_off1 rfl rfl ?_
          refine ops_off1 rfl rfl ?_
          refine ops_off1 rfl rfl ?_
          refine ops_off1 rfl rfl ?_
          refine ops_off1 rfl rfl ?_
          refine ops_off1 rfl rfl ?_
          refine ops_guard_yes rfl rfl rfl ?_
          refine op_pick_f rfl rfl rfl ?_
          refine op_pick_f rfl rfl rfl ?_
          refine op_assign rfl rfl ?_
          refine ops_nil ?_
          (apply J1)
          · (repeat (first | exact Sub.nil _ | (refine Sub.cons rfl ?_)))
          · (apply le_of_picks; (repeat (first | exact Picks.nil | (apply Picks.cons; (· (repeat (first | exact Pick.here | apply Pick.there)))) | apply Picks.empty)))
        | true =>
          rw [hoo] at hb
          by_cases h0 : l[k].op = 0
          · refine ops_guard_yes rfl rfl rfl ?_
            refine op_move rfl rfl ?_
            refine ops_guard_yes rfl rfl rfl ?_
            refine op_move rfl rfl ?_
            refine ops_guard_yes rfl rfl rfl ?_
            refine op_index rfl rfl rfl (by omega) (by first | (rw [Int.toNat_natCast, Nat.mul_one, Nat.zero_add]) | (rw [Int.toNat_natCast, Nat.mul_one]) | (rw [Int.toNat_natCast, Nat.zero_add]) | (rw [Int.toNat_natCast]) | exact rfl) ?_
            refine ops_guard_yes rfl rfl rfl ?_
            (apply op_load; (· exact rfl); (· exact rfl); (· apply cell_of_has; (· (repeat (first | exact Has.here | apply Has.there))); (· first | exact rfl | exact aget_pre hb | exact hget)))
            refine ops_guard_yes rfl rfl rfl ?_
            refine op_move rfl rfl ?_
            refine ops_guard_yes rfl rfl rfl ?_
            refine op_move rfl rfl ?_
            refine ops_guard_yes rfl rfl rfl ?_
            refine op_move rfl rfl ?_
            refine ops_guard_yes rfl rfl rfl ?_
            refine op_index rfl rfl rfl (by omega) (by first | (rw [Int.toNat_natCast, Nat.mul_one, Nat.zero_add]) | (rw [Int.toNat_natCast, Nat.mul_one]) | (rw [Int.toNat_natCast, Nat.zero_add]) | (rw [Int.toNat_natCast]) | exact rfl) ?_
            refine ops_guard_yes rfl rfl rfl ?_
            refine op_fieldAddr rfl rfl ?_
            refine ops_guard_yes rfl rfl rfl ?_
            (apply op_load; (· exact rfl); (· exact rfl); (· exact Rd.inCell hac hag (by simp [ids]) hil rfl))
            refine ops_guard_yes rfl rfl rfl ?_
            refine op_cmp_t rfl rfl rfl rfl (by first | (simp only [cmpP]; done) | (simp only [cmpP]; omega)) ?_
            refine ops_guard_yes rfl rfl rfl ?_
            refine op_move rfl rfl ?_
            refine ops_off1 rfl rfl ?_
            refine ops_off1 rfl rfl ?_
            refine ops_off1 rfl rfl ?_
            refine ops_off1 rfl rfl ?_
            refine ops_off1 rfl rfl ?_
            refine ops_off1 rfl rfl ?_
            refine ops_guard_yes rfl rfl rfl ?_
            refine op_pick_t rfl rfl rfl ?_
            refine ops_guard_yes rfl rfl rfl ?_
            refine op_pick_t rfl rfl rfl ?_
            refine op_pick_f rfl rfl rfl ?_
            refine op_assign rfl rfl ?_
            refine ops_nil ?_
            (apply J1)
            · (repeat (first | exact Sub.nil _ | (refine Sub.cons rfl ?_)))
            · (apply le_of_picks; (repeat (first | exact Picks.nil | (apply Picks.cons; (· (repeat (first | exact Pick.here | apply Pick.there)))) | apply Picks.empty)))
          · by_cases h3 : l[k].op = 3
            · refine ops_guard_yes rfl rfl rfl ?_
              refine op_move rfl rfl ?_
              refine ops_guard_yes rfl rfl rfl ?_
              refine op_move rfl rfl ?_
              refine ops_guard_yes rfl rfl rfl ?_
              refine op_index rfl rfl rfl (by omega) (by first | (rw [Int.toNat_natCast, Nat.mul_one, Nat.zero_add]) | (rw [Int.toNat_natCast, Nat.mul_one]) | (rw [Int.toNat_natCast, Nat.zero_add]) | (rw [Int.toNat_natCast]) | exact rfl) ?_
              refine ops_guard_yes rfl rfl rfl ?_
              (apply op_load; (· exact rfl); (· exact rfl); (· apply cell_of_has; (· (repeat (first | exact Has.here | apply Has.there))); (· first | exact rfl | exact aget_pre hb | exact hget)))
              refine ops_guard_yes rfl rfl rfl ?_
              refine op_move rfl rfl ?_
              refine ops_guard_yes rfl rfl rfl ?_
              refine op_move rfl rfl ?_
              refine ops_guard_yes rfl rfl rfl ?_
              refine op_move rfl rfl ?_
              refine ops_guard_yes rfl rfl rfl ?_
              refine op_index rfl rfl rfl (by omega) (by first | (rw [Int.toNat_natCast, Nat.mul_one, Nat.zero_add]) | (rw [Int.toNat_natCast, Nat.mul_one]) | (rw [Int.toNat_natCast, Nat.zero_add]) | (rw [Int.toNat_natCast]) | exact rfl) ?_
              refine ops_guard_yes rfl rfl rfl ?_
              refine op_fieldAddr rfl rfl ?_
              refine ops_guard_yes rfl rfl rfl ?_
              (apply op_load; (· exact rfl); (· exact rfl); (· exact Rd.inCell hac hag (by simp [ids]) hil rfl))
              refine ops_guard_yes rfl rfl rfl ?_
              refine op_cmp_f rfl rfl rfl rfl (by first | (simp only [cmpP]; done) | (simp only [cmpP]; omega)) ?_
              refine ops_guard_yes rfl rfl rfl ?_
              refine op_move rfl rfl ?_
              refine ops_guard_yes rfl rfl rfl ?_
              refine op_move rfl rfl ?_
              refine ops_guard_yes rfl rfl rfl ?_
              refine op_move rfl rfl ?_
              refine ops_guard_yes rfl rfl rfl ?_
              refine op_index rfl rfl rfl (by omega) (by first | (rw [Int.toNat_natCast, Nat.mul_one, Nat.zero_add]) | (rw [Int.toNat_natCast, Nat.mul_one]) | (rw [Int.toNat_natCast, Nat.zero_add]) | (rw [Int.toNat_natCast]) | exact rfl) ?_
              refine ops_guard_yes rfl rfl rfl ?_
              refine op_fieldAddr rfl rfl ?_
              refine ops_guard_yes rfl rfl rfl ?_
              (apply op_load; (· exact rfl); (· exact rfl); (· exact Rd.inCell hac hag (by simp [ids]) hil rfl))
              refine ops_guard_yes rfl rfl rfl ?_
              refine op_cmp_t rfl rfl rfl rfl (by first | (simp only [cmpP]; done) | (simp only [cmpP]; omega)) ?_
              refine ops_guard_yes rfl rfl rfl ?_
              refine op_pick_f rfl rfl rfl ?_
              refine ops_guard_yes rfl rfl rfl ?_
              refine op_pick_t rfl rfl rfl ?_
              refine op_pick_f rfl rfl rfl ?_
              refine op_assign rfl rfl ?_
              refine ops_nil ?_
              (apply J1)
              · (repeat (first | exact Sub.nil _ | (refine Sub.cons rfl ?_)))
              · (apply le_of_picks; (repeat (first | exact Picks.nil | (apply Picks.cons; (· (repeat (first | exact Pick.here | apply Pick.there)))) | apply Picks.empty)))
            · refine ops_guard_yes rfl rfl rfl ?_
              refine op_move rfl rfl ?_
              refine ops_guard_yes rfl rfl rfl ?_
              refine op_move rfl rfl ?_
              refine ops_guard_yes rfl rfl rfl ?_
              refine op_index rfl rfl rfl (by omega) (by first | (rw [Int.toNat_natCast, Nat.mul_one, Nat.zero_add]) | (rw [Int.toNat_natCast, Nat.mul_one]) | (rw [Int.toNat_natCast, Nat.zero_add]) | (rw [Int.toNat_natCast]) | exact rfl) ?_
              refine ops_guard_yes rfl rfl rfl ?_
              (apply op_load; (· exact rfl); (· exact rfl); (· apply cell_of_has; (· (repeat (first | exact Has.here | apply Has.there))); (· first | exact rfl | exact aget_pre hb | exact hget)))
              refine ops_guard_yes rfl rfl rfl ?_
              refine op_move rfl rfl ?_
              refine ops_guard_yes rfl rfl rfl ?_
              refine op_move rfl rfl ?_
              refine ops_guard_yes rfl rfl rfl ?_
              refine op_move rfl rfl ?_
              refine ops_guard_yes rfl rfl rfl ?_
              refine op_index rfl rfl rfl (by omega) (by first | (rw [Int.toNat_natCast, Nat.mul_one, Nat.zero_add]) | (rw [Int.toNat_natCast, Nat.mul_one]) | (rw [Int.toNat_natCast, Nat.zero_add]) | (rw [Int.toNat_natCast]) | exact rfl) ?_
              refine ops_guard_yes rfl rfl rfl ?_
              refine op_fieldAddr rfl rfl ?_
              refine ops_guard_yes rfl rfl rfl ?_
              (apply op_load; (· exact rfl); (· exact rfl); (· exact Rd.inCell hac hag (by simp [ids]) hil rfl))
              refine ops_guard_yes rfl rfl rfl ?_
              refine op_cmp_f rfl rfl rfl rfl (by first | (simp only [cmpP]; done) | (simp only [cmpP]; omega)) ?_
              refine ops_guard_yes rfl rfl rfl ?_
              refine op_move rfl rfl ?_
              refine ops_guard_yes rfl rfl rfl ?_
              refine op_move rfl rfl ?_
              refine ops_guard_yes rfl rfl rfl ?_
              refine op_move rfl rfl ?_
              refine ops_guard_yes rfl rfl rfl ?_
              refine op_index rfl rfl rfl (by omega) (by first | (rw [Int.toNat_natCast, Nat.mul_one, Nat.zero_add]) | (rw [Int.toNat_natCast, Nat.mul_one]) | (rw [Int.toNat_natCast, Nat.zero_add]) | (rw [Int.toNat_natCast]) | exact rfl) ?_
              refine ops_guard_yes rfl rfl rfl ?_
              refine op_fieldAddr rfl rfl ?_
              refine ops_guard_yes rfl rfl rfl ?_
              (apply op_load; (· exact rfl); (· exact rfl); (· exact Rd.inCell hac hag (by simp [ids]) hil rfl))
              refine ops_guard_yes rfl rfl rfl ?_
              refine op_cmp_f rfl rfl rfl rfl (by first | (simp only [cmpP]; done) | (simp only [cmpP]; omega)) ?_
              refine ops_guard_yes rfl rfl rfl ?_
              refine op_pick_f rfl rfl rfl ?_
              refine ops_guard_yes rfl rfl rfl ?_
              refine op_pick_t rfl rfl rfl ?_
              refine op_pick_f rfl rfl rfl ?_
              refine op_assign rfl rfl ?_
              refine ops_nil ?_
              (apply J1)
              · (repeat (first | exact Sub.nil _ | (refine Sub.cons rfl ?_)))
              · (apply le_of_picks; (repeat (first | exact Picks.nil | (apply Picks.cons; (· (repeat (first | exact Pick.here | apply Pick.there)))) | apply Picks.empty)))
    intro cn2 _
    refine fin_code ?_
    refine run_seq ?_
    refine run_join1 (α := List Bool) (fun _ => [(0, .slice (some ⟨g, o, none⟩) n c), (1, .string s), (4, mv), (5, cv), (6, .slice (some ⟨g3, 0, none⟩) n cap), (7, .int .i64 (i : Nat)), (8, .bool m2), (9, .bool cn2), (10, .slice (some ⟨gN, 0, none⟩) n n), (11, .int .i64 (k : Nat))])
      (fun y => [[⟨g3, .cells (bv out ++ sp).toArray 4 (0, 0)⟩], ml, cl, [⟨gN, .cells (bv y).toArray 4 (0, 0)⟩]]) (fun y => y.length = n ∧ ∀ z : Nat, y[z]? = some true ↔ NextK l (strN s) out i (k + 1) z) ?_ ?_
    · rintro y ⟨hyl, hy⟩
      refine fin_block ?_
      refine fin_code ?_
      refine run_region rfl ?_
      refine op_move rfl rfl ?_
      refine op_add rfl rfl rfl (by simp only [kLo, kHi]; omega) ?_
      refine op_assign rfl rfl ?_
      refine ops_nil ?_
      exact fin_round (k + 1, m2, cn2, y) (by dsimp only; omega) (by (repeat (first | exact Sub.nil _ | (refine Sub.cons rfl ?_)))) (by (apply le_of_picks; (repeat (first | exact Picks.nil | (apply Picks.cons; (· (repeat (first | exact Pick.here | apply Pick.there)))) | apply Picks.empty)))) ⟨by dsimp only; omega, hyl, hm3, hy⟩
    intro J
    by_cases his : i < s.size
    · obtain ⟨bb, hbb⟩ : ∃ bb, s.data[i]? = some bb := ⟨_, Array.getElem?_eq_getElem his⟩
      have hub := strN_get hbb
      have hbi : s.data[((i : Nat) : Int).toNat]? = some bb := by rw [Int.toNat_natCast]; exact hbb
      cases hoo : out[k] with
      | false =>
        rw [hoo] at hb hok
        have J1 := J nx ⟨hnl, fun z => by rw [hnx z, NextK.same]; intro x b h1; rw [hok] at h1; cases h1⟩
        refine run_drawS [] (by kernel_rfl) ?_
        refine dr_stab 0 rfl rfl (Val.s (val_move rfl)) (by decide +kernel) rfl rfl ?_
        refine dr_stab 1 rfl rfl (Val.s (val_move rfl)) (by decide +kernel) rfl rfl ?_
        (apply dr_stab 2; (· exact rfl); (· exact rfl); (· apply Val.s; first | exact val_slen rfl); (· decide +kernel); (· exact rfl); (· exact rfl))
        refine dr_stab 3 rfl rfl (Val.s (val_cmp_t rfl rfl rfl (by first | (simp only [cmpP]; done) | (simp only [cmpP]; omega)))) (by decide +kernel) rfl rfl ?_
        refine dr_stab 4 rfl rfl (Val.s (val_move rfl)) (by decide +kernel) rfl rfl ?_
        first | refine dr_stab 5 rfl rfl (Val.s (val_move rfl)) (by decide +kernel) rfl rfl ?_ | refine dr_off 5 rfl rfl (by decide +kernel) rfl rfl ?_
        first | refine dr_stab 6 rfl rfl (Val.s (val_move rfl)) (by decide +kernel) rfl rfl ?_ | refine dr_off 6 rfl rfl (by decide +kernel) rfl rfl ?_
        refine dr_stab 7 rfl rfl (Val.s (val_index rfl rfl (by omega) (by first | (rw [Int.toNat_natCast, Nat.mul_one, Nat.zero_add]) | (rw [Int.toNat_natCast, Nat.mul_one]) | (rw [Int.toNat_natCast, Nat.zero_add]) | (rw [Int.toNat_natCast]) | exact rfl))) (by decide +kernel) rfl rfl ?_
        (apply dr_read 8; (· exact rfl); (· exact rfl); (· (first | (apply val_load; (· exact rfl); (· apply cell_of_has; (· (repeat (first | exact Has.here | apply Has.there))); (· first | exact rfl | exact aget_pre hb | exact hget))) | (apply val_load; (· exact rfl); (· exact Rd.inCell hac hag (by simp [ids]) hil rfl)))); (· decide +kernel); (· exact rfl); (· exact rfl))
        refine dr_stab 9 rfl rfl (Val.s (val_pick_t rfl rfl)) (by decide +kernel) rfl rfl ?_
        refine dr_stab 10 rfl rfl (Val.s (val_move rfl)) (by decide +kernel) rfl rfl ?_
        first | refine dr_stab 11 rfl rfl (Val.s (val_move rfl)) (by decide +kernel) rfl rfl ?_ | refine dr_off 11 rfl rfl (by decide +kernel) rfl rfl ?_
        first | refine dr_stab 12 rfl rfl (Val.s (val_move rfl)) (by decide +kernel) rfl rfl ?_ | refine dr_off 12 rfl rfl (by decide +kernel) rfl rfl ?_
        refine dr_off 13 rfl rfl (by decide +kernel) rfl rfl ?_
        first | refine dr_stab 14 rfl rfl (Val.s (val_fieldAddr rfl)) (by decide +kernel) rfl rfl ?_ | refine dr_off 14 rfl rfl (by decide +kernel) rfl rfl ?_
        refine dr_off 15 rfl rfl (by decide +kernel) rfl rfl ?_
        refine dr_off 16 rfl rfl (by decide +kernel) rfl rfl ?_
        refine dr_stab 17 rfl rfl (Val.s (val_pick_f rfl rfl)) (by decide +kernel) rfl rfl ?_
        refine dr_stab 18 rfl rfl (Val.s (val_move rfl)) (by decide +kernel) rfl rfl ?_
        first | refine dr_stab 19 rfl rfl (Val.s (val_move rfl)) (by decide +kernel) rfl rfl ?_ | refine dr_off 19 rfl rfl (by decide +kernel) rfl rfl ?_
        first | refine dr_stab 20 rfl rfl (Val.s (val_move rfl)) (by decide +kernel) rfl rfl ?_ | refine dr_off 20 rfl rfl (by decide +kernel) rfl rfl ?_
        refine dr_off 21 rfl rfl (by decide +kernel) rfl rfl ?_
        first | refine dr_stab 22 rfl rfl (Val.s (val_fieldAddr rfl)) (by decide +kernel) rfl rfl ?_ | refine dr_off 22 rfl rfl (by decide +kernel) rfl rfl ?_
        refine dr_off 23 rfl rfl (by decide +kernel) rfl rfl ?_
        first | refine dr_stab 24 rfl rfl (Val.s (val_move rfl)) (by decide +kernel) rfl rfl ?_ | refine dr_off 24 rfl rfl (by decide +kernel) rfl rfl ?_
        first | refine dr_stab 25 rfl rfl (Val.s (val_move rfl)) (by decide +kernel) rfl rfl ?_ | refine dr_off 25 rfl rfl (by decide +kernel) rfl rfl ?_
        refine dr_off 26 rfl rfl (by decide +kernel) rfl rfl ?_
        refine dr_off 27 rfl rfl (by decide +kernel) rfl rfl ?_
        refine dr_stab 28 rfl rfl (Val.s (val_pick_f rfl rfl)) (by decide +kernel) rfl rfl ?_
        refine dr_stab 29 rfl rfl (Val.s (val_move rfl)) (by decide +kernel) rfl rfl ?_
        first | refine dr_stab 30 rfl rfl (Val.s (val_move rfl)) (by decide +kernel) rfl rfl ?_ | refine dr_off 30 rfl rfl (by decide +kernel) rfl rfl ?_
        first | refine dr_stab 31 rfl rfl (Val.s (val_move rfl)) (by decide +kernel) rfl rfl ?_ | refine dr_off 31 rfl rfl (by decide +kernel) rfl rfl ?_
        refine dr_off 32 rfl rfl (by decide +kernel) rfl rfl ?_
        first | refine dr_stab 33 rfl rfl (Val.s (val_move rfl)) (by decide +kernel) rfl rfl ?_ | refine dr_off 33 rfl rfl (by decide +kernel) rfl rfl ?_
        first | refine dr_stab 34 rfl rfl (Val.s (val_move rfl)) (by decide +kernel) rfl rfl ?_ | refine dr_off 34 rfl rfl (by decide +kernel) rfl rfl ?_
        refine dr_off 35 rfl rfl (by decide +kernel) rfl rfl ?_
        first | refine dr_stab 36 rfl rfl (Val.s (val_fieldAddr rfl)) (by decide +kernel) rfl rfl ?_ | refine dr_off 36 rfl rfl (by decide +kernel) rfl rfl ?_
        refine dr_off 37 rfl rfl (by decide +kernel) rfl rfl ?_
        refine dr_off 38 rfl rfl (by decide +kernel) rfl rfl ?_
        refine dr_stab 39 rfl rfl (Val.s (val_pick_f rfl rfl)) (by decide +kernel) rfl rfl ?_
        (refine dr_done (by decide +kernel) (by (apply le_of_picks; (repeat (first | exact Picks.nil | (apply Picks.cons; (· (repeat (first | exact Pick.here | apply Pick.there)))) | apply Picks.empty)))) ?_)
        refine fin_code ?_
        refine run_cond_f rfl ?_
        refine run_skip ?_
        (apply J1)
        · (repeat (first | exact Sub.nil _ | (refine Sub.cons rfl ?_)))
        · (apply le_of_picks; (repeat (first | exact Picks.nil | (apply Picks.cons; (· (repeat (first | exact Pick.here | apply Pick.there)))) | apply Picks.empty)))
      | true =>
        rw [hoo] at hb hok
        by_cases h3 : l[k].op = 3
        · have h3n := hS2 k _ hlk h3
          by_cases h4 : l[k].lo ≤ bb.toNat
          · by_cases h5 : bb.toNat ≤ l[k].hi
            · have J1 := J (nx.set (k + 1) true) ⟨by simpa using hnl, NextK.put hnx (by omega) hok hlk h3 hub h4 h5⟩
              refine run_drawS [] (by kernel_rfl) ?_
              refine dr_stab 0 rfl rfl (Val.s (val_move rfl)) (by decide +kernel) rfl rfl ?_
              refine dr_stab 1 rfl rfl (Val.s (val_move rfl)) (by decide +kernel) rfl rfl ?_
              (apply dr_stab 2; (· exact rfl); (· exact rfl); (· apply Val.s; first | exact val_slen rfl); (· decide +kernel); (· exact rfl); (· exact rfl))
              refine dr_stab 3 rfl rfl (Val.s (val_cmp_t rfl rfl rfl (by first | (simp only [cmpP]; done) | (simp only [cmpP]; omega)))) (by decide +kernel) rfl rfl ?_
              refine dr_stab 4 rfl rfl (Val.s (val_move rfl)) (by decide +kernel) rfl rfl ?_
              first | refine dr_stab 5 rfl rfl (Val.s (val_move rfl)) (by decide +kernel) rfl rfl ?_ | refine dr_off 5 rfl rfl (by decide +kernel) rfl rfl ?_
              first | refine dr_stab 6 rfl rfl (Val.s (val_move rfl)) (by decide +kernel) rfl rfl ?_ | refine dr_off 6 rfl rfl (by decide +kernel) rfl rfl ?_
              refine dr_stab 7 rfl rfl (Val.s (val_index rfl rfl (by omega) (by first | (rw [Int.toNat_natCast, Nat.mul_one, Nat.zero_add]) | (rw [Int.toNat_natCast, Nat.mul_one]) | (rw [Int.toNat_natCast, Nat.zero_add]) | (rw [Int.toNat_natCast]) | exact rfl))) (by decide +kernel) rfl rfl ?_
              (apply dr_read 8; (· exact rfl); (· exact rfl); (· (first | (apply val_load; (· exact rfl); (· apply cell_of_has; (· (repeat (first | exact Has.here | apply Has.there))); (· first | exact rfl | exact aget_pre hb | exact hget))) | (apply val_load; (· exact rfl); (· exact Rd.inCell hac hag (by simp [ids]) hil rfl)))); (· decide +kernel); (· exact rfl); (· exact rfl))
              refine dr_stab 9 rfl rfl (Val.s (val_pick_t rfl rfl)) (by decide +kernel) rfl rfl ?_
              refine dr_stab 10 rfl rfl (Val.s (val_move rfl)) (by decide +kernel) rfl rfl ?_
              first | refine dr_stab 11 rfl rfl (Val.s (val_move rfl)) (by decide +kernel) rfl rfl ?_ | refine dr_off 11 rfl rfl (by decide +kernel) rfl rfl ?_
              first | refine dr_stab 12 rfl rfl (Val.s (val_move rfl)) (by decide +kernel) rfl rfl ?_ | refine dr_off 12 rfl rfl (by decide +kernel) rfl rfl ?_
              refine dr_stab 13 rfl rfl (Val.s (val_index rfl rfl (by omega) (by first | (rw [Int.toNat_natCast, Nat.mul_one, Nat.zero_add]) | (rw [Int.toNat_natCast, Nat.mul_one]) | (rw [Int.toNat_natCast, Nat.zero_add]) | (rw [Int.toNat_natCast]) | exact rfl))) (by decide +kernel) rfl rfl ?_
              first | refine dr_stab 14 rfl rfl (Val.s (val_fieldAddr rfl)) (by decide +kernel) rfl rfl ?_ | refine dr_off 14 rfl rfl (by decide +kernel) rfl rfl ?_
              (apply dr_stab 15; (· exact rfl); (· exact rfl); (· apply ValAt.s; (first | (apply val_load; (· exact rfl); (· apply cell_of_has; (· (repeat (first | exact Has.here | apply Has.there))); (· first | exact rfl | exact aget_pre hb | exact hget))) | (apply val_load; (· exact rfl); (· exact Rd.inCell hac hag (by simp [ids]) hil rfl)))); (· decide +kernel); (· exact rfl); (· exact rfl))
              refine dr_stab 16 rfl rfl (Val.s (val_cmp_t rfl rfl rfl (by first | (simp only [cmpP]; done) | (simp only [cmpP]; omega)))) (by decide +kernel) rfl rfl ?_
              refine dr_stab 17 rfl rfl (Val.s (val_pick_t rfl rfl)) (by decide +kernel) rfl rfl ?_
              refine dr_stab 18 rfl rfl (Val.s (val_move rfl)) (by decide +kernel) rfl rfl ?_
              first | refine dr_stab 19 rfl rfl (Val.s (val_move rfl)) (by decide +kernel) rfl rfl ?_ | refine dr_off 19 rfl rfl (by decide +kernel) rfl rfl ?_
              first | refine dr_stab 20 rfl rfl (Val.s (val_move rfl)) (by decide +kernel) rfl rfl ?_ | refine dr_off 20 rfl rfl (by decide +kernel) rfl rfl ?_
              refine dr_stab 21 rfl rfl (Val.s (val_index rfl rfl (by omega) (by first | (rw [Int.toNat_natCast, Nat.mul_one, Nat.zero_add]) | (rw [Int.toNat_natCast, Nat.mul_one]) | (rw [Int.toNat_natCast, Nat.zero_add]) | (rw [Int.toNat_natCast]) | exact rfl))) (by decide +kernel) rfl rfl ?_
              first | refine dr_stab 22 rfl rfl (Val.s (val_fieldAddr rfl)) (by decide +kernel) rfl rfl ?_ | refine dr_off 22 rfl rfl (by decide +kernel) rfl rfl ?_
              (apply dr_stab 23; (· exact rfl); (· exact rfl); (· apply ValAt.s; (first | (apply val_load; (· exact rfl); (· apply cell_of_has; (· (repeat (first | exact Has.here | apply Has.there))); (· first | exact rfl | exact aget_pre hb | exact hget))) | (apply val_load; (· exact rfl); (· exact Rd.inCell hac hag (by simp [ids]) hil rfl)))); (· decide +kernel); (· exact rfl); (· exact rfl))
              first | refine dr_stab 24 rfl rfl (Val.s (val_move rfl)) (by decide +kernel) rfl rfl ?_ | refine dr_off 24 rfl rfl (by decide +kernel) rfl rfl ?_
              first | refine dr_stab 25 rfl rfl (Val.s (val_move rfl)) (by decide +kernel) rfl rfl ?_ | refine dr_off 25 rfl rfl (by decide +kernel) rfl rfl ?_
              refine dr_stab 26 rfl rfl (Val.s (val_sindex rfl rfl (by omega) (by assumption))) (by decide +kernel) rfl rfl ?_
              refine dr_stab 27 rfl rfl (Val.s (val_cmp_t rfl rfl rfl (by first | (simp only [cmpP]; done) | (simp only [cmpP]; omega)))) (by decide +kernel) rfl rfl ?_
              refine dr_stab 28 rfl rfl (Val.s (val_pick_t rfl rfl)) (by decide +kernel) rfl rfl ?_
              refine dr_stab 29 rfl rfl (Val.s (val_move rfl)) (by decide +kernel) rfl rfl ?_
              first | refine dr_stab 30 rfl rfl (Val.s (val_move rfl)) (by decide +kernel) rfl rfl ?_ | refine dr_off 30 rfl rfl (by decide +kernel) rfl rfl ?_
              first | refine dr_stab 31 rfl rfl (Val.s (val_move rfl)) (by decide +kernel) rfl rfl ?_ | refine dr_off 31 rfl rfl (by decide +kernel) rfl rfl ?_
              refine dr_stab 32 rfl rfl (Val.s (val_sindex rfl rfl (by omega) (by assumption))) (by decide +kernel) rfl rfl ?_
              first | refine dr_stab 33 rfl rfl (Val.s (val_move rfl)) (by decide +kernel) rfl rfl ?_ | refine dr_off 33 rfl rfl (by decide +kernel) rfl rfl ?_
              first | refine dr_stab 34 rfl rfl (Val.s (val_move rfl)) (by decide +kernel) rfl rfl ?_ | refine dr_off 34 rfl rfl (by decide +kernel) rfl rfl ?_
              refine dr_stab 35 rfl rfl (Val.s (val_index rfl rfl (by omega) (by first | (rw [Int.toNat_natCast, Nat.mul_one, Nat.zero_add]) | (rw [Int.toNat_natCast, Nat.mul_one]) | (rw [Int.toNat_natCast, Nat.zero_add]) | (rw [Int.toNat_natCast]) | exact rfl))) (by decide +kernel) rfl rfl ?_
              first | refine dr_stab 36 rfl rfl (Val.s (val_fieldAddr rfl)) (by decide +kernel) rfl rfl ?_ | refine dr_off 36 rfl rfl (by decide +kernel) rfl rfl ?_
              (apply dr_stab 37; (· exact rfl); (· exact rfl); (· apply ValAt.s; (first | (apply val_load; (· exact rfl); (· apply cell_of_has; (· (repeat (first | exact Has.here | apply Has.there))); (· first | exact rfl | exact aget_pre hb | exact hget))) | (apply val_load; (· exact rfl); (· exact Rd.inCell hac hag (by simp [ids]) hil rfl)))); (· decide +kernel); (· exact rfl); (· exact rfl))
              refine dr_stab 38 rfl rfl (Val.s (val_cmp_t rfl rfl rfl (by first | (simp only [cmpP]; done) | (simp only [cmpP]; omega)))) (by decide +kernel) rfl rfl ?_
              refine dr_stab 39 rfl rfl (Val.s (val_pick_t rfl rfl)) (by decide +kernel) rfl rfl ?_
              (refine dr_done (by decide +kernel) (by (apply le_of_picks; (repeat (first | exact Picks.nil | (apply Picks.cons; (· (repeat (first | exact Pick.here | apply Pick.there)))) | apply Picks.empty)))) ?_)
              refine fin_code ?_
              refine run_cond_t rfl ?_
              refine run_region rfl ?_
              refine op_move rfl rfl ?_
              refine op_move rfl rfl ?_
              refine op_add rfl rfl rfl (by simp only [kLo, kHi]; omega) ?_
              refine op_index rfl rfl rfl (by omega) (by first | (rw [Int.toNat_natCast, Nat.mul_one, Nat.zero_add]) | (rw [Int.toNat_natCast, Nat.mul_one]) | (rw [Int.toNat_natCast, Nat.zero_add]) | (rw [Int.toNat_natCast]) | exact rfl) ?_
              (apply op_store; (· exact rfl); (· exact rfl); (· exact rfl); (· (repeat (first | exact Swap.here | apply Swap.there))); (· first | decide | (simp; done) | (simp; omega) | assumption))
              refine ops_nil ?_
              (apply J1)
              · (repeat (first | exact Sub.nil _ | (refine Sub.cons rfl ?_)))
              · rw [← set_pre0 n (.bool true) _ hnl, show 0 + (((k : Nat) : Int) + 1).toNat * 1 = k + 1 by omega]; (apply le_of_picks; (repeat (first | exact Picks.nil | (apply Picks.cons; (· (repeat (first | exact Pick.here | apply Pick.there)))) | apply Picks.empty)))
            · have J1 := J nx ⟨hnl, fun z => by rw [hnx z, NextK.same]; intro x b h1 h2 h3 h4 h6 h7; rw [hlk] at h2; rw [hub] at h4; cases h2; cases h4; exact h5 h7⟩
              refine run_drawS [] (by kernel_rfl) ?_
              refine dr_stab 0 rfl rfl (Val.s (val_move rfl)) (by decide +kernel) rfl rfl ?_
              refine dr_stab 1 rfl rfl (Val.s (val_move rfl)) (by decide +kernel) rfl rfl ?_
              (apply dr_stab 2; (· exact rfl); (· exact rfl); (· apply Val.s; first | exact val_slen rfl); (· decide +kernel); (· exact rfl); (· exact rfl))
              refine dr_stab 3 rfl rfl (Val.s (val_cmp_t rfl rfl rfl (by first | (simp only [cmpP]; done) | (simp only [cmpP]; omega)))) (by decide +kernel) rfl rfl ?_
              refine dr_stab 4 rfl rfl (Val.s (val_move rfl)) (by decide +kernel) rfl rfl ?_
              first | refine dr_stab 5 rfl rfl (Val.s (val_move rfl)) (by decide +kernel) rfl rfl ?_ | refine dr_off 5 rfl rfl (by decide +kernel) rfl rfl ?_
              first | refine dr_stab 6 rfl rfl (Val.s (val_move rfl)) (by decide +kernel) rfl rfl ?_ | refine dr_off 6 rfl rfl (by decide +kernel) rfl rfl ?_
              refine dr_stab 7 rfl rfl (Val.s (val_index rfl rfl (by omega) (by first | (rw [Int.toNat_natCast, Nat.mul_one, Nat.zero_add]) | (rw [Int.toNat_natCast, Nat.mul_one]) | (rw [Int.toNat_natCast, Nat.zero_add]) | (rw [Int.toNat_natCast]) | exact rfl))) (by decide +kernel) rfl rfl ?_
              (apply dr_read 8; (· exact rfl); (· exact rfl); (· (first | (apply val_load; (· exact rfl); (· apply cell_of_has; (· (repeat (first | exact Has.here | apply Has.there))); (· first | exact rfl | exact aget_pre hb | exact hget))) | (apply val_load; (· exact rfl); (· exact Rd.inCell hac hag (by simp [ids]) hil rfl)))); (· decide +kernel); (· exact rfl); (· exact rfl))
              refine dr_stab 9 rfl rfl (Val.s (val_pick_t rfl rfl)) (by decide +kernel) rfl rfl ?_
              refine dr_stab 10 rfl rfl (Val.s (val_move rfl)) (by decide +kernel) rfl rfl ?_
              first | refine dr_stab 11 rfl rfl (Val.s (val_move rfl)) (by decide +kernel) rfl rfl ?_ | refine dr_off 11 rfl rfl (by decide +kernel) rfl rfl ?_
              first | refine dr_stab 12 rfl rfl (Val.s (val_move rfl)) (by decide +kernel) rfl rfl ?_ | refine dr_off 12 rfl rfl (by decide +kernel) rfl rfl ?_
              refine dr_stab 13 rfl rfl (Val.s (val_index rfl rfl (by omega) (by first | (rw [Int.toNat_natCast, Nat.mul_one, Nat.zero_add]) | (rw [Int.toNat_natCast, Nat.mul_one]) | (rw [Int.toNat_natCast, Nat.zero_add]) | (rw [Int.toNat_natCast]) | exact rfl))) (by decide +kernel) rfl rfl ?_
              first | refine dr_stab 14 rfl rfl (Val.s (val_fieldAddr rfl)) (by decide +kernel) rfl rfl ?_ | refine dr_off 14 rfl rfl (by decide +kernel) rfl rfl ?_
              (apply dr_stab 15; (· exact rfl); (· exact rfl); (· apply ValAt.s; (first | (apply val_load; (· exact rfl); (· apply cell_of_has; (· (repeat (first | exact Has.here | apply Has.there))); (· first | exact rfl | exact aget_pre hb | exact hget))) | (apply val_load; (· exact rfl); (· exact Rd.inCell hac hag (by simp [ids]) hil rfl)))); (· decide +kernel); (· exact rfl); (· exact rfl))
              refine dr_stab 16 rfl rfl (Val.s (val_cmp_t rfl rfl rfl (by first | (simp only [cmpP]; done) | (simp only [cmpP]; omega)))) (by decide +kernel) rfl rfl ?_
              refine dr_stab 17 rfl rfl (Val.s (val_pick_t rfl rfl)) (by decide +kernel) rfl rfl ?_
              refine dr_stab 18 rfl rfl (Val.s (val_move rfl)) (by decide +kernel) rfl rfl ?_
              first | refine dr_stab 19 rfl rfl (Val.s (val_move rfl)) (by decide +kernel) rfl rfl ?_ | refine dr_off 19 rfl rfl (by decide +kernel) rfl rfl ?_
              first | refine dr_stab 20 rfl rfl (Val.s (val_move rfl)) (by decide +kernel) rfl rfl ?_ | refine dr_off 20 rfl rfl (by decide +kernel) rfl rfl ?_
              refine dr_stab 21 rfl rfl (Val.s (val_index rfl rfl (by omega) (by first | (rw [Int.toNat_natCast, Nat.mul_one, Nat.zero_add]) | (rw [Int.toNat_natCast, Nat.mul_one]) | (rw [Int.toNat_natCast, Nat.zero_add]) | (rw [Int.toNat_natCast]) | exact rfl))) (by decide +kernel) rfl rfl ?_
              first | refine dr_stab 22 rfl rfl (Val.s (val_fieldAddr rfl)) (by decide +kernel) rfl rfl ?_ | refine dr_off 22 rfl rfl (by decide +kernel) rfl rfl ?_
              (apply dr_stab 23; (· exact rfl); (· exact rfl); (· apply ValAt.s; (first | (apply val_load; (· exact rfl); (· apply cell_of_has; (· (repeat (first | exact Has.here | apply Has.there))); (· first | exact rfl | exact aget_pre hb | exact hget))) | (apply val_load; (· exact rfl); (· exact Rd.inCell hac hag (by simp [ids]) hil rfl)))); (· decide +kernel); (· exact rfl); (· exact rfl))
              first | refine dr_stab 24 rfl rfl (Val.s (val_move rfl)) (by decide +kernel) rfl rfl ?_ | refine dr_off 24 rfl rfl (by decide +kernel) rfl rfl ?_
              first | refine dr_stab 25 rfl rfl (Val.s (val_move rfl)) (by decide +kernel) rfl rfl ?_ | refine dr_off 25 rfl rfl (by decide +kernel) rfl rfl ?_
              refine dr_stab 26 rfl rfl (Val.s (val_sindex rfl rfl (by omega) (by assumption))) (by decide +kernel) rfl rfl ?_
              refine dr_stab 27 rfl rfl (Val.s (val_cmp_t rfl rfl rfl (by first | (simp only [cmpP]; done) | (simp only [cmpP]; omega)))) (by decide +kernel) rfl rfl ?_
              refine dr_stab 28 rfl rfl (Val.s (val_pick_t rfl rfl)) (by decide +kernel) rfl rfl ?_
              refine dr_stab 29 rfl rfl (Val.s (val_move rfl)) (by decide +kernel) rfl rfl ?_
              first | refine dr_stab 30 rfl rfl (Val.s (val_move rfl)) (by decide +kernel) rfl rfl ?_ | refine dr_off 30 rfl rfl (by decide +kernel) rfl rfl ?_
              first | refine dr_stab 31 rfl rfl (Val.s (val_move rfl)) (by decide +kernel) rfl rfl ?_ | refine dr_off 31 rfl rfl (by decide +kernel) rfl rfl ?_
              refine dr_stab 32 rfl rfl (Val.s (val_sindex rfl rfl (by omega) (by assumption))) (by decide +kernel) rfl rfl ?_
              first | refine dr_stab 33 rfl rfl (Val.s (val_move rfl)) (by decide +kernel) rfl rfl ?_ | refine dr_off 33 rfl rfl (by decide +kernel) rfl rfl ?_
              first | refine dr_stab 34 rfl rfl (Val.s (val_move rfl)) (by decide +kernel) rfl rfl ?_ | refine dr_off 34 rfl rfl (by decide +kernel) rfl rfl ?_
              refine dr_stab 35 rfl rfl (Val.s (val_index rfl rfl (by omega) (by first | (rw [Int.toNat_natCast, Nat.mul_one, Nat.zero_add]) | (rw [Int.toNat_natCast, Nat.mul_one]) | (rw [Int.toNat_natCast, Nat.zero_add]) | (rw [Int.toNat_natCast]) | exact rfl))) (by decide +kernel) rfl rfl ?_
              first | refine dr_stab 36 rfl rfl (Val.s (val_fieldAddr rfl)) (by decide +kernel) rfl rfl ?_ | refine dr_off 36 rfl rfl (by decide +kernel) rfl rfl ?_
              (apply dr_stab 37; (· exact rfl); (· exact rfl); (· apply ValAt.s; (first | (apply val_load; (· exact rfl); (· apply cell_of_has; (· (repeat (first | exact Has.here | apply Has.there))); (· first | exact rfl | exact aget_pre hb | exact hget))) | (apply val_load; (· exact rfl); (· exact Rd.inCell hac hag (by simp [ids]) hil rfl)))); (· decide +kernel); (· exact rfl); (· exact rfl))
              refine dr_stab 38 rfl rfl (Val.s (val_cmp_f rfl rfl rfl (by first | (simp only [cmpP]; done) | (simp only [cmpP]; omega)))) (by decide +kernel) rfl rfl ?_
              refine dr_stab 39 rfl rfl (Val.s (val_pick_t rfl rfl)) (by decide +kernel) rfl rfl ?_
              (refine dr_done (by decide +kernel) (by (apply le_of_picks; (repeat (first | exact Picks.nil | (apply Picks.cons; (· (repeat (first | exact Pick.here | apply Pick.there)))) | apply Picks.empty)))) ?_)
              refine fin_code ?_
              refine run_cond_f rfl ?_
              refine run_skip ?_
              (apply J1)
              · (repeat (first | exact Sub.nil _ | (refine Sub.cons rfl ?_)))
              · (apply le_of_picks; (repeat (first | exact Picks.nil | (apply Picks.cons; (· (repeat (first | exact Pick.here | apply Pick.there)))) | apply Picks.empty)))
          · have J1 := J nx ⟨hnl, fun z => by rw [hnx z, NextK.same]; intro x b h1 h2 h3 h5 h6 h7; rw [hlk] at h2; rw [hub] at h5; cases h2; cases h5; exact h4 h6⟩
            refine run_drawS [] (by kernel_rfl) ?_
            refine dr_stab 0 rfl rfl (Val.s (val_move rfl)) (by decide +kernel) rfl rfl ?_
            refine dr_stab 1 rfl rfl (Val.s (val_move rfl)) (by decide +kernel) rfl rfl ?_
            (apply dr_stab 2; (· exact rfl); (· exact rfl); (· apply Val.s; first | exact val_slen rfl); (· decide +kernel); (· exact rfl); (· exact rfl))
            refine dr_stab 3 rfl rfl (Val.s (val_cmp_t rfl rfl rfl (by first | (simp only [cmpP]; done) | (simp only [cmpP]; omega)))) (by decide +kernel) rfl rfl ?_
            refine dr_stab 4 rfl rfl (Val.s (val_move rfl)) (by decide +kernel) rfl rfl ?_
            first | refine dr_stab 5 rfl rfl (Val.s (val_move rfl)) (by decide +kernel) rfl rfl ?_ | refine dr_off 5 rfl rfl (by decide +kernel) rfl rfl ?_
            first | refine dr_stab 6 rfl rfl (Val.s (val_move rfl)) (by decide +kernel) rfl rfl ?_ | refine dr_off 6 rfl rfl (by decide +kernel) rfl rfl ?_
            refine dr_stab 7 rfl rfl (Val.s (val_index rfl rfl (by omega) (by first | (rw [Int.toNat_natCast, Nat.mul_one, Nat.zero_add]) | (rw [Int.toNat_natCast, Nat.mul_one]) | (rw [Int.toNat_natCast, Nat.zero_add]) | (rw [Int.toNat_natCast]) | exact rfl))) (by decide +kernel) rfl rfl ?_
            (apply dr_read 8; (· exact rfl); (· exact rfl); (· (first | (apply val_load; (· exact rfl); (· apply cell_of_has; (· (repeat (first | exact Has.here | apply Has.there))); (· first | exact rfl | exact aget_pre hb | exact hget))) | (apply val_load; (· exact rfl); (· exact Rd.inCell hac hag (by simp [ids]) hil rfl)))); (· decide +kernel); (· exact rfl); (· exact rfl))
            refine dr_stab 9 rfl rfl (Val.s (val_pick_t rfl rfl)) (by decide +kernel) rfl rfl ?_
            refine dr_stab 10 rfl rfl (Val.s (val_move rfl)) (by decide +kernel) rfl rfl ?_
            first | refine dr_stab 11 rfl rfl (Val.s (val_move rfl)) (by decide +kernel) rfl rfl ?_ | refine dr_off 11 rfl rfl (by decide +kernel) rfl rfl ?_
            first | refine dr_stab 12 rfl rfl (Val.s (val_move rfl)) (by decide +kernel) rfl rfl ?_ | refine dr_off 12 rfl rfl (by decide +kernel) rfl rfl ?_
            refine dr_stab 13 rfl rfl (Val.s (val_index rfl rfl (by omega) (by first | (rw [Int.toNat_natCast, Nat.mul_one, Nat.zero_add]) | (rw [Int.toNat_natCast, Nat.mul_one]) | (rw [Int.toNat_natCast, Nat.zero_add]) | (rw [Int.toNat_natCast]) | exact rfl))) (by decide +kernel) rfl rfl ?_
            first | refine dr_stab 14 rfl rfl (Val.s (val_fieldAddr rfl)) (by decide +kernel) rfl rfl ?_ | refine dr_off 14 rfl rfl (by decide +kernel) rfl rfl ?_
            (apply dr_stab 15; (· exact rfl); (· exact rfl); (· apply ValAt.s; (first | (apply val_load; (· exact rfl); (· apply cell_of_has; (· (repeat (first | exact Has.here | apply Has.there))); (· first | exact rfl | exact aget_pre hb | exact hget))) | (apply val_load; (· exact rfl); (· exact Rd.inCell hac hag (by simp [ids]) hil rfl)))); (· decide +kernel); (· exact rfl); (· exact rfl))
            refine dr_stab 16 rfl rfl (Val.s (val_cmp_t rfl rfl rfl (by first | (simp only [cmpP]; done) | (simp only [cmpP]; omega)))) (by decide +kernel) rfl rfl ?_
            refine dr_stab 17 rfl rfl (Val.s (val_pick_t rfl rfl)) (by decide +kernel) rfl rfl ?_
            refine dr_stab 18 rfl rfl (Val.s (val_move rfl)) (by decide +kernel) rfl rfl ?_
            first | refine dr_stab 19 rfl rfl (Val.s (val_move rfl)) (by decide +kernel) rfl rfl ?_ | refine dr_off 19 rfl rfl (by decide +kernel) rfl rfl ?_
            first | refine dr_stab 20 rfl rfl (Val.s (val_move rfl)) (by decide +kernel) rfl rfl ?_ | refine dr_off 20 rfl rfl (by decide +kernel) rfl rfl ?_
            refine dr_stab 21 rfl rfl (Val.s (val_index rfl rfl (by omega) (by first | (rw [Int.toNat_natCast, Nat.mul_one, Nat.zero_add]) | (rw [Int.toNat_natCast, Nat.mul_one]) | (rw [Int.toNat_natCast, Nat.zero_add]) | (rw [Int.toNat_natCast]) | exact rfl))) (by decide +kernel) rfl rfl ?_
            first | refine dr_stab 22 rfl rfl (Val.s (val_fieldAddr rfl)) (by decide +kernel) rfl rfl ?_ | refine dr_off 22 rfl rfl (by decide +kernel) rfl rfl ?_
            (apply dr_stab 23; (· exact rfl); (· exact rfl); (· apply ValAt.s; (first | (apply val_load; (· exact rfl); (· apply cell_of_has; (· (repeat (first | exact Has.here | apply Has.there))); (· first | exact rfl | exact aget_pre hb | exact hget))) | (apply val_load; (· exact rfl); (· exact Rd.inCell hac hag (by simp [ids]) hil rfl)))); (· decide +kernel); (· exact rfl); (· exact rfl))
            first | refine dr_stab 24 rfl rfl (Val.s (val_move rfl)) (by decide +kernel) rfl rfl ?_ | refine dr_off 24 rfl rfl (by decide +kernel) rfl rfl ?_
            first | refine dr_stab 25 rfl rfl (Val.s (val_move rfl)) (by decide +kernel) rfl rfl ?_ | refine dr_off 25 rfl rfl (by decide +kernel) rfl rfl ?_
            refine dr_stab 26 rfl rfl (Val.s (val_sindex rfl rfl (by omega) (by assumption))) (by decide +kernel) rfl rfl ?_
            refine dr_stab 27 rfl rfl (Val.s (val_cmp_f rfl rfl rfl (by first | (simp only [cmpP]; done) | (simp only [cmpP]; omega)))) (by decide +kernel) rfl rfl ?_
            refine dr_stab 28 rfl rfl (Val.s (val_pick_t rfl rfl)) (by decide +kernel) rfl rfl ?_
            refine dr_stab 29 rfl rfl (Val.s (val_move rfl)) (by decide +kernel) rfl rfl ?_
            first | refine dr_stab 30 rfl rfl (Val.s (val_move rfl)) (by decide +kernel) rfl rfl ?_ | refine dr_off 30 rfl rfl (by decide +kernel) rfl rfl ?_
            first | refine dr_stab 31 rfl rfl (Val.s (val_move rfl)) (by decide +kernel) rfl rfl ?_ | refine dr_off 31 rfl rfl (by decide +kernel) rfl rfl ?_
            refine dr_off 32 rfl rfl (by decide +kernel) rfl rfl ?_
            first | refine dr_stab 33 rfl rfl (Val.s (val_move rfl)) (by decide +kernel) rfl rfl ?_ | refine dr_off 33 rfl rfl (by decide +kernel) rfl rfl ?_
            first | refine dr_stab 34 rfl rfl (Val.s (val_move rfl)) (by decide +kernel) rfl rfl ?_ | refine dr_off 34 rfl rfl (by decide +kernel) rfl rfl ?_
            refine dr_off 35 rfl rfl (by decide +kernel) rfl rfl ?_
            first | refine dr_stab 36 rfl rfl (Val.s (val_fieldAddr rfl)) (by decide +kernel) rfl rfl ?_ | refine dr_off 36 rfl rfl (by decide +kernel) rfl rfl ?_
            refine dr_off 37 rfl rfl (by decide +kernel) rfl rfl ?_
            refine dr_off 38 rfl rfl (by decide +kernel) rfl rfl ?_
            refine dr_stab 39 rfl rfl (Val.s (val_pick_f rfl rfl)) (by decide +kernel) rfl rfl ?_
            (refine dr_done (by decide +kernel) (by (apply le_of_picks; (repeat (first | exact Picks.nil | (apply Picks.cons; (· (repeat (first | exact Pick.here | apply Pick.there)))) | apply Picks.empty)))) ?_)
            refine fin_code ?_
            refine run_cond_f rfl ?_
            refine run_skip ?_
            (apply J1)
            · (repeat (first | exact Sub.nil _ | (refine Sub.cons rfl ?_)))
            · (apply le_of_picks; (repeat (first | exact Picks.nil | (apply Picks.cons; (· (repeat (first | exact Pick.here | apply Pick.there)))) | apply Picks.empty)))
        · have J1 := J nx ⟨hnl, fun z => by rw [hnx z, NextK.same]; intro x b h1 h2 h4; rw [hlk] at h2; cases h2; exact (h3 h4).elim⟩
          refine run_drawS [] (by kernel_rfl) ?_
          refine dr_stab 0 rfl rfl (Val.s (val_move rfl)) (by decide +kernel) rfl rfl ?_
          refine dr_stab 1 rfl rfl (Val.s (val_move rfl)) (by decide +kernel) rfl rfl ?_
          (apply dr_stab 2; (· exact rfl); (· exact rfl); (· apply Val.s; first | exact val_slen rfl); (· decide +kernel); (· exact rfl); (· exact rfl))
          refine dr_stab 3 rfl rfl (Val.s (val_cmp_t rfl rfl rfl (by first | (simp only [cmpP]; done) | (simp only [cmpP]; omega)))) (by decide +kernel) rfl rfl ?_
          refine dr_stab 4 rfl rfl (Val.s (val_move rfl)) (by decide +kernel) rfl rfl ?_
          first | refine dr_stab 5 rfl rfl (Val.s (val_move rfl)) (by decide +kernel) rfl rfl ?_ | refine dr_off 5 rfl rfl (by decide +kernel) rfl rfl ?_
          first | refine dr_stab 6 rfl rfl (Val.s (val_move rfl)) (by decide +kernel) rfl rfl ?_ | refine dr_off 6 rfl rfl (by decide +kernel) rfl rfl ?_
          refine dr_stab 7 rfl rfl (Val.s (val_index rfl rfl (by omega) (by first | (rw [Int.toNat_natCast, Nat.mul_one, Nat.zero_add]) | (rw [Int.toNat_natCast, Nat.mul_one]) | (rw [Int.toNat_natCast, Nat.zero_add]) | (rw [Int.toNat_natCast]) | exact rfl))) (by decide +kernel) rfl rfl ?_
          (apply dr_read 8; (· exact rfl); (· exact rfl); (· (first | (apply val_load; (· exact rfl); (· apply cell_of_has; (· (repeat (first | exact Has.here | apply Has.there))); (· first | exact rfl | exact aget_pre hb | exact hget))) | (apply val_load; (· exact rfl); (· exact Rd.inCell hac hag (by simp [ids]) hil rfl)))); (· decide +kernel); (· exact rfl); (· exact rfl))
          refine dr_stab 9 rfl rfl (Val.s (val_pick_t rfl rfl)) (by decide +kernel) rfl rfl ?_
          refine dr_stab 10 rfl rfl (Val.s (val_move rfl)) (by decide +kernel) rfl rfl ?_
          first | refine dr_stab 11 rfl rfl (Val.s (val_move rfl)) (by decide +kernel) rfl rfl ?_ | refine dr_off 11 rfl rfl (by decide +kernel) rfl rfl ?_
          first | refine dr_stab 12 rfl rfl (Val.s (val_move rfl)) (by decide +kernel) rfl rfl ?_ | refine dr_off 12 rfl rfl (by decide +kernel) rfl rfl ?_
          refine dr_stab 13 rfl rfl (Val.s (val_index rfl rfl (by omega) (by first | (rw [Int.toNat_natCast, Nat.mul_one, Nat.zero_add]) | (rw [Int.toNat_natCast, Nat.mul_one]) | (rw [Int.toNat_natCast, Nat.zero_add]) | (rw [Int.toNat_natCast]) | exact rfl))) (by decide +kernel) rfl rfl ?_
          first | refine dr_stab 14 rfl rfl (Val.s (val_fieldAddr rfl)) (by decide +kernel) rfl rfl ?_ | refine dr_off 14 rfl rfl (by decide +kernel) rfl rfl ?_
          (apply dr_stab 15; (· exact rfl); (· exact rfl); (· apply ValAt.s; (first | (apply val_load; (· exact rfl); (· apply cell_of_has; (· (repeat (first | exact Has.here | apply Has.there))); (· first | exact rfl | exact aget_pre hb | exact hget))) | (apply val_load; (· exact rfl); (· exact Rd.inCell hac hag (by simp [ids]) hil rfl)))); (· decide +kernel); (· exact rfl); (· exact rfl))
          refine dr_stab 16 rfl rfl (Val.s (val_cmp_f rfl rfl rfl (by first | (simp only [cmpP]; done) | (simp only [cmpP]; omega)))) (by decide +kernel) rfl rfl ?_
          refine dr_stab 17 rfl rfl (Val.s (val_pick_t rfl rfl)) (by decide +kernel) rfl rfl ?_
          refine dr_stab 18 rfl rfl (Val.s (val_move rfl)) (by decide +kernel) rfl rfl ?_
          first | refine dr_stab 19 rfl rfl (Val.s (val_move rfl)) (by decide +kernel) rfl rfl ?_ | refine dr_off 19 rfl rfl (by decide +kernel) rfl rfl ?_
          first | refine dr_stab 20 rfl rfl (Val.s (val_move rfl)) (by decide +kernel) rfl rfl ?_ | refine dr_off 20 rfl rfl (by decide +kernel) rfl rfl ?_
          refine dr_off 21 rfl rfl (by decide +kernel) rfl rfl ?_
          first | refine dr_stab 22 rfl rfl (Val.s (val_fieldAddr rfl)) (by decide +kernel) rfl rfl ?_ | refine dr_off 22 rfl rfl (by decide +kernel) rfl rfl ?_
          refine dr_off 23 rfl rfl (by decide +kernel) rfl rfl ?_
          first | refine dr_stab 24 rfl rfl (Val.s (val_move rfl)) (by decide +kernel) rfl rfl ?_ | refine dr_off 24 rfl rfl (by decide +kernel) rfl rfl ?_
          first | refine dr_stab 25 rfl rfl (Val.s (val_move rfl)) (by decide +kernel) rfl rfl ?_ | refine dr_off 25 rfl rfl (by decide +kernel) rfl rfl ?_
          refine dr_off 26 rfl rfl (by decide +kernel) rfl rfl ?_
          refine dr_off 27 rfl rfl (by decide +kernel) rfl rfl ?_
          refine dr_stab 28 rfl rfl (Val.s (val_pick_f rfl rfl)) (by decide +kernel) rfl rfl ?_
          refine dr_stab 29 rfl rfl (Val.s (val_move rfl)) (by decide +kernel) rfl rfl ?_
          first | refine dr_stab 30 rfl rfl (Val.s (val_move rfl)) (by decide +kernel) rfl rfl ?_ | refine dr_off 30 rfl rfl (by decide +kernel) rfl rfl ?_
          first | refine dr_stab 31 rfl rfl (Val.s (val_move rfl)) (by decide +kernel) rfl rfl ?_ | refine dr_off 31 rfl rfl (by decide +kernel) rfl rfl ?_
          refine dr_off 32 rfl rfl (by decide +kernel) rfl rfl ?_
          first | refine dr_stab 33 rfl rfl (Val.s (val_move rfl)) (by decide +kernel) rfl rfl ?_ | refine dr_off 33 rfl rfl (by decide +kernel) rfl rfl ?_
          first | refine dr_stab 34 rfl rfl (Val.s (val_move rfl)) (by decide +kernel) rfl rfl ?_ | refine dr_off 34 rfl rfl (by decide +kernel) rfl rfl ?_
          refine dr_off 35 rfl rfl (by decide +kernel) rfl rfl ?_
          first | refine dr_stab 36 rfl rfl (Val.s (val_fieldAddr rfl)) (by decide +kernel) rfl rfl ?_ | refine dr_off 36 rfl rfl (by decide +kernel) rfl rfl ?_
          refine dr_off 37 rfl rfl (by decide +kernel) rfl rfl ?_
          refine dr_off 38 rfl rfl (by decide +kernel) rfl rfl ?_
          refine dr_stab 39 rfl rfl (Val.s (val_pick_f rfl rfl)) (by decide +kernel) rfl rfl ?_
          (refine dr_done (by decide +kernel) (by (apply le_of_picks; (repeat (first | exact Picks.nil | (apply Picks.cons; (· (repeat (first | exact Pick.here | apply Pick.there)))) | apply Picks.empty)))) ?_)
          refine fin_code ?_
          refine run_cond_f rfl ?_
          refine run_skip ?_
          (apply J1)
          · (repeat (first | exact Sub.nil _ | (refine Sub.cons rfl ?_)))
          · (apply le_of_picks; (repeat (first | exact Picks.nil | (apply Picks.cons; (· (repeat (first | exact Pick.here | apply Pick.there)))) | apply Picks.empty)))
    · have J1 := J nx ⟨hnl, fun z => by rw [hnx z, NextK.same]; intro x b h1 h2 h3 h4; have := (List.getElem?_eq_some_iff.1 h4).1; rw [strN_len] at this; omega⟩
      refine run_drawS [] (by kernel_rfl) ?_
      refine dr_stab 0 rfl rfl (Val.s (val_move rfl)) (by decide +kernel) rfl rfl ?_
      refine dr_stab 1 rfl rfl (Val.s (val_move rfl)) (by decide +kernel) rfl rfl ?_
      (apply dr_stab 2; (· exact rfl); (· exact rfl); (· apply Val.s; first | exact val_slen rfl); (· decide +kernel); (· exact rfl); (· exact rfl))
      refine dr_stab 3 rfl rfl (Val.s (val_cmp_f rfl rfl rfl (by first | (simp only [cmpP]; done) | (simp only [cmpP]; omega)))) (by decide +kernel) rfl rfl ?_
      refine dr_stab 4 rfl rfl (Val.s (val_move rfl)) (by decide +kernel) rfl rfl ?_
      first | refine dr_stab 5 rfl rfl (Val.s (val_move rfl)) (by decide +kernel) rfl rfl ?_ | refine dr_off 5 rfl rfl (by decide +kernel) rfl rfl ?_
      first | refine dr_stab 6 rfl rfl (Val.s (val_move rfl)) (by decide +kernel) rfl rfl ?_ | refine dr_off 6 rfl rfl (by decide +kernel) rfl rfl ?_
      refine dr_off 7 rfl rfl (by decide +kernel) rfl rfl ?_
      refine dr_off 8 rfl rfl (by decide +kernel) rfl rfl ?_
      refine dr_stab 9 rfl rfl (Val.s (val_pick_f rfl rfl)) (by decide +kernel) rfl rfl ?_
      refine dr_stab 10 rfl rfl (Val.s (val_move rfl)) (by decide +kernel) rfl rfl ?_
      first | refine dr_stab 11 rfl rfl (Val.s (val_move rfl)) (by decide +kernel) rfl rfl ?_ | refine dr_off 11 rfl rfl (by decide +kernel) rfl rfl ?_
      first | refine dr_stab 12 rfl rfl (Val.s (val_move rfl)) (by decide +kernel) rfl rfl ?_ | refine dr_off 12 rfl rfl (by decide +kernel) rfl rfl ?_
      refine dr_off 13 rfl rfl (by decide +kernel) rfl rfl ?_
      first | refine dr_stab 14 rfl rfl (Val.s (val_fieldAddr rfl)) (by decide +kernel) rfl rfl ?_ | refine dr_off 14 rfl rfl (by decide +kernel) rfl rfl ?_
      refine dr_off 15 rfl rfl (by decide +kernel) rfl rfl ?_
      refine dr_off 16 rfl rfl (by decide +kernel) rfl rfl ?_
      refine dr_stab 17 rfl rfl (Val.s (val_pick_f rfl rfl)) (by decide +kernel) rfl rfl ?_
      refine dr_stab 18 rfl rfl (Val.s (val_move rfl)) (by decide +kernel) rfl rfl ?_
      first | refine dr_stab 19 rfl rfl (Val.s (val_move rfl)) (by decide +kernel) rfl rfl ?_ | refine dr_off 19 rfl rfl (by decide +kernel) rfl rfl ?_
      first | refine dr_stab 20 rfl rfl (Val.s (val_move rfl)) (by decide +kernel) rfl rfl ?_ | refine dr_off 20 rfl rfl (by decide +kernel) rfl rfl ?_
      refine dr_off 21 rfl rfl (by decide +kernel) rfl rfl ?_
      first | refine dr_stab 22 rfl rfl (Val.s (val_fieldAddr rfl)) (by decide +kernel) rfl rfl ?_ | refine dr_off 22 rfl rfl (by decide +kernel) rfl rfl ?_
      refine dr_off 23 rfl rfl (by decide +kernel) rfl rfl ?_
      first | refine dr_stab 24 rfl rfl (Val.s (val_move rfl)) (by decide +kernel) rfl rfl ?_ | refine dr_off 24 rfl rfl (by decide +kernel) rfl rfl ?_
      first | refine dr_stab 25 rfl rfl (Val.s (val_move rfl)) (by decide +kernel) rfl rfl ?_ | refine dr_off 25 rfl rfl (by decide +kernel) rfl rfl ?_
      refine dr_off 26 rfl rfl (by decide +kernel) rfl rfl ?_
      refine dr_off 27 rfl rfl (by decide +kernel) rfl rfl ?_
      refine dr_stab 28 rfl rfl (Val.s (val_pick_f rfl rfl)) (by decide +kernel) rfl rfl ?_
      refine dr_stab 29 rfl rfl (Val.s (val_move rfl)) (by decide +kernel) rfl rfl ?_
      first | refine dr_stab 30 rfl rfl (Val.s (val_move rfl)) (by decide +kernel) rfl rfl ?_ | refine dr_off 30 rfl rfl (by decide +kernel) rfl rfl ?_
      first | refine dr_stab 31 rfl rfl (Val.s (val_move rfl)) (by decide +kernel) rfl rfl ?_ | refine dr_off 31 rfl rfl (by decide +kernel) rfl rfl ?_
      refine dr_off 32 rfl rfl (by decide +kernel) rfl rfl ?_
      first | refine dr_stab 33 rfl rfl (Val.s (val_move rfl)) (by decide +kernel) rfl rfl ?_ | refine dr_off 33 rfl rfl (by decide +kernel) rfl rfl ?_
      first | refine dr_stab 34 rfl rfl (Val.s (val_move rfl)) (by decide +kernel) rfl rfl ?_ | refine dr_off 34 rfl rfl (by decide +kernel) rfl rfl ?_
      refine dr_off 35 rfl rfl (by decide +kernel) rfl rfl ?_
      first | refine dr_stab 36 rfl rfl (Val.s (val_fieldAddr rfl)) (by decide +kernel) rfl rfl ?_ | refine dr_off 36 rfl rfl (by decide +kernel) rfl rfl ?_
      refine dr_off 37 rfl rfl (by decide +kernel) rfl rfl ?_
      refine dr_off 38 rfl rfl (by decide +kernel) rfl rfl ?_
      refine dr_stab 39 rfl rfl (Val.s (val_pick_f rfl rfl)) (by decide +kernel) rfl rfl ?_
      (refine dr_done (by decide +kernel) (by (apply le_of_picks; (repeat (first | exact Picks.nil | (apply Picks.cons; (· (repeat (first | exact Pick.here | apply Pick.there)))) | apply Picks.empty)))) ?_)
      refine fin_code ?_
      refine run_cond_f rfl ?_
      refine run_skip ?_
      (apply J1)
      · (repeat (first | exact Sub.nil _ | (refine Sub.cons rfl ?_)))
      · (apply le_of_picks; (repeat (first | exact Picks.nil | (apply Picks.cons; (· (repeat (first | exact Pick.here | apply Pick.there)))) | apply Picks.empty)))
  · obtain rfl : k = n := by omega
    have hmf : m = true ↔ Acc l 0 ((strN s).take i) := by
      rw [hm, ← hst2.fin (fun k hk z hz => hc2 k hk z hz)]
      constructor
      · rintro ⟨j, x, _, h1, h2, h3⟩
        exact ⟨j, x, h1, h2, h3⟩
      · rintro ⟨j, x, h1, h2, h3⟩
        have := (List.getElem?_eq_some_iff.1 h2).1
        exact ⟨j, x, by omega, h1, h2, h3⟩
    refine run_seq ?_
    refine run_seq ?_
    refine run_region rfl ?_
    refine op_move rfl rfl ?_
    refine op_move rfl rfl ?_
    refine op_len rfl rfl ?_
    refine op_cmp_f rfl rfl rfl rfl (by first | (simp only [cmpP]; done) | (simp only [cmpP]; omega)) ?_
    refine ops_nil ?_
    refine fin_code ?_
    refine run_cond_f rfl ?_
    refine run_exit ?_
    refine fin_exit_code ?_
    refine fin_exit_inv ?_
    refine fin_exit_here ?_
    refine fin_code ?_
    refine run_seq ?_
    refine run_region rfl ?_
    refine op_move rfl rfl ?_
    refine op_move rfl rfl ?_
    (refine op_slice1 rfl rfl (by first | rfl | simp [Value.cells]) (by decide) ?_; intro _ _)
    (apply op_append1; (· exact rfl); (· exact rfl); (· exact rfl); (· exact hmo); (· (repeat (first | exact Pick.here | apply Pick.there))); (· (repeat (first | exact Has.here | apply Has.there))); (· exact rfl); (· first | exact onesC rfl | (intro u hu; simp [Value.cells] at hu; rcases hu with rfl | rfl | rfl | rfl | rfl | rfl <;> rfl) | (intro u hu; simp [Value.cells] at hu; rcases hu with rfl | rfl | rfl <;> rfl) | (intro u hu; simp [Value.cells] at hu; rcases hu with rfl | rfl <;> rfl) | (intro u hu; simp [Value.cells] at hu; subst hu; rfl)); (· omega); (· omega); (· exact rfl))
    intro mv' ml' hmo'
    refine op_move rfl rfl ?_
    refine op_move rfl rfl ?_
    (refine op_slice1 rfl rfl (by first | rfl | simp [Value.cells]) (by decide) ?_; intro _ _)
    (apply op_append1; (· exact rfl); (· exact rfl); (· exact rfl); (· exact hco); (· (repeat (first | exact Pick.here | apply Pick.there))); (· (repeat (first | exact Has.here | apply Has.there))); (· exact rfl); (· first | exact onesC rfl | (intro u hu; simp [Value.cells] at hu; rcases hu with rfl | rfl | rfl | rfl | rfl | rfl <;> rfl) | (intro u hu; simp [Value.cells] at hu; rcases hu with rfl | rfl | rfl <;> rfl) | (intro u hu; simp [Value.cells] at hu; rcases hu with rfl | rfl <;> rfl) | (intro u hu; simp [Value.cells] at hu; subst hu; rfl)); (· omega); (· omega); (· exact rfl))
    intro cv' cl' hco'
    have hmo2 : Own 4 1 mv' (i + 1) (bv (ms ++ [m])) ml' := by
      have : bv (ms ++ [m]) = bv ms ++ [.bool m] := by simp [bv]
      rw [this]
      simpa [Value.cells] using hmo'
    have hco2 : Own 4 1 cv' (i + 1) (bv (cs ++ [cn])) cl' := by
      have : bv (cs ++ [cn]) = bv cs ++ [.bool cn] := by simp [bv]
      rw [this]
      simpa [Value.cells] using hco'
    by_cases his : i = s.size
    · refine op_assign rfl rfl ?_
      refine op_assign rfl rfl ?_
      refine ops_nil ?_
      refine fin_code ?_
      refine run_seq ?_
      refine run_seq ?_
      refine run_region rfl ?_
      refine op_move rfl rfl ?_
      refine op_move rfl rfl ?_
      (refine op_val rfl (val_slen rfl) ?_)
      refine op_cmp_t rfl rfl rfl rfl (by first | (simp only [cmpP]; done) | (simp only [cmpP]; omega)) ?_
      refine ops_nil ?_
      refine fin_code ?_
      refine run_cond_t rfl ?_
      refine run_seq ?_
      refine run_region rfl ?_
      refine op_move rfl rfl ?_
      refine op_move rfl rfl ?_
      refine op_assign rfl rfl ?_
      refine op_assign rfl rfl ?_
      refine ops_nil ?_
      refine fin_code ?_
      refine run_ret ?_
      refine fin_ret_code ?_
      refine fin_ret_block ?_
      refine fin_ret_code ?_
      refine fin_ret_inv ?_
      refine fin_ret_block ?_
      refine fin_ret2 rfl rfl rfl ?_
      intro w' gg
      refine hR _ _ (post_of gg (mv', cv', ml', ms ++ [m]) ⟨by dsimp only; rw [← his]; exact hmo2, m, ?_, ?_⟩ rfl (by (apply le_of_picks; (repeat (first | exact Picks.nil | (apply Picks.cons; (· (repeat (first | exact Pick.here | apply Pick.there)))) | apply Picks.empty)))))
      · dsimp only
        rw [← his, ← hml, List.getElem?_append_right (Nat.le_refl _), Nat.sub_self]
        rfl
      · rw [hmf, List.take_of_length_le (by rw [strN_len]; omega)]
    · refine op_assign rfl rfl ?_
      refine op_assign rfl rfl ?_
      refine ops_nil ?_
      refine fin_code ?_
      refine run_seq ?_
      refine run_seq ?_
      refine run_region rfl ?_
      refine op_move rfl rfl ?_
      refine op_move rfl rfl ?_
      (refine op_val rfl (val_slen rfl) ?_)
      refine op_cmp_f rfl rfl rfl rfl (by first | (simp only [cmpP]; done) | (simp only [cmpP]; omega)) ?_
      refine ops_nil ?_
      refine fin_code ?_
      refine run_cond_f rfl ?_
      refine run_skip ?_
      refine fin_code ?_
      refine run_region rfl ?_
      refine op_move rfl rfl ?_
      refine op_assign rfl rfl ?_
      refine ops_nil ?_
      refine fin_block ?_
      refine fin_code ?_
      refine run_region rfl ?_
      refine op_move rfl rfl ?_
      refine op_add rfl rfl rfl (by simp only [kLo, kHi]; omega) ?_
      refine op_assign rfl rfl ?_
      refine ops_nil ?_
      refine fin_round ⟨i + 1, .slice (some ⟨gN, 0, none⟩) k k, [⟨gN, .cells (bv nx).toArray 4 (0, 0)⟩], nx, mv', ml', ms ++ [m], cv', cl', cs ++ [cn]⟩ (by dsimp only; omega) (by (repeat (first | exact Sub.nil _ | (refine Sub.cons rfl ?_)))) (by (apply le_of_picks; (repeat (first | exact Picks.nil | (apply Picks.cons; (· (repeat (first | exact Pick.here | apply Pick.there)))) | apply Picks.empty)))) ⟨by dsimp only; omega, Own.lit (by simp [hnl]) (by omega), hnl, hmo2, by simp [hml], hco2, ?_⟩
      dsimp only
      obtain ⟨bb, hbb⟩ : ∃ bb, s.data[i]? = some bb := ⟨_, Array.getElem?_eq_getElem (show i < s.data.size by have : s.data.size = s.size := rfl; omega)⟩
      have hub := strN_get hbb
      have htk : (strN s).take (i + 1) = (strN s).take i ++ [bb.toNat] := by
        rw [List.take_add_one, hub]
        rfl
      rw [htk]
      refine hst2.next (fun k hk z hz => hc2 k hk z hz) (fun z => ?_)
      rw [hnx z]
      constructor
      · rintro ⟨j, x, b, h1, _, h2, h3, h4, h5, h6, h7⟩
        rw [hub] at h5
        cases h5
        exact ⟨j, x, h1, h2, h3, h4, h6, h7⟩
      · rintro ⟨j, x, h1, h2, h3, h4, h5, h6⟩
        have := (List.getElem?_eq_some_iff.1 h3).1
        exact ⟨j, x, _, h1, by omega, h2, h3, h4, hub, h5, h6⟩
end Go.Proofs.Eng
