/- A part of the proof: what functions of the program do, step by step. -/
import Derived.Test.YtjfpcckdelocpaaDoorC8
set_option linter.unusedVariables false
set_option linter.unusedSimpArgs false
namespace Go.Proofs.Eng
open Go.RowKit
theorem or64 {v a : Nat} (hv : v < 33554432) (ha : a < 64) : bitop .or .i32 ((64 * v : Nat) : Int) (a : Nat) = (64 * v + a : Nat) := by
  have e : (BitVec.ofInt 32 ((64 * v : Nat) : Int) ||| BitVec.ofInt 32 ((a : Nat) : Int)).toNat = 64 * v + a := by
    rw [ofInt32, ofInt32, BitVec.toNat_or, BitVec.toNat_ofNat, BitVec.toNat_ofNat, Nat.mod_eq_of_lt (by omega), Nat.mod_eq_of_lt (by omega)]
    exact (Nat.two_pow_add_eq_or_of_lt (i := 6) ha v).symm
  show IntKind.i32.wrap ((BitVec.ofInt 32 ((64 * v : Nat) : Int) ||| BitVec.ofInt 32 ((a : Nat) : Int)).toNat : Int) = _
  rw [e, wrap32 (by omega)]
set_option maxRecDepth 100000 in
theorem and8_63 : ∀ x : _root_.Fin 256, bitop .and .u8 ((x.1 : Nat) : Int) 63 = ((x.1 % 64 : Nat) : Int) := by decide
set_option maxRecDepth 100000 in
theorem and8_1 : ∀ x : _root_.Fin 256, bitop .and .u8 ((x.1 : Nat) : Int) 127 = ((x.1 % 128 : Nat) : Int) := by decide
set_option maxRecDepth 100000 in
theorem and8_2 : ∀ x : _root_.Fin 256, bitop .and .u8 ((x.1 : Nat) : Int) 31 = ((x.1 % 32 : Nat) : Int) := by decide
set_option maxRecDepth 100000 in
theorem and8_3 : ∀ x : _root_.Fin 256, bitop .and .u8 ((x.1 : Nat) : Int) 15 = ((x.1 % 16 : Nat) : Int) := by decide
set_option maxRecDepth 100000 in
theorem and8_4 : ∀ x : _root_.Fin 256, bitop .and .u8 ((x.1 : Nat) : Int) 7 = ((x.1 % 8 : Nat) : Int) := by decide
theorem longN_wide {c n r0 : Nat} (h : wideN c = (n, r0)) : longN c = n := by
  unfold wideN at h
  unfold longN
  split at h
  · simp only [Prod.mk.injEq] at h; rw [if_pos (by omega)]; omega
  · rw [if_neg (by omega)]
    split at h
    · simp only [Prod.mk.injEq] at h; rw [if_pos (by omega)]; omega
    · rw [if_neg (by omega)]
      split at h
      · simp only [Prod.mk.injEq] at h; rw [if_pos (by omega)]; omega
      · rw [if_neg (by omega)]
        split at h
        · simp only [Prod.mk.injEq] at h; rw [if_pos (by omega)]; omega
        · simp only [Prod.mk.injEq] at h; rw [if_neg (by omega)]; omega
theorem wide_share {c n r0 : Nat} (h : wideN c = (n, r0)) (hn : 0 < n) : n ≤ 4 ∧ r0 < 128 ∧ ∃ m : Nat, aget #[.int .u8 0, .int .u8 127, .int .u8 31, .int .u8 15, .int .u8 7] n = some (.int .u8 (m : Nat)) ∧ bitop .and .u8 (c : Nat) (m : Nat) = (r0 : Nat) := by
  unfold wideN at h
  split at h
  · simp only [Prod.mk.injEq] at h
    obtain ⟨rfl, rfl⟩ := h
    refine ⟨by omega, by omega, 127, rfl, ?_⟩
    have := and8_1 ⟨c, by omega⟩
    simp only at this
    rw [show c % 128 = c by omega] at this
    exact this
  · split at h
    · simp only [Prod.mk.injEq] at h
      obtain ⟨rfl, rfl⟩ := h
      refine ⟨by omega, by omega, 31, rfl, ?_⟩
      have := and8_2 ⟨c, by omega⟩
      simp only at this
      rw [show c % 32 = c - 192 by omega] at this
      exact this
    · split at h
      · simp only [Prod.mk.injEq] at h
        obtain ⟨rfl, rfl⟩ := h
        refine ⟨by omega, by omega, 15, rfl, ?_⟩
        have := and8_3 ⟨c, by omega⟩
        simp only at this
        rw [show c % 16 = c - 224 by omega] at this
        exact this
      · split at h
        · simp only [Prod.mk.injEq] at h
          obtain ⟨rfl, rfl⟩ := h
          refine ⟨by omega, by omega, 7, rfl, ?_⟩
          have := and8_4 ⟨c, by omega⟩
          simp only at this
          rw [show c % 8 = c - 240 by omega] at this
          exact this
        · simp only [Prod.mk.injEq] at h
          omega
theorem least_get {n : Nat} (h0 : 0 < n) (h : n ≤ 4) : aget #[.int .i32 0, .int .i32 0, .int .i32 128, .int .i32 2048, .int .i32 65536] n = some (.int .i32 (leastN n : Nat)) := by
  have : n = 1 ∨ n = 2 ∨ n = 3 ∨ n = 4 := by omega
  rcases this with rfl | rfl | rfl | rfl <;> rfl
theorem str_at {s : ByteArray} {i y : Nat} (h : (strN s)[i]? = some y) : ∃ b, s.data[i]? = some b ∧ b.toNat = y := by
  unfold strN at h
  rw [List.getElem?_map, Array.getElem?_toList] at h
  cases hb : s.data[i]? with
  | none => rw [hb] at h; cases h
  | some b => rw [hb] at h; exact ⟨b, rfl, by simpa using h⟩
def bnd6 (i : Nat) : Nat := if i ≤ 1 then 128 else if i ≤ 2 then 8192 else if i ≤ 3 then 524288 else 33554432
theorem bnd6_up {i : Nat} (h1 : 1 ≤ i) (h4 : i < 4) : 64 * bnd6 i ≤ bnd6 (i + 1) ∧ bnd6 i ≤ 524288 := by
  have : i = 1 ∨ i = 2 ∨ i = 3 := by omega
  rcases this with rfl | rfl | rfl <;> decide
theorem bnd6_le (i : Nat) : bnd6 i ≤ 33554432 := by
  unfold bnd6
  split
  · omega
  · split
    · omega
    · split <;> omega
theorem shl6 {v : Nat} (h : v < 524288) : IntKind.i32.wrap ((v : Int) * 2 ^ (min (6 : Int).toNat IntKind.i32.bits)) = ((64 * v : Nat) : Int) := by
  have e : min (6 : Int).toNat IntKind.i32.bits = 6 := by decide
  rw [e, show (v : Int) * 2 ^ 6 = ((64 * v : Nat) : Int) by omega, wrap32 (by omega)]
set_option maxRecDepth 100000 in
set_option maxHeartbeats 8000000 in
theorem runes_any (w : World) (s : ByteArray) (c n r0 : Nat) (t : List Nat) (hs : strN s = c :: t) (hwd : wideN c = (n, r0)) (hn : 0 < n) (ht : t.length + 1 = n) :
    Calls Tryd.prog 34 #[.string s] w (Post w ([] : List Hp).flatten (fun x : Int × Int × Bool => .tuple #[.int .i32 x.1, .int .i32 x.2.1, .bool x.2.2]) (fun _ => ([] : List Hp).flatten)
      (fun x => (x.2.2 = false ∧ ¬ tails t) ∨ (tails t ∧ ∃ v : Nat, v < 33554432 ∧ fold64 (r0 : Nat) t = (v : Nat) ∧ x.1 = (if (v : Int) < (leastN n : Nat) then ((leastN n : Nat) : Int) else v) ∧ x.2.1 = (if (1114111 : Int) < (v : Nat) then (1114111 : Int) else v) ∧ x.2.2 = decide (x.1 ≤ x.2.1)))) := by
  obtain ⟨hn4, hr0, m, hget, hand⟩ := wide_share hwd hn
  have hlg := least_get hn hn4
  have hln := longN_wide hwd
  have hsz : s.size = n := by rw [← strN_len, hs, List.length_cons]; omega
  obtain ⟨b0, hb0', hbc⟩ := str_at (s := s) (i := 0) (y := c) (by rw [hs]; rfl)
  have hb0 : s.data[(0 : Int).toNat]? = some b0 := hb0'
  have hc255 : c ≤ 255 := by have := b0.toNat_lt; omega
  subst hbc
  refine enter [] Tryd.func34 rfl rfl (At.nil w) (Le.refl _) ?_
  intro R hR
  have LN := fun w => long_any w b0.toNat hc255
  rw [hln] at LN
  refine run_seq ?_
  refine run_region rfl ?_
  refine op_assign rfl rfl ?_
  refine op_assign rfl rfl ?_
  refine op_assign rfl rfl ?_
  refine ops_nil ?_
  refine fin_code ?_
  refine run_seq ?_
  refine run_region rfl ?_
  refine op_move rfl rfl ?_
  (refine op_val rfl (val_sindex rfl rfl (by omega) hb0) ?_)
  ((first | (apply op_call; (· exact rfl)) | apply op_call0); (· exact rfl); rotate_left 1; (· exact fun w hG hw => LN w); rotate_right 1; (· (repeat (first | exact Picks.nil | (apply Picks.cons; (· (repeat (first | exact Pick.here | apply Pick.there)))) | apply Picks.empty))))
  intro _ _
  have hgetI : aget #[.int .u8 0, .int .u8 127, .int .u8 31, .int .u8 15, .int .u8 7] (0 + ((n : Nat) : Int).toNat * 1) = some (.int .u8 (m : Nat)) := by
    rw [Int.toNat_natCast, Nat.zero_add, Nat.mul_one]; exact hget
  have hlgI : aget #[.int .i32 0, .int .i32 0, .int .i32 128, .int .i32 2048, .int .i32 65536] (0 + ((n : Nat) : Int).toNat * 1) = some (.int .i32 (leastN n : Nat)) := by
    rw [Int.toNat_natCast, Nat.zero_add, Nat.mul_one]; exact hlg
  refine op_assign rfl rfl ?_
  refine ops_nil ?_
  refine fin_code ?_
  refine run_seq ?_
  refine run_seq ?_
  refine run_region rfl ?_
  refine op_move rfl rfl ?_
  refine op_cmp_f rfl rfl rfl rfl (by first | (simp only [cmpP]; done) | (simp only [cmpP]; omega)) ?_
  refine op_move rfl rfl ?_
  refine ops_guard_yes rfl rfl rfl ?_
  refine op_move rfl rfl ?_
  refine ops_guard_yes rfl rfl rfl ?_
  (refine op_val rfl (val_slen rfl) ?_)
  refine ops_guard_yes rfl rfl rfl ?_
  refine op_move rfl rfl ?_
  refine ops_guard_yes rfl rfl rfl ?_
  refine op_cmp_f rfl rfl rfl rfl (by first | (simp only [cmpP]; done) | (simp only [cmpP]; omega)) ?_
  refine op_pick_f rfl rfl rfl ?_
  refine ops_nil ?_
  refine fin_code ?_
  refine run_cond_f rfl ?_
  refine run_skip ?_
  refine fin_code ?_
  refine run_seq ?_
  refine run_region rfl ?_
  refine op_buildA rfl rfl rfl (by first | (intro v hv; simp at hv; done) | (intro v hv; simp at hv; rcases hv with rfl | rfl | rfl | rfl | rfl | rfl | rfl <;> rfl) | (intro v hv; simp at hv; rcases hv with rfl | rfl | rfl | rfl | rfl | rfl <;> rfl) | (intro v hv; simp at hv; rcases hv with rfl | rfl | rfl | rfl | rfl <;> rfl) | (intro v hv; simp at hv; rcases hv with rfl | rfl | rfl | rfl <;> rfl) | (intro v hv; simp at hv; rcases hv with rfl | rfl | rfl <;> rfl) | (intro v hv; simp at hv; rcases hv with rfl | rfl <;> rfl) | (intro v hv; simp at hv; rcases hv with rfl; rfl)) rfl ?_
  (refine op_alloc rfl ?_; intro _ _)
  (apply op_storeAll; (· exact rfl); (· exact rfl); (· exact rfl); (· exact onesC rfl); (· (repeat (first | exact Swap.here | apply Swap.there))); (· exact rfl))
  refine ops_nil ?_
  refine fin_code ?_
  refine run_seq ?_
  refine run_region rfl ?_
  refine op_buildA rfl rfl rfl (by first | (intro v hv; simp at hv; done) | (intro v hv; simp at hv; rcases hv with rfl | rfl | rfl | rfl | rfl | rfl | rfl <;> rfl) | (intro v hv; simp at hv; rcases hv with rfl | rfl | rfl | rfl | rfl | rfl <;> rfl) | (intro v hv; simp at hv; rcases hv with rfl | rfl | rfl | rfl | rfl <;> rfl) | (intro v hv; simp at hv; rcases hv with rfl | rfl | rfl | rfl <;> rfl) | (intro v hv; simp at hv; rcases hv with rfl | rfl | rfl <;> rfl) | (intro v hv; simp at hv; rcases hv with rfl | rfl <;> rfl) | (intro v hv; simp at hv; rcases hv with rfl; rfl)) rfl ?_
  (refine op_alloc rfl ?_; intro _ _)
  (apply op_storeAll; (· exact rfl); (· exact rfl); (· exact rfl); (· exact onesC rfl); (· (repeat (first | exact Swap.here | apply Swap.there))); (· exact rfl))
  refine ops_nil ?_
  refine fin_code ?_
  refine run_seq ?_
  rename_i g6 h6 g7 h7
  refine run_drawS [] (by kernel_rfl) ?_
  refine dr_stab 0 rfl rfl (Val.s (val_move rfl)) (by decide +kernel) rfl rfl ?_
  refine dr_stab 1 rfl rfl (Val.s (val_sindex rfl rfl (by omega) (by assumption))) (by decide +kernel) rfl rfl ?_
  refine dr_stab 2 rfl rfl (Val.s (val_move rfl)) (by decide +kernel) rfl rfl ?_
  refine dr_stab 3 rfl rfl (Val.s (val_indexP rfl rfl (by omega))) (by decide +kernel) rfl rfl ?_
  (apply dr_read 4; (· exact rfl); (· exact rfl); (· (first | (apply val_load; (· exact rfl); (· apply cell_of_has; (· (repeat (first | exact Has.here | apply Has.there))); (· first | exact rfl | exact hgetI | exact hlgI))) | fail)); (· decide +kernel); (· exact rfl); (· exact rfl))
  refine dr_stab 5 rfl rfl (Val.s (val_bitsE rfl rfl rfl (by assumption))) (by decide +kernel) rfl rfl ?_
  refine dr_stab 6 rfl rfl (Val.s (val_conv rfl (by simp only [kLo, kHi]; omega))) (by decide +kernel) rfl rfl ?_
  refine dr_stab 7 rfl rfl (Val.s (val_assign rfl)) (by decide +kernel) rfl rfl ?_
  (refine dr_done (by decide +kernel) (by (apply le_of_picks; (repeat (first | exact Picks.nil | (apply Picks.cons; (· (repeat (first | exact Pick.here | apply Pick.there)))) | apply Picks.empty)))) ?_)
  refine fin_code ?_
  refine run_seq ?_
  refine run_region rfl ?_
  refine op_move rfl rfl ?_
  refine op_assign rfl rfl ?_
  refine ops_nil ?_
  refine fin_code ?_
  refine run_seq ?_
  refine run_seq ?_
  refine run_region rfl ?_
  refine op_assign rfl rfl ?_
  refine ops_nil ?_
  refine fin_code ?_
  refine run_block ?_
  refine run_loop (α := Nat × Nat) (fun x => [(0, .string s), (5, .int .i64 n), (6, .pointer (some ⟨g6, 0, none⟩)), (7, .pointer (some ⟨g7, 0, none⟩)), (8, .int .i32 (x.2 : Nat)), (9, .int .i32 (x.2 : Nat)), (10, .int .i64 (x.1 : Nat))])
    (fun _ => [[⟨g6, .cells #[.int .i32 0, .int .i32 0, .int .i32 128, .int .i32 2048, .int .i32 65536] 108 (0, 0)⟩]])
    (fun x => 1 ≤ x.1 ∧ x.1 ≤ n ∧ tails (t.take (x.1 - 1)) ∧ fold64 (r0 : Nat) (t.take (x.1 - 1)) = (x.2 : Nat) ∧ x.2 < bnd6 x.1) (fun x => n - x.1) (1, r0) ⟨Nat.le_refl _, hn, (by intro y hy; cases hy), rfl, hr0⟩ (by (repeat (first | exact Sub.nil _ | (refine Sub.cons rfl ?_)))) (by (apply le_of_picks; (repeat (first | exact Picks.nil | (apply Picks.cons; (· (repeat (first | exact Pick.here | apply Pick.there)))) | apply Picks.empty)))) ?_
  rintro ⟨i, v⟩ ⟨hi1, hin, htl, hfo, hvb⟩
  dsimp only at hi1 hin htl hfo hvb ⊢
  by_cases hi : i < n
  · have hil : i - 1 < t.length := by omega
    obtain ⟨bb, hbb, hby⟩ := str_at (s := s) (i := i) (y := t[i - 1]) (by rw [hs, List.getElem?_cons, if_neg (by omega), List.getElem?_eq_getElem hil])
    have hbi : s.data[((i : Nat) : Int).toNat]? = some bb := by rw [Int.toNat_natCast]; exact hbb
    have htk : t.take i = t.take (i - 1) ++ [t[i - 1]] := by
      conv => lhs; rw [show i = (i - 1) + 1 by omega]
      exact List.take_succ_eq_append_getElem hil
    have hbb255 := bb.toNat_lt
    by_cases hg : 128 ≤ bb.toNat ∧ bb.toNat ≤ 191
    · obtain ⟨hg1, hg2⟩ := hg
      obtain ⟨hup, hvb2⟩ := bnd6_up hi1 (by omega)
      have hshl := shl6 (v := v) (by omega)
      have hb63 := and8_63 ⟨bb.toNat, by omega⟩
      have hor := or64 (v := v) (a := bb.toNat % 64) (by omega) (by omega)
      dsimp only at hb63
      refine run_seq ?_
      refine run_seq ?_
      refine run_region rfl ?_
      refine op_move rfl rfl ?_
      refine op_move rfl rfl ?_
      refine op_cmp_t rfl rfl rfl rfl (by first | (simp only [cmpP]; done) | (simp only [cmpP]; omega)) ?_
      refine ops_nil ?_
      refine fin_code ?_
      refine run_cond_t rfl ?_
      refine run_skip ?_
      refine fin_code ?_
      refine run_seq ?_
      refine run_block ?_
      refine run_seq ?_
      refine run_region rfl ?_
      refine op_assign rfl rfl ?_
      refine op_assign rfl rfl ?_
      refine ops_nil ?_
      refine fin_code ?_
      refine run_seq ?_
      refine run_seq ?_
      refine run_region rfl ?_
      refine op_move rfl rfl ?_
      refine op_move rfl rfl ?_
      (refine op_val rfl (val_slen rfl) ?_)
      refine op_cmp_t rfl rfl rfl rfl (by first | (simp only [cmpP]; done) | (simp only [cmpP]; omega)) ?_
      refine ops_nil ?_
      refine fin_code ?_
      refine run_cond_t rfl ?_
      refine run_seq ?_
      refine run_seq ?_
      refine run_region rfl ?_
      refine op_move rfl rfl ?_
      refine op_move rfl rfl ?_
      (refine op_val rfl (val_sindex rfl rfl (by omega) hbi) ?_)
      refine op_cmp_f rfl rfl rfl rfl (by first | (simp only [cmpP]; done) | (simp only [cmpP]; omega)) ?_
      refine op_move rfl rfl ?_
      refine ops_guard_yes rfl rfl rfl ?_
      refine op_move rfl rfl ?_
      refine ops_guard_yes rfl rfl rfl ?_
      refine op_move rfl rfl ?_
      refine ops_guard_yes rfl rfl rfl ?_
      (refine op_val rfl (val_sindex rfl rfl (by omega) hbi) ?_)
      refine ops_guard_yes rfl rfl rfl ?_
      refine op_cmp_f rfl rfl rfl rfl (by first | (simp only [cmpP]; done) | (simp only [cmpP]; omega)) ?_
      refine op_pick_f rfl rfl rfl ?_
      refine ops_nil ?_
      refine fin_code ?_
      refine run_cond_f rfl ?_
      refine run_skip ?_
      refine fin_code ?_
      refine run_seq ?_
      refine run_region rfl ?_
      refine op_move rfl rfl ?_
      refine op_move rfl rfl ?_
      (refine op_val rfl (val_sindex rfl rfl (by omega) hbi) ?_)
      (refine op_val rfl (val_bitsE rfl rfl rfl hb63) ?_)
      refine op_conv rfl rfl (by simp only [kLo, kHi]; omega) ?_
      refine op_assign rfl rfl ?_
      refine ops_nil ?_
      refine fin_code ?_
      refine run_region rfl ?_
      refine op_move rfl rfl ?_
      refine op_assign rfl rfl ?_
      refine ops_nil ?_
      refine fin_code ?_
      refine run_region rfl ?_
      refine op_move rfl rfl ?_
      (refine op_val rfl (val_shlE rfl rfl (by omega) hshl) ?_)
      refine op_move rfl rfl ?_
      (refine op_val rfl (val_bitsE rfl rfl rfl hor) ?_)
      refine op_move rfl rfl ?_
      (refine op_val rfl (val_shlE rfl rfl (by omega) hshl) ?_)
      refine op_move rfl rfl ?_
      (refine op_val rfl (val_bitsE rfl rfl rfl hor) ?_)
      refine op_assign rfl rfl ?_
      refine op_assign rfl rfl ?_
      refine ops_nil ?_
      refine fin_block ?_
      refine fin_code ?_
      refine run_region rfl ?_
      refine op_move rfl rfl ?_
      refine op_add rfl rfl rfl (by simp only [kLo, kHi]; omega) ?_
      refine op_assign rfl rfl ?_
      refine ops_nil ?_
      refine fin_round (i + 1, 64 * v + bb.toNat % 64) (by dsimp only; omega) (by (repeat (first | exact Sub.nil _ | (refine Sub.cons rfl ?_)))) (by (apply le_of_picks; (repeat (first | exact Picks.nil | (apply Picks.cons; (· (repeat (first | exact Pick.here | apply Pick.there)))) | apply Picks.empty)))) ⟨by dsimp only; omega, by dsimp only; omega, ?_, ?_, ?_⟩
      · dsimp only
        rw [Nat.add_sub_cancel, htk]
        intro y hy
        rcases List.mem_append.1 hy with hy | hy
        · exact htl y hy
        · simp at hy
          subst hy
          omega
      · dsimp only
        rw [Nat.add_sub_cancel, htk, fold64_snoc, hfo, ← hby]
        omega
      · dsimp only
        omega
    · have hnt : ¬ tails t := fun h => by
        have := h t[i - 1] (List.getElem_mem hil)
        omega
      by_cases hlt : bb.toNat < 128
      · refine run_seq ?_
        refine run_seq ?_
        refine run_region rfl ?_
        refine op_move rfl rfl ?_
        refine op_move rfl rfl ?_
        refine op_cmp_t rfl rfl rfl rfl (by first | (simp only [cmpP]; done) | (simp only [cmpP]; omega)) ?_
        refine ops_nil ?_
        refine fin_code ?_
        refine run_cond_t rfl ?_
        refine run_skip ?_
        refine fin_code ?_
        refine run_seq ?_
        refine run_block ?_
        refine run_seq ?_
        refine run_region rfl ?_
        refine op_assign rfl rfl ?_
        refine op_assign rfl rfl ?_
        refine ops_nil ?_
        refine fin_code ?_
        refine run_seq ?_
        refine run_seq ?_
        refine run_region rfl ?_
        refine op_move rfl rfl ?_
        refine op_move rfl rfl ?_
        (refine op_val rfl (val_slen rfl) ?_)
        refine op_cmp_t rfl rfl rfl rfl (by first | (simp only [cmpP]; done) | (simp only [cmpP]; omega)) ?_
        refine ops_nil ?_
        refine fin_code ?_
        refine run_cond_t rfl ?_
        refine run_seq ?_
        refine run_seq ?_
        refine run_region rfl ?_
        refine op_move rfl rfl ?_
        refine op_move rfl rfl ?_
        (refine op_val rfl (val_sindex rfl rfl (by omega) hbi) ?_)
        refine op_cmp_t rfl rfl rfl rfl (by first | (simp only [cmpP]; done) | (simp only [cmpP]; omega)) ?_
        refine op_move rfl rfl ?_
        refine ops_off1 rfl rfl ?_
        refine ops_off1 rfl rfl ?_
        refine ops_off1 rfl rfl ?_
        refine ops_off1 rfl rfl ?_
        refine op_pick_t rfl rfl rfl ?_
        refine ops_nil ?_
        refine fin_code ?_
        refine run_cond_t rfl ?_
        refine run_seq ?_
        refine run_region rfl ?_
        refine op_assign rfl rfl ?_
        refine op_assign rfl rfl ?_
        refine op_assign rfl rfl ?_
        refine ops_nil ?_
        refine fin_code ?_
        refine run_ret ?_
        refine fin_ret_code ?_
        refine fin_ret_code ?_
        refine fin_ret_block ?_
        refine fin_ret_code ?_
        refine fin_ret_inv ?_
        refine fin_ret_block ?_
        refine fin_ret_code ?_
        refine fin_ret3 rfl rfl rfl rfl ?_
        intro w' g
        exact hR _ _ (post_of g (0, 0, false) (.inl ⟨rfl, hnt⟩) rfl (by (apply le_of_picks; (repeat (first | exact Picks.nil | (apply Picks.cons; (· (repeat (first | exact Pick.here | apply Pick.there)))) | apply Picks.empty)))))
      · have hgt : 191 < bb.toNat := by omega
        refine run_seq ?_
        refine run_seq ?_
        refine run_region rfl ?_
        refine op_move rfl rfl ?_
        refine op_move rfl rfl ?_
        refine op_cmp_t rfl rfl rfl rfl (by first | (simp only [cmpP]; done) | (simp only [cmpP]; omega)) ?_
        refine ops_nil ?_
        refine fin_code ?_
        refine run_cond_t rfl ?_
        refine run_skip ?_
        refine fin_code ?_
        refine run_seq ?_
        refine run_block ?_
        refine run_seq ?_
        refine run_region rfl ?_
        refine op_assign rfl rfl ?_
        refine op_assign rfl rfl ?_
        refine ops_nil ?_
        refine fin_code ?_
        refine run_seq ?_
        refine run_seq ?_
        refine run_region rfl ?_
        refine op_move rfl rfl ?_
        refine op_move rfl rfl ?_
        (refine op_val rfl (val_slen rfl) ?_)
        refine op_cmp_t rfl rfl rfl rfl (by first | (simp only [cmpP]; done) | (simp only [cmpP]; omega)) ?_
        refine ops_nil ?_
        refine fin_code ?_
        refine run_cond_t rfl ?_
        refine run_seq ?_
        refine run_seq ?_
        refine run_region rfl ?_
        refine op_move rfl rfl ?_
        refine op_move rfl rfl ?_
        (refine op_val rfl (val_sindex rfl rfl (by omega) hbi) ?_)
        refine op_cmp_f rfl rfl rfl rfl (by first | (simp only [cmpP]; done) | (simp only [cmpP]; omega)) ?_
        refine op_move rfl rfl ?_
        refine ops_guard_yes rfl rfl rfl ?_
        refine op_move rfl rfl ?_
        refine ops_guard_yes rfl rfl rfl ?_
        refine op_move rfl rfl ?_
        refine ops_guard_yes rfl rfl rfl ?_
        (refine op_val rfl (val_sindex rfl rfl (by omega) hbi) ?_)
        refine ops_guard_yes rfl rfl rfl ?_
        refine op_cmp_t rfl rfl rfl rfl (by first | (simp only [cmpP]; done) | (simp only [cmpP]; omega)) ?_
        refine op_pick_f rfl rfl rfl ?_
        refine ops_nil ?_
        refine fin_code ?_
        refine run_cond_t rfl ?_
        refine run_seq ?_
        refine run_region rfl ?_
        refine op_assign rfl rfl ?_
        refine op_assign rfl rfl ?_
        refine op_assign rfl rfl ?_
        refine ops_nil ?_
        refine fin_code ?_
        refine run_ret ?_
        refine fin_ret_code ?_
        refine fin_ret_code ?_
        refine fin_ret_block ?_
        refine fin_ret_code ?_
        refine fin_ret_inv ?_
        refine fin_ret_block ?_
        refine fin_ret_code ?_
        refine fin_ret3 rfl rfl rfl rfl ?_
        intro w' g
        exact hR _ _ (post_of g (0, 0, false) (.inl ⟨rfl, hnt⟩) rfl (by (apply le_of_picks; (repeat (first | exact Picks.nil | (apply Picks.cons; (· (repeat (first | exact Pick.here | apply Pick.there)))) | apply Picks.empty)))))
  · obtain rfl : i = n := by omega
    rw [List.take_of_length_le (by omega)] at htl hfo
    have hb6 := bnd6_le i
    refine run_seq ?_
    refine run_seq ?_
    refine run_region rfl ?_
    refine op_move rfl rfl ?_
    refine op_move rfl rfl ?_
    refine op_cmp_f rfl rfl rfl rfl (by first | (simp only [cmpP]; done) | (simp only [cmpP]; omega)) ?_
    refine ops_nil ?_
    refine fin_code ?_
    refine run_cond_f rfl ?_
    refine run_exit ?_
    refine fin_exit_code ?_
    refine fin_exit_inv ?_
    refine fin_exit_here ?_
    refine fin_code ?_
    refine run_seq ?_
    refine run_region rfl ?_
    refine op_move rfl rfl ?_
    refine op_move rfl rfl ?_
    (refine op_indexP rfl rfl rfl (by omega) ?_)
    (apply op_load; (· exact rfl); (· exact rfl); (· apply cell_of_has; (· (repeat (first | exact Has.here | apply Has.there))); (· first | exact rfl | exact hgetI | exact hlgI)))
    refine op_max rfl rfl rfl ?_
    refine op_move rfl rfl ?_
    refine op_min rfl rfl rfl ?_
    refine op_assign rfl rfl ?_
    refine op_assign rfl rfl ?_
    refine ops_nil ?_
    refine fin_code ?_
    refine run_seq ?_
    refine run_region rfl ?_
    refine op_move rfl rfl ?_
    refine op_move rfl rfl ?_
    refine op_move rfl rfl ?_
    refine op_move rfl rfl ?_
    refine op_cmp rfl rfl rfl rfl ?_
    refine op_assign rfl rfl ?_
    refine op_assign rfl rfl ?_
    refine op_assign rfl rfl ?_
    refine ops_nil ?_
    refine fin_code ?_
    refine run_ret ?_
    refine fin_ret3 rfl rfl rfl rfl ?_
    intro w' g
    exact hR _ _ (post_of g (_, _, _) (.inr ⟨htl, v, by omega, hfo, rfl, rfl, rfl⟩) rfl (by (apply le_of_picks; (repeat (first | exact Picks.nil | (apply Picks.cons; (· (repeat (first | exact Pick.here | apply Pick.there)))) | apply Picks.empty)))))
end Go.Proofs.Eng
