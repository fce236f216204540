/- A part of the proof: what functions of the program do, step by step. -/
import Derived.Test.YtiadbheejlhimaaXm
set_option linter.unusedVariables false
set_option linter.unusedSimpArgs false
namespace Go.Proofs.Eng
open Go.RowKit
theorem D_lo {sw : Bool} {V : Nat → Nat → Bool} : ∀ i k : Nat, k ≤ i + Dd sw V i k
  | 0, k => by rw [D_0]; omega
  | i + 1, 0 => by omega
  | i + 1, k + 1 => by
    rcases D_att (sw := sw) (V := V) i k with e | e | ⟨_, e⟩ | e | ⟨i', k', rfl, rfl, _, _, _, e⟩
    · have := D_lo (sw := sw) (V := V) i (k + 1); omega
    · have := D_lo (sw := sw) (V := V) (i + 1) k; omega
    · have := D_lo (sw := sw) (V := V) i k; omega
    · have := D_lo (sw := sw) (V := V) i k; omega
    · have := D_lo (sw := sw) (V := V) i' k'; omega
termination_by i k => (i, k)
theorem D_congr {sw : Bool} {V V' : Nat → Nat → Bool} {L : Nat} (h : ∀ i k, k < L → V i k = V' i k) : ∀ i k : Nat, k ≤ L → Dd sw V i k = Dd sw V' i k
  | 0, k, _ => by rw [D_0, D_0]
  | i + 1, 0, _ => by rw [D_10, D_10]
  | 1, k + 1, hk => by rw [D_11, D_11, D_congr h 0 (k + 1) hk, D_congr h 1 k (by omega), D_congr h 0 k (by omega), h 0 k (by omega)]
  | i + 2, 1, hk => by rw [D_21, D_21, D_congr h (i + 1) 1 hk, D_congr h (i + 2) 0 (by omega), D_congr h (i + 1) 0 (by omega), h (i + 1) 0 (by omega)]
  | i + 2, k + 2, hk => by rw [D_22, D_22, D_congr h (i + 1) (k + 2) hk, D_congr h (i + 2) (k + 1) (by omega), D_congr h (i + 1) (k + 1) (by omega), D_congr h i k (by omega), h (i + 1) (k + 1) (by omega), h (i + 1) k (by omega), h i (k + 1) (by omega)]
termination_by i k => (i, k)
theorem Vb_mask (v : List Nat) (b i k : Nat) (hk : k < b) : Vb (v.map (· % 2 ^ b)) i k = Vb v i k := by
  unfold Vb
  have e : (v.map (· % 2 ^ b)).getD i 0 = v.getD i 0 % 2 ^ b := by
    rw [List.getD_eq_getElem?_getD, List.getD_eq_getElem?_getD, List.getElem?_map]
    cases v[i]? <;> simp
  rw [e, bitN_test, bitN_test, Nat.testBit_mod_two_pow, decide_eq_true hk, Bool.true_and]
theorem and_mask {x P b : Nat} (hx : x < 18446744073709551616) (hP : P = 2 ^ b) (hb : b ≤ 40) : bitop .and .u64 (x : Int) ((P : Int) - 1) = ((x % P : Nat) : Int) := by
  have h1 : 1 ≤ 2 ^ b := Nat.one_le_two_pow
  have h2 : 2 ^ b ≤ 2 ^ 40 := Nat.pow_le_pow_right (by omega) hb
  have h := u64_and (UInt64.ofNat x) (2 ^ b - 1) (by omega)
  rw [show (UInt64.ofNat x).toNat = x by rw [UInt64.toNat_ofNat']; omega, Nat.and_two_pow_sub_one_eq_mod] at h
  subst hP
  rw [← h]
  congr 1
  omega
theorem shl_one {b : Nat} (hb : b ≤ 40) : IntKind.u64.wrap ((1 : Int) * 2 ^ (min (b : Int).toNat IntKind.u64.bits)) = ((2 ^ b : Nat) : Int) := by
  rw [Int.toNat_natCast, show min b IntKind.u64.bits = b by simp [IntKind.bits]; omega, Int.one_mul, show ((2 : Int) ^ b) = ((2 ^ b : Nat) : Int) by rw [Int.natCast_pow]; rfl]
  have h2 : 2 ^ b ≤ 2 ^ 40 := Nat.pow_le_pow_right (by omega) hb
  generalize 2 ^ b = P at *
  exact wrap_in (by simp only [kLo]; omega) (by simp only [kHi]; omega)
set_option maxRecDepth 100000 in
set_option maxHeartbeats 32000000 in
theorem lawPV_any (w : World) (A : Option Addr) (n c : Nat) (v : List Nat) (hv : v.length = n) (hn : n ≤ 9223372036854775807) (hr : Rd w w.heap.size A (u64s v)) (hb64 : ∀ x ∈ v, x < 18446744073709551616) (b md : Nat) (dam : Bool) (hb : b ≤ 255) (hmd : md ≤ 255) :
    Calls Try.prog 6 #[.slice A n c, .int .u8 b, .int .u8 md, .bool dam] w (Post w ([] : List Hp).flatten (fun _ : Unit => .bool true) (fun _ => ([] : List Hp).flatten) (fun _ => True)) := by
  refine enter [] Try.func6 rfl rfl (At.nil w) (Le.refl _) ?_
  intro R hR
  by_cases h1 : 2147483647 < n
  · refine run_seq ?_
    refine run_region rfl ?_
    refine op_assign rfl rfl ?_
    refine ops_nil ?_
    refine fin_code ?_
    refine run_seq ?_
    refine run_seq ?_
    refine run_region rfl ?_
    refine op_move rfl rfl ?_
    refine op_len rfl rfl ?_
    refine op_cmp_t rfl rfl rfl rfl (by first | (simp only [cmpP]; done) | (simp only [cmpP]; omega)) ?_
    refine ops_nil ?_
    refine fin_code ?_
    refine run_cond_t rfl ?_
    refine run_seq ?_
    refine run_region rfl ?_
    refine op_assign rfl rfl ?_
    refine ops_nil ?_
    refine fin_code ?_
    refine run_ret ?_
    refine fin_ret_code ?_
    refine fin_ret1 rfl rfl ?_
    intro w' g
    exact hR _ _ (post_of g () trivial rfl (by (apply le_of_picks; (repeat (first | exact Picks.nil | (apply Picks.cons; (· (repeat (first | exact Pick.here | apply Pick.there)))) | apply Picks.empty)))))
  by_cases h2 : 40 < n
  · refine run_seq ?_
    refine run_region rfl ?_
    refine op_assign rfl rfl ?_
    refine ops_nil ?_
    refine fin_code ?_
    refine run_seq ?_
    refine run_seq ?_
    refine run_region rfl ?_
    refine op_move rfl rfl ?_
    refine op_len rfl rfl ?_
    refine op_cmp_f rfl rfl rfl rfl (by first | (simp only [cmpP]; done) | (simp only [cmpP]; omega)) ?_
    refine ops_nil ?_
    refine fin_code ?_
    refine run_cond_f rfl ?_
    refine run_skip ?_
    refine fin_code ?_
    refine run_seq ?_
    refine run_seq ?_
    refine run_region rfl ?_
    refine op_move rfl rfl ?_
    refine op_len rfl rfl ?_
    refine op_cmp_t rfl rfl rfl rfl (by first | (simp only [cmpP]; done) | (simp only [cmpP]; omega)) ?_
    refine op_move rfl rfl ?_
    refine ops_off1 rfl rfl ?_
    refine ops_off1 rfl rfl ?_
    refine op_pick_t rfl rfl rfl ?_
    refine op_move rfl rfl ?_
    refine ops_off1 rfl rfl ?_
    refine ops_off1 rfl rfl ?_
    refine op_pick_t rfl rfl rfl ?_
    refine ops_nil ?_
    refine fin_code ?_
    refine run_cond_t rfl ?_
    refine run_seq ?_
    refine run_region rfl ?_
    refine op_assign rfl rfl ?_
    refine ops_nil ?_
    refine fin_code ?_
    refine run_ret ?_
    refine fin_ret_code ?_
    refine fin_ret1 rfl rfl ?_
    intro w' g
    exact hR _ _ (post_of g () trivial rfl (by (apply le_of_picks; (repeat (first | exact Picks.nil | (apply Picks.cons; (· (repeat (first | exact Pick.here | apply Pick.there)))) | apply Picks.empty)))))
  by_cases h3 : 40 < b
  · refine run_seq ?_
    refine run_region rfl ?_
    refine op_assign rfl rfl ?_
    refine ops_nil ?_
    refine fin_code ?_
    refine run_seq ?_
    refine run_seq ?_
    refine run_region rfl ?_
    refine op_move rfl rfl ?_
    refine op_len rfl rfl ?_
    refine op_cmp_f rfl rfl rfl rfl (by first | (simp only [cmpP]; done) | (simp only [cmpP]; omega)) ?_
    refine ops_nil ?_
    refine fin_code ?_
    refine run_cond_f rfl ?_
    refine run_skip ?_
    refine fin_code ?_
    refine run_seq ?_
    refine run_seq ?_
    refine run_region rfl ?_
    refine op_move rfl rfl ?_
    refine op_len rfl rfl ?_
    refine op_cmp_f rfl rfl rfl rfl (by first | (simp only [cmpP]; done) | (simp only [cmpP]; omega)) ?_
    refine op_move rfl rfl ?_
    refine ops_guard_yes rfl rfl rfl ?_
    refine op_move rfl rfl ?_
    refine ops_guard_yes rfl rfl rfl ?_
    refine op_cmp_t rfl rfl rfl rfl (by first | (simp only [cmpP]; done) | (simp only [cmpP]; omega)) ?_
    refine op_pick_f rfl rfl rfl ?_
    refine op_move rfl rfl ?_
    refine ops_off1 rfl rfl ?_
    refine ops_off1 rfl rfl ?_
    refine op_pick_t rfl rfl rfl ?_
    refine ops_nil ?_
    refine fin_code ?_
    refine run_cond_t rfl ?_
    refine run_seq ?_
    refine run_region rfl ?_
    refine op_assign rfl rfl ?_
    refine ops_nil ?_
    refine fin_code ?_
    refine run_ret ?_
    refine fin_ret_code ?_
    refine fin_ret1 rfl rfl ?_
    intro w' g
    exact hR _ _ (post_of g () trivial rfl (by (apply le_of_picks; (repeat (first | exact Picks.nil | (apply Picks.cons; (· (repeat (first | exact Pick.here | apply Pick.there)))) | apply Picks.empty)))))
  by_cases h4 : 8 < md
  · refine run_seq ?_
    refine run_region rfl ?_
    refine op_assign rfl rfl ?_
    refine ops_nil ?_
    refine fin_code ?_
    refine run_seq ?_
    refine run_seq ?_
    refine run_region rfl ?_
    refine op_move rfl rfl ?_
    refine op_len rfl rfl ?_
    refine op_cmp_f rfl rfl rfl rfl (by first | (simp only [cmpP]; done) | (simp only [cmpP]; omega)) ?_
    refine ops_nil ?_
    refine fin_code ?_
    refine run_cond_f rfl ?_
    refine run_skip ?_
    refine fin_code ?_
    refine run_seq ?_
    refine run_seq ?_
    refine run_region rfl ?_
    refine op_move rfl rfl ?_
    refine op_len rfl rfl ?_
    refine op_cmp_f rfl rfl rfl rfl (by first | (simp only [cmpP]; done) | (simp only [cmpP]; omega)) ?_
    refine op_move rfl rfl ?_
    refine ops_guard_yes rfl rfl rfl ?_
    refine op_move rfl rfl ?_
    refine ops_guard_yes rfl rfl rfl ?_
    refine op_cmp_f rfl rfl rfl rfl (by first | (simp only [cmpP]; done) | (simp only [cmpP]; omega)) ?_
    refine op_pick_f rfl rfl rfl ?_
    refine op_move rfl rfl ?_
    refine ops_guard_yes rfl rfl rfl ?_
    refine op_move rfl rfl ?_
    refine ops_guard_yes rfl rfl rfl ?_
    refine op_cmp_t rfl rfl rfl rfl (by first | (simp only [cmpP]; done) | (simp only [cmpP]; omega)) ?_
    refine op_pick_f rfl rfl rfl ?_
    refine ops_nil ?_
    refine fin_code ?_
    refine run_cond_t rfl ?_
    refine run_seq ?_
    refine run_region rfl ?_
    refine op_assign rfl rfl ?_
    refine ops_nil ?_
    refine fin_code ?_
    refine run_ret ?_
    refine fin_ret_code ?_
    refine fin_ret1 rfl rfl ?_
    intro w' g
    exact hR _ _ (post_of g () trivial rfl (by (apply le_of_picks; (repeat (first | exact Picks.nil | (apply Picks.cons; (· (repeat (first | exact Pick.here | apply Pick.there)))) | apply Picks.empty)))))
  have hmax : (60000 : Nat) ≤ maxLen := by decide
  have hmask := fun i k (hk : k < b) => Vb_mask v b i k hk
  have hshl := shl_one (b := b) (by omega)
  have hand := fun (x : Nat) (hx : x < 18446744073709551616) => and_mask (x := x) (P := 2 ^ b) (b := b) hx rfl (by omega)
  have hP0 : 1 ≤ 2 ^ b := Nat.one_le_two_pow
  have hP1 : 2 ^ b ≤ 2 ^ 40 := Nat.pow_le_pow_right (by omega) (by omega)
  generalize 2 ^ b = P at *
  obtain ⟨mv, hmv⟩ : ∃ mv, mv = v.map (· % P) := ⟨_, rfl⟩
  rw [← hmv] at hmask
  have hml : mv.length = n := by rw [hmv]; simp [hv]
  have hmi : ∀ i (h : i < v.length), mv[i]'(by omega) = v[i] % P := by subst hmv; intro i h; simp
  have hinv := InvP.walk md dam mv n (by omega)
  refine run_seq ?_
  refine run_region rfl ?_
  refine op_assign rfl rfl ?_
  refine ops_nil ?_
  refine fin_code ?_
  refine run_seq ?_
  refine run_seq ?_
  refine run_region rfl ?_
  refine op_move rfl rfl ?_
  refine op_len rfl rfl ?_
  refine op_cmp_f rfl rfl rfl rfl (by first | (simp only [cmpP]; done) | (simp only [cmpP]; omega)) ?_
  refine ops_nil ?_
  refine fin_code ?_
  refine run_cond_f rfl ?_
  refine run_skip ?_
  refine fin_code ?_
  refine run_seq ?_
  refine run_seq ?_
  refine run_region rfl ?_
  refine op_move rfl rfl ?_
  refine op_len rfl rfl ?_
  refine op_cmp_f rfl rfl rfl rfl (by first | (simp only [cmpP]; done) | (simp only [cmpP]; omega)) ?_
  refine op_move rfl rfl ?_
  refine ops_guard_yes rfl rfl rfl ?_
  refine op_move rfl rfl ?_
  refine ops_guard_yes rfl rfl rfl ?_
  refine op_cmp_f rfl rfl rfl rfl (by first | (simp only [cmpP]; done) | (simp only [cmpP]; omega)) ?_
  refine op_pick_f rfl rfl rfl ?_
  refine op_move rfl rfl ?_
  refine ops_guard_yes rfl rfl rfl ?_
  refine op_move rfl rfl ?_
  refine ops_guard_yes rfl rfl rfl ?_
  refine op_cmp_f rfl rfl rfl rfl (by first | (simp only [cmpP]; done) | (simp only [cmpP]; omega)) ?_
  refine op_pick_f rfl rfl rfl ?_
  refine ops_nil ?_
  refine fin_code ?_
  refine run_cond_f rfl ?_
  refine run_skip ?_
  refine fin_code ?_
  refine run_seq ?_
  refine run_region rfl ?_
  refine op_build rfl rfl rfl (by first | (intro v hv; simp at hv; done) | (intro v hv; simp at hv; rcases hv with rfl | rfl | rfl | rfl | rfl | rfl | rfl <;> rfl) | (intro v hv; simp at hv; rcases hv with rfl | rfl | rfl | rfl | rfl | rfl <;> rfl) | (intro v hv; simp at hv; rcases hv with rfl | rfl | rfl | rfl | rfl <;> rfl) | (intro v hv; simp at hv; rcases hv with rfl | rfl | rfl | rfl <;> rfl) | (intro v hv; simp at hv; rcases hv with rfl | rfl | rfl <;> rfl) | (intro v hv; simp at hv; rcases hv with rfl | rfl <;> rfl) | (intro v hv; simp at hv; rcases hv with rfl; rfl)) rfl ?_
  (refine op_slice1 rfl rfl (by first | rfl | simp [Value.cells] | simp [Value.cells, nsV]) (by decide) ?_; intro _ _)
  refine op_assign rfl rfl ?_
  refine ops_nil ?_
  refine fin_code ?_
  refine run_seq ?_
  refine run_seq ?_
  refine run_region rfl ?_
  refine op_assign rfl rfl ?_
  refine ops_nil ?_
  refine fin_code ?_
  refine run_block ?_
  rename_i g0 _
  refine run_loop (α := Nat × Value × Hp) (fun x => [(0, .slice A n c), (1, .int .u8 b), (2, .int .u8 md), (3, .bool dam), (9, x.2.1), (10, .int .i64 (x.1 : Nat))]) (fun x => [x.2.2])
    (fun x => x.1 ≤ n ∧ Own 25 3 x.2.1 (wk md dam mv x.1).length ((wk md dam mv x.1).flatMap nsV) x.2.2 ∧ (∀ s ∈ wk md dam mv x.1, Bn (10 * x.1) md s) ∧ (wk md dam mv x.1).Nodup) (fun x => n - x.1)
    (0, .slice (some ⟨g0, 0, none⟩) 1 1, [⟨g0, .cells #[.int .u32 0, .int .u8 0, .bool false] 25 (0, 0)⟩]) ⟨Nat.zero_le _, own1, by rw [wk_zero]; intro s hs; rw [List.mem_singleton.1 hs]; exact ⟨Nat.le_refl _, Nat.zero_le _⟩, by rw [wk_zero]; simp⟩ (by (repeat (first | exact Sub.nil _ | (refine Sub.cons rfl ?_)))) (by (apply le_of_picks; (repeat (first | exact Picks.nil | (apply Picks.cons; (· (repeat (first | exact Pick.here | apply Pick.there)))) | apply Picks.empty)))) ?_
  rintro ⟨k0, va, lat⟩ ⟨hi, ho, hok, hnd⟩
  dsimp only at hi ho hok hnd ⊢
  have hlen := bn_few hnd hok (by omega) (by omega)
  obtain ⟨Aa, ca, rfl⟩ := ho.isSlice
  by_cases hin : k0 < n
  · have hil : k0 < v.length := by omega
    obtain ⟨g, o, rfl, hg, hc⟩ := hr.some (by simp [u64s]; omega)
    have hvi : (u64s v)[k0]? = some (.int .u64 (v[k0] : Nat)) := by simp [u64s, hil]
    have hvb := hb64 _ (List.getElem_mem hil)
    have hsc := wk_succ (md := md) (dam := dam) (v := mv) (i := k0) (by omega)
    rw [hmi k0 hil] at hsc
    have hax := hand _ hvb
    have hmlt : v[k0] % P < P := Nat.mod_lt _ (by omega)
    generalize v[k0] % P = y at *
    clear hand hmi hmask
    generalize v[k0] = x at *
    refine run_seq ?_
    refine run_seq ?_
    refine run_region rfl ?_
    refine op_move rfl rfl ?_
    refine op_move rfl rfl ?_
    refine op_len rfl rfl ?_
    refine op_cmp_t rfl rfl rfl rfl (by first | (simp only [cmpP]; done) | (simp only [cmpP]; omega)) ?_
    refine ops_nil ?_
    refine fin_code ?_
    refine run_cond_t rfl ?_
    refine run_skip ?_
    refine fin_code ?_
    refine run_seq ?_
    refine run_block ?_
    refine run_region rfl ?_
    refine op_move rfl rfl ?_
    refine op_move rfl rfl ?_
    refine op_move rfl rfl ?_
    refine op_index rfl rfl rfl (by omega) (by first | (rw [Int.toNat_natCast, Nat.mul_one, Nat.zero_add]) | (rw [Int.toNat_natCast, Nat.mul_one]) | (rw [Int.toNat_natCast, Nat.zero_add]) | (rw [Int.toNat_natCast]) | exact rfl) ?_
    (apply op_load; (· exact rfl); (· exact rfl); (· exact Rd.cellE hc hg (by simp [ids]) (by first | rfl | omega) hvi))
    refine op_move rfl rfl ?_
    (refine op_shlE rfl rfl rfl (by omega) (by assumption) ?_)
    refine op_sub rfl rfl rfl (by simp only [kLo, kHi]; omega) ?_
    (refine op_bitsE rfl rfl rfl rfl (by assumption) ?_)
    refine op_move rfl rfl ?_
    refine op_move rfl rfl ?_
    ((first | (apply op_call; (· exact rfl)) | apply op_call0); (· exact rfl)); (case' hc => (refine fun w hG hw => step_any w Aa (wk md dam mv k0).length ca md dam (wk md dam mv k0) y (10 * (k0 + 1)) rfl ?_ (fun s hs => by have := hok s hs; unfold Bn at this; omega) (by omega) (by omega) (by omega) (by omega))); (case hp => (repeat (first | exact Picks.nil | (apply Picks.cons; (· (repeat (first | exact Pick.here | apply Pick.there)))) | apply Picks.empty)))
    · exact ho.rd (At.item hG.now (by (repeat (first | exact Pick.here | apply Pick.there))))
    rw [← hsc]
    rintro ⟨v', lv'⟩ ⟨k1, k2, k3⟩
    dsimp only at k1 ⊢
    refine op_assign rfl rfl ?_
    refine ops_nil ?_
    refine fin_block ?_
    refine fin_code ?_
    refine run_region rfl ?_
    refine op_move rfl rfl ?_
    refine op_add rfl rfl rfl (by simp only [kLo, kHi]; omega) ?_
    refine op_assign rfl rfl ?_
    refine ops_nil ?_
    refine fin_round (k0 + 1, v', lv') (by dsimp only; omega) (by (repeat (first | exact Sub.nil _ | (refine Sub.cons rfl ?_)))) (by (apply le_of_picks; (repeat (first | exact Picks.nil | (apply Picks.cons; (· (repeat (first | exact Pick.here | apply Pick.there)))) | apply Picks.empty)))) ⟨by dsimp only; omega, k1, k2, k3⟩
  obtain rfl : k0 = n := by omega
  have hle := hinv.least b
  have hD : Dd dam (fun i k => bitN (mv.getD i 0) k) k0 b = Dd dam (Vb v) k0 b := D_congr (V := Vb mv) (L := b) hmask k0 b (Nat.le_refl _)
  rw [hD] at hle
  have hsm : ∀ s ∈ wk md dam mv k0, s.o < 4294967296 ∧ s.d + ad s.o b ≤ 255 := by
    intro s hs
    obtain ⟨a1, a2, _⟩ := hinv.snd s hs
    have a3 := D_lo (sw := dam) (V := fun i k => bitN (mv.getD i 0) k) k0 s.o
    unfold ad
    omega
  have hbd := D_bd (sw := dam) (V := Vb v) k0 b
  have hlp := (leastP_le b (wk md dam mv k0) (md + 1)).1
  generalize wk md dam mv k0 = l at *
  clear hinv hmask hand hmi hD
  refine run_seq ?_
  refine run_seq ?_
  refine run_region rfl ?_
  refine op_move rfl rfl ?_
  refine op_move rfl rfl ?_
  refine op_len rfl rfl ?_
  refine op_cmp_f rfl rfl rfl rfl (by first | (simp only [cmpP]; done) | (simp only [cmpP]; omega)) ?_
  refine ops_nil ?_
  refine fin_code ?_
  refine run_cond_f rfl ?_
  refine run_exit ?_
  refine fin_exit_code ?_
  refine fin_exit_inv ?_
  refine fin_exit_here ?_
  refine fin_code ?_
  refine run_seq ?_
  refine run_region rfl ?_
  refine op_move rfl rfl ?_
  refine op_move rfl rfl ?_
  refine op_conv rfl rfl (by simp only [kLo, kHi]; omega) ?_
  refine op_move rfl rfl ?_
  ((first | (apply op_call; (· exact rfl)) | apply op_call0); (· exact rfl)); (case' hc => (refine fun w hG hw => pdist_any w Aa l.length ca b md l rfl ?_ (by omega) (by omega) hsm (by omega))); (case hp => (repeat (first | exact Picks.nil | (apply Picks.cons; (· (repeat (first | exact Pick.here | apply Pick.there)))) | apply Picks.empty)))
  · exact ho.rd (At.item hG.now (by (repeat (first | exact Pick.here | apply Pick.there))))
  intro _ _
  refine op_move rfl rfl ?_
  refine op_extract rfl rfl rfl ?_
  refine op_extract rfl rfl rfl ?_
  refine op_assign rfl rfl ?_
  refine op_assign rfl rfl ?_
  refine ops_nil ?_
  refine fin_code ?_
  refine run_seq ?_
  refine run_region rfl ?_
  refine op_move rfl rfl ?_
  refine op_move rfl rfl ?_
  refine op_move rfl rfl ?_
  refine op_move rfl rfl ?_
  refine op_conv rfl rfl (by simp only [kLo, kHi]; omega) ?_
  refine op_move rfl rfl ?_
  ((first | (apply op_call; (· exact rfl)) | apply op_call0); (· exact rfl)); (case' hc => (refine fun w hG hw => vdist_any w A k0 c v dam b hv ?_ hb64 (by omega) (by omega))); (case hp => (repeat (first | exact Picks.nil | (apply Picks.cons; (· (repeat (first | exact Pick.here | apply Pick.there)))) | apply Picks.empty)))
  · exact hr.now hG
  intro _ _
  generalize Dd dam (Vb v) k0 b = want at *
  generalize leastP (md + 1) b l = d at *
  have T := fun w => told_any w d md want (by omega) (by omega) (by omega)
  rw [hle, decide_eq_true rfl] at T
  rw [hle]
  skip
  ((first | (apply op_call; (· exact rfl)) | apply op_call0); (· exact rfl); rotate_left 1; (· exact fun w hG hw => T w); rotate_right 1; (· (repeat (first | exact Picks.nil | (apply Picks.cons; (· (repeat (first | exact Pick.here | apply Pick.there)))) | apply Picks.empty))))
  intro _ _
  refine op_assign rfl rfl ?_
  refine ops_nil ?_
  refine fin_code ?_
  refine run_ret ?_
  refine fin_ret1 rfl rfl ?_
  intro w' g
  exact hR _ _ (post_of g () trivial rfl (by (apply le_of_picks; (repeat (first | exact Picks.nil | (apply Picks.cons; (· (repeat (first | exact Pick.here | apply Pick.there)))) | apply Picks.empty)))))
end Go.Proofs.Eng
