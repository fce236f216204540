/- A part of the proof: what functions of the program do, step by step. -/
import Derived.Test.YtiadbheejlhimaaXg
set_option linter.unusedVariables false
set_option linter.unusedSimpArgs false
namespace Go.Proofs.Eng
open Go.RowKit
class TStr3 (P : Program) (t : Nat) (t0 t1 t2 : outParam Nat) : Prop where
  hu : P.underlying t = some (.struct (P.fieldsOf t))
  hp : P.stoodInHeld t = false
  hm : P.eqGuardType P.depth t = false
  hf : (P.fieldsOf t).toList.map (fun f => (f.name == "_", f.type, f.offset)) = [(false, t0, 0), (false, t1, 1), (false, t2, 2)]
instance : TStr3 Try.prog 25 23 5 4 := ⟨by kernel_rfl, by kernel_rfl, by kernel_rfl, by kernel_rfl⟩
theorem run_eq3 {P : Program} {w : World} {t t0 t1 t2 : Nat} [c : TStr3 P t t0 t1 t2] [c0 : TOne P t0] [c1 : TOne P t1] [c2 : TOne P t2] [i0 : TInt P t0 .u32] [i1 : TInt P t1 .u8] [i2 : TBool P t2] {a b : Int} {e : Bool} :
    (Op.equalIn 10000 t (.agg #[.int .u32 a, .int .u8 b, .bool e]) (.agg #[.int .u32 a, .int .u8 b, .bool e])).run P w = .ok true w := by
  rw [show 10000 = 9999 + 1 from rfl, run_equalIn_agg w 9999 t _ _ c.hu c.hp]
  have hf := c.hf
  generalize (P.fieldsOf t).toList = fs at hf
  obtain ⟨f0, f1, f2, rfl⟩ : ∃ f0 f1 f2, fs = [f0, f1, f2] := by
    have hl := congrArg List.length hf
    rcases fs with _ | ⟨f0, _ | ⟨f1, _ | ⟨f2, _ | ⟨f3, r⟩⟩⟩⟩
    · simp at hl
    · simp at hl
    · simp at hl
    · exact ⟨f0, f1, f2, rfl⟩
    · simp at hl
  simp only [List.map_cons, List.map_nil, List.cons.injEq, Prod.mk.injEq, beq_eq_false_iff_ne, and_true] at hf
  obtain ⟨⟨n0, e0, o0⟩, ⟨n1, e1, o1⟩, n2, e2, o2⟩ := hf
  have p0 : (part f0.type #[Value.int .u32 a, .int .u8 b, .bool e] f0.offset).run P w = .ok (.int .u32 a) w := by
    rw [e0, o0]; exact run_part1 isAgg_one rfl
  have p1 : (part f1.type #[Value.int .u32 a, .int .u8 b, .bool e] f1.offset).run P w = .ok (.int .u8 b) w := by
    rw [e1, o1]; exact run_part1 isAgg_one rfl
  have p2 : (part f2.type #[Value.int .u32 a, .int .u8 b, .bool e] f2.offset).run P w = .ok (.bool e) w := by
    rw [e2, o2]; exact run_part1 isAgg_one rfl
  have q0 := run_equalIn_int (P := P) w 9998 f0.type .u32 .u32 a a (by rw [e0]; exact i0.h)
  have q1 := run_equalIn_int (P := P) w 9998 f1.type .u8 .u8 b b (by rw [e1]; exact i1.h)
  have q2 := run_equalIn_bool' (P := P) w 9998 f2.type e e (by rw [e2]; exact i2.h)
  simp only [Op.eqFields, if_pos n0, if_pos n1, if_pos n2, Sem.run_bind, p0, p1, p2, Result.andThen_ok, q0, q1, q2, beq_self_eq_true, Bool.not_true, Bool.false_eq_true, if_false, Sem.run_pure]
theorem val_nes3 {C : Ctx} {E : Env} {ty : Nat} {pos : String} {af : Array Edge} {d : Option Nat} {gg : Option (Nat × Bool)} {bt bt' t0 t1 t2 : Nat} {x y : Operand} [c : TStr3 C.P bt t0 t1 t2] [c0 : TOne C.P t0] [c1 : TOne C.P t1] [c2 : TOne C.P t2] [i0 : TInt C.P t0 .u32] [i1 : TInt C.P t1 .u8] [i2 : TBool C.P t2] {s : NS}
    (hx : ev E x = some (.agg (nsV s).toArray)) (hy : ev E y = some (.agg (nsV s).toArray)) : Val C E ⟨d, .binOp .neq bt x y bt', ty, pos, af, gg⟩ (.bool false) := ⟨fun a1 f w => by
    have e : (nsV s).toArray = #[.int .u32 s.o, .int .u8 s.d, .bool s.t] := rfl
    simp only [execOp, f.ev hx, f.ev hy, Sem.run_bind, run_eqGuard_agg w .neq bt x y _ _ c.hm, Result.andThen_ok, run_neq_struct, e, run_eq3, Sem.run_pure, Bool.not_true]⟩
def u32s (l : List Nat) : List Value := l.map fun (x : Nat) => .int .u32 x
/-- The places behind some vectors. -/
def wk (md : Nat) (dam : Bool) (v : List Nat) (i : Nat) : List NS := (v.take i).foldl (fun l x => stepP md dam x l) [⟨0, 0, false⟩]
theorem wk_zero (md : Nat) (dam : Bool) (v : List Nat) : wk md dam v 0 = [⟨0, 0, false⟩] := rfl
theorem wk_succ {md : Nat} {dam : Bool} {v : List Nat} {i : Nat} (h : i < v.length) : wk md dam v (i + 1) = stepP md dam v[i] (wk md dam v i) := by
  unfold wk
  rw [List.take_succ_eq_append_getElem h, List.foldl_append]
  rfl
theorem bn_few {l : List NS} {N md : Nat} (h : l.Nodup) (hb : ∀ s ∈ l, Bn N md s) (hN : N ≤ 3000) (hmd : md ≤ 8) : l.length ≤ 54018 := by
  have h1 := bn_len h hb
  have h2 : (N + 1) * (md + 1) * 2 ≤ 3001 * 9 * 2 := Nat.mul_le_mul_right _ (Nat.mul_le_mul (by omega) (by omega))
  omega
theorem own1 {g : Nat} : Own 25 3 (.slice (some ⟨g, 0, none⟩) 1 1) 1 (nsV ⟨0, 0, false⟩) [⟨g, .cells #[.int .u32 0, .int .u8 0, .bool false] 25 (0, 0)⟩] :=
  ⟨rfl, .inr ⟨g, 1, _, rfl, rfl, Nat.le_refl _, by decide, rfl, rfl⟩⟩
set_option maxRecDepth 100000 in
set_option maxHeartbeats 32000000 in
theorem lawPS_any (w : World) (A : Option Addr) (n c : Nat) (v : List Nat) (hv : v.length = n) (hn : n ≤ 9223372036854775807) (hr : Rd w w.heap.size A (u32s v)) (hb32 : ∀ x ∈ v, x < 4294967296) (b last md : Nat) (dam : Bool) (hb : b ≤ 255) (hlast : last < 4294967296) (hmd : md ≤ 255) :
    Calls Try.prog 3 #[.slice A n c, .int .u8 b, .int .u32 last, .int .u8 md, .bool dam] w (Post w ([] : List Hp).flatten (fun _ : Unit => .bool true) (fun _ => ([] : List Hp).flatten) (fun _ => True)) := by
  refine enter [] Try.func3 rfl rfl (At.nil w) (Le.refl _) ?_
  intro R hR
  by_cases h1 : 2147483647 < n
  · refine run_seq ?_
    refine run_region rfl ?_
    refine op_assign rfl rfl ?_
    refine ops_nil ?_
    refine fin_code ?_
    refine run_seq ?_
    refine run_seq ?_
    refine run_region rfl ?_
    refine op_move rfl rfl ?_
    refine op_len rfl rfl ?_
    refine op_cmp_t rfl rfl rfl rfl (by first | (simp only [cmpP]; done) | (simp only [cmpP]; omega)) ?_
    refine ops_nil ?_
    refine fin_code ?_
    refine run_cond_t rfl ?_
    refine run_seq ?_
    refine run_region rfl ?_
    refine op_assign rfl rfl ?_
    refine ops_nil ?_
    refine fin_code ?_
    refine run_ret ?_
    refine fin_ret_code ?_
    refine fin_ret1 rfl rfl ?_
    intro w' g
    exact hR _ _ (post_of g () trivial rfl (by (apply le_of_picks; (repeat (first | exact Picks.nil | (apply Picks.cons; (· (repeat (first | exact Pick.here | apply Pick.there)))) | apply Picks.empty)))))
  by_cases h2 : 20 < n
  · refine run_seq ?_
    refine run_region rfl ?_
    refine op_assign rfl rfl ?_
    refine ops_nil ?_
    refine fin_code ?_
    refine run_seq ?_
    refine run_seq ?_
    refine run_region rfl ?_
    refine op_move rfl rfl ?_
    refine op_len rfl rfl ?_
    refine op_cmp_f rfl rfl rfl rfl (by first | (simp only [cmpP]; done) | (simp only [cmpP]; omega)) ?_
    refine ops_nil ?_
    refine fin_code ?_
    refine run_cond_f rfl ?_
    refine run_skip ?_
    refine fin_code ?_
    refine run_seq ?_
    refine run_seq ?_
    refine run_region rfl ?_
    refine op_move rfl rfl ?_
    refine op_len rfl rfl ?_
    refine op_cmp_t rfl rfl rfl rfl (by first | (simp only [cmpP]; done) | (simp only [cmpP]; omega)) ?_
    refine op_move rfl rfl ?_
    refine ops_off1 rfl rfl ?_
    refine ops_off1 rfl rfl ?_
    refine op_pick_t rfl rfl rfl ?_
    refine op_move rfl rfl ?_
    refine ops_off1 rfl rfl ?_
    refine ops_off1 rfl rfl ?_
    refine op_pick_t rfl rfl rfl ?_
    refine ops_nil ?_
    refine fin_code ?_
    refine run_cond_t rfl ?_
    refine run_seq ?_
    refine run_region rfl ?_
    refine op_assign rfl rfl ?_
    refine ops_nil ?_
    refine fin_code ?_
    refine run_ret ?_
    refine fin_ret_code ?_
    refine fin_ret1 rfl rfl ?_
    intro w' g
    exact hR _ _ (post_of g () trivial rfl (by (apply le_of_picks; (repeat (first | exact Picks.nil | (apply Picks.cons; (· (repeat (first | exact Pick.here | apply Pick.there)))) | apply Picks.empty)))))
  by_cases h3 : 20 < b
  · refine run_seq ?_
    refine run_region rfl ?_
    refine op_assign rfl rfl ?_
    refine ops_nil ?_
    refine fin_code ?_
    refine run_seq ?_
    refine run_seq ?_
    refine run_region rfl ?_
    refine op_move rfl rfl ?_
    refine op_len rfl rfl ?_
    refine op_cmp_f rfl rfl rfl rfl (by first | (simp only [cmpP]; done) | (simp only [cmpP]; omega)) ?_
    refine ops_nil ?_
    refine fin_code ?_
    refine run_cond_f rfl ?_
    refine run_skip ?_
    refine fin_code ?_
    refine run_seq ?_
    refine run_seq ?_
    refine run_region rfl ?_
    refine op_move rfl rfl ?_
    refine op_len rfl rfl ?_
    refine op_cmp_f rfl rfl rfl rfl (by first | (simp only [cmpP]; done) | (simp only [cmpP]; omega)) ?_
    refine op_move rfl rfl ?_
    refine ops_guard_yes rfl rfl rfl ?_
    refine op_move rfl rfl ?_
    refine ops_guard_yes rfl rfl rfl ?_
    refine op_cmp_t rfl rfl rfl rfl (by first | (simp only [cmpP]; done) | (simp only [cmpP]; omega)) ?_
    refine op_pick_f rfl rfl rfl ?_
    refine op_move rfl rfl ?_
    refine ops_off1 rfl rfl ?_
    refine ops_off1 rfl rfl ?_
    refine op_pick_t rfl rfl rfl ?_
    refine ops_nil ?_
    refine fin_code ?_
    refine run_cond_t rfl ?_
    refine run_seq ?_
    refine run_region rfl ?_
    refine op_assign rfl rfl ?_
    refine ops_nil ?_
    refine fin_code ?_
    refine run_ret ?_
    refine fin_ret_code ?_
    refine fin_ret1 rfl rfl ?_
    intro w' g
    exact hR _ _ (post_of g () trivial rfl (by (apply le_of_picks; (repeat (first | exact Picks.nil | (apply Picks.cons; (· (repeat (first | exact Pick.here | apply Pick.there)))) | apply Picks.empty)))))
  by_cases h4 : 8 < md
  · refine run_seq ?_
    refine run_region rfl ?_
    refine op_assign rfl rfl ?_
    refine ops_nil ?_
    refine fin_code ?_
    refine run_seq ?_
    refine run_seq ?_
    refine run_region rfl ?_
    refine op_move rfl rfl ?_
    refine op_len rfl rfl ?_
    refine op_cmp_f rfl rfl rfl rfl (by first | (simp only [cmpP]; done) | (simp only [cmpP]; omega)) ?_
    refine ops_nil ?_
    refine fin_code ?_
    refine run_cond_f rfl ?_
    refine run_skip ?_
    refine fin_code ?_
    refine run_seq ?_
    refine run_seq ?_
    refine run_region rfl ?_
    refine op_move rfl rfl ?_
    refine op_len rfl rfl ?_
    refine op_cmp_f rfl rfl rfl rfl (by first | (simp only [cmpP]; done) | (simp only [cmpP]; omega)) ?_
    refine op_move rfl rfl ?_
    refine ops_guard_yes rfl rfl rfl ?_
    refine op_move rfl rfl ?_
    refine ops_guard_yes rfl rfl rfl ?_
    refine op_cmp_f rfl rfl rfl rfl (by first | (simp only [cmpP]; done) | (simp only [cmpP]; omega)) ?_
    refine op_pick_f rfl rfl rfl ?_
    refine op_move rfl rfl ?_
    refine ops_guard_yes rfl rfl rfl ?_
    refine op_move rfl rfl ?_
    refine ops_guard_yes rfl rfl rfl ?_
    refine op_cmp_t rfl rfl rfl rfl (by first | (simp only [cmpP]; done) | (simp only [cmpP]; omega)) ?_
    refine op_pick_f rfl rfl rfl ?_
    refine ops_nil ?_
    refine fin_code ?_
    refine run_cond_t rfl ?_
    refine run_seq ?_
    refine run_region rfl ?_
    refine op_assign rfl rfl ?_
    refine ops_nil ?_
    refine fin_code ?_
    refine run_ret ?_
    refine fin_ret_code ?_
    refine fin_ret1 rfl rfl ?_
    intro w' g
    exact hR _ _ (post_of g () trivial rfl (by (apply le_of_picks; (repeat (first | exact Picks.nil | (apply Picks.cons; (· (repeat (first | exact Pick.here | apply Pick.there)))) | apply Picks.empty)))))
  have hmax : (60000 : Nat) ≤ maxLen := by decide
  refine run_seq ?_
  refine run_region rfl ?_
  refine op_assign rfl rfl ?_
  refine ops_nil ?_
  refine fin_code ?_
  refine run_seq ?_
  refine run_seq ?_
  refine run_region rfl ?_
  refine op_move rfl rfl ?_
  refine op_len rfl rfl ?_
  refine op_cmp_f rfl rfl rfl rfl (by first | (simp only [cmpP]; done) | (simp only [cmpP]; omega)) ?_
  refine ops_nil ?_
  refine fin_code ?_
  refine run_cond_f rfl ?_
  refine run_skip ?_
  refine fin_code ?_
  refine run_seq ?_
  refine run_seq ?_
  refine run_region rfl ?_
  refine op_move rfl rfl ?_
  refine op_len rfl rfl ?_
  refine op_cmp_f rfl rfl rfl rfl (by first | (simp only [cmpP]; done) | (simp only [cmpP]; omega)) ?_
  refine op_move rfl rfl ?_
  refine ops_guard_yes rfl rfl rfl ?_
  refine op_move rfl rfl ?_
  refine ops_guard_yes rfl rfl rfl ?_
  refine op_cmp_f rfl rfl rfl rfl (by first | (simp only [cmpP]; done) | (simp only [cmpP]; omega)) ?_
  refine op_pick_f rfl rfl rfl ?_
  refine op_move rfl rfl ?_
  refine ops_guard_yes rfl rfl rfl ?_
  refine op_move rfl rfl ?_
  refine ops_guard_yes rfl rfl rfl ?_
  refine op_cmp_f rfl rfl rfl rfl (by first | (simp only [cmpP]; done) | (simp only [cmpP]; omega)) ?_
  refine op_pick_f rfl rfl rfl ?_
  refine ops_nil ?_
  refine fin_code ?_
  refine run_cond_f rfl ?_
  refine run_skip ?_
  refine fin_code ?_
  refine run_seq ?_
  refine run_region rfl ?_
  refine op_build rfl rfl rfl (by first | (intro v hv; simp at hv; done) | (intro v hv; simp at hv; rcases hv with rfl | rfl | rfl | rfl | rfl | rfl | rfl <;> rfl) | (intro v hv; simp at hv; rcases hv with rfl | rfl | rfl | rfl | rfl | rfl <;> rfl) | (intro v hv; simp at hv; rcases hv with rfl | rfl | rfl | rfl | rfl <;> rfl) | (intro v hv; simp at hv; rcases hv with rfl | rfl | rfl | rfl <;> rfl) | (intro v hv; simp at hv; rcases hv with rfl | rfl | rfl <;> rfl) | (intro v hv; simp at hv; rcases hv with rfl | rfl <;> rfl) | (intro v hv; simp at hv; rcases hv with rfl; rfl)) rfl ?_
  (refine op_slice1 rfl rfl (by first | rfl | simp [Value.cells] | simp [Value.cells, nsV]) (by decide) ?_; intro _ _)
  refine op_assign rfl rfl ?_
  refine ops_nil ?_
  refine fin_code ?_
  refine run_seq ?_
  refine run_seq ?_
  refine run_region rfl ?_
  refine op_assign rfl rfl ?_
  refine ops_nil ?_
  refine fin_code ?_
  refine run_block ?_
  rename_i g0 _
  refine run_loop (α := Nat × Value × Hp) (fun x => [(0, .slice A n c), (1, .int .u8 b), (2, .int .u32 last), (3, .int .u8 md), (4, .bool dam), (11, x.2.1), (12, .int .i64 (x.1 : Nat))]) (fun x => [x.2.2])
    (fun x => x.1 ≤ n ∧ Own 25 3 x.2.1 (wk md dam v x.1).length ((wk md dam v x.1).flatMap nsV) x.2.2 ∧ (∀ s ∈ wk md dam v x.1, Bn (10 * x.1) md s) ∧ (wk md dam v x.1).Nodup) (fun x => n - x.1)
    (0, .slice (some ⟨g0, 0, none⟩) 1 1, [⟨g0, .cells #[.int .u32 0, .int .u8 0, .bool false] 25 (0, 0)⟩]) ⟨Nat.zero_le _, own1, by rw [wk_zero]; intro s hs; rw [List.mem_singleton.1 hs]; exact ⟨Nat.le_refl _, Nat.zero_le _⟩, by rw [wk_zero]; simp⟩ (by (repeat (first | exact Sub.nil _ | (refine Sub.cons rfl ?_)))) (by (apply le_of_picks; (repeat (first | exact Picks.nil | (apply Picks.cons; (· (repeat (first | exact Pick.here | apply Pick.there)))) | apply Picks.empty)))) ?_
  rintro ⟨k0, va, lat⟩ ⟨hi, ho, hok, hnd⟩
  dsimp only at hi ho hok hnd ⊢
  have hlen := bn_few hnd hok (by omega) (by omega)
  obtain ⟨Aa, ca, rfl⟩ := ho.isSlice
  by_cases hin : k0 < n
  · have hil : k0 < v.length := by omega
    obtain ⟨g, o, rfl, hg, hc⟩ := hr.some (by simp [u32s]; omega)
    have hvi : (u32s v)[k0]? = some (.int .u32 (v[k0] : Nat)) := by simp [u32s, hil]
    have hvb := hb32 _ (List.getElem_mem hil)
    have hsc := wk_succ (md := md) (dam := dam) hil
    generalize v[k0] = x at *
    refine run_seq ?_
    refine run_seq ?_
    refine run_region rfl ?_
    refine op_move rfl rfl ?_
    refine op_move rfl rfl ?_
    refine op_len rfl rfl ?_
    refine op_cmp_t rfl rfl rfl rfl (by first | (simp only [cmpP]; done) | (simp only [cmpP]; omega)) ?_
    refine ops_nil ?_
    refine fin_code ?_
    refine run_cond_t rfl ?_
    refine run_skip ?_
    refine fin_code ?_
    refine run_seq ?_
    refine run_block ?_
    refine run_region rfl ?_
    refine op_move rfl rfl ?_
    refine op_move rfl rfl ?_
    refine op_move rfl rfl ?_
    refine op_index rfl rfl rfl (by omega) (by first | (rw [Int.toNat_natCast, Nat.mul_one, Nat.zero_add]) | (rw [Int.toNat_natCast, Nat.mul_one]) | (rw [Int.toNat_natCast, Nat.zero_add]) | (rw [Int.toNat_natCast]) | exact rfl) ?_
    (apply op_load; (· exact rfl); (· exact rfl); (· exact Rd.cellE hc hg (by simp [ids]) (by first | rfl | omega) hvi))
    refine op_conv rfl rfl (by simp only [kLo, kHi]; omega) ?_
    refine op_move rfl rfl ?_
    refine op_move rfl rfl ?_
    ((first | (apply op_call; (· exact rfl)) | apply op_call0); (· exact rfl)); (case' hc => (refine fun w hG hw => step_any w Aa (wk md dam v k0).length ca md dam (wk md dam v k0) x (10 * (k0 + 1)) rfl ?_ (fun s hs => by have := hok s hs; unfold Bn at this; omega) (by omega) (by omega) (by omega) (by omega))); (case hp => (repeat (first | exact Picks.nil | (apply Picks.cons; (· (repeat (first | exact Pick.here | apply Pick.there)))) | apply Picks.empty)))
    · exact ho.rd (At.item hG.now (by (repeat (first | exact Pick.here | apply Pick.there))))
    rw [← hsc]
    rintro ⟨v', lv'⟩ ⟨k1, k2, k3⟩
    dsimp only at k1 ⊢
    refine op_assign rfl rfl ?_
    refine ops_nil ?_
    refine fin_block ?_
    refine fin_code ?_
    refine run_region rfl ?_
    refine op_move rfl rfl ?_
    refine op_add rfl rfl rfl (by simp only [kLo, kHi]; omega) ?_
    refine op_assign rfl rfl ?_
    refine ops_nil ?_
    refine fin_round (k0 + 1, v', lv') (by dsimp only; omega) (by (repeat (first | exact Sub.nil _ | (refine Sub.cons rfl ?_)))) (by (apply le_of_picks; (repeat (first | exact Picks.nil | (apply Picks.cons; (· (repeat (first | exact Pick.here | apply Pick.there)))) | apply Picks.empty)))) ⟨by dsimp only; omega, k1, k2, k3⟩
  obtain rfl : k0 = n := by omega
  generalize wk md dam v k0 = l at *
  refine run_seq ?_
  refine run_seq ?_
  refine run_region rfl ?_
  refine op_move rfl rfl ?_
  refine op_move rfl rfl ?_
  refine op_len rfl rfl ?_
  refine op_cmp_f rfl rfl rfl rfl (by first | (simp only [cmpP]; done) | (simp only [cmpP]; omega)) ?_
  refine ops_nil ?_
  refine fin_code ?_
  refine run_cond_f rfl ?_
  refine run_exit ?_
  refine fin_exit_code ?_
  refine fin_exit_inv ?_
  refine fin_exit_here ?_
  refine fin_code ?_
  refine run_seq ?_
  refine run_region rfl ?_
  refine op_assign rfl rfl ?_
  refine ops_nil ?_
  refine fin_code ?_
  refine run_seq ?_
  refine run_seq ?_
  refine run_region rfl ?_
  refine op_assign rfl rfl ?_
  refine ops_nil ?_
  refine fin_code ?_
  refine run_block ?_
  refine run_loop (α := Nat × Value × Hp) (fun x => [(1, .int .u8 b), (2, .int .u32 last), (3, .int .u8 md), (4, .bool dam), (11, .slice Aa l.length ca), (13, x.2.1), (14, .int .i64 (x.1 : Nat))]) (fun x => [lat, x.2.2])
    (fun x => x.1 ≤ l.length ∧ Own 25 3 x.2.1 x.1 (((l.take x.1).map (sh b)).flatMap nsV) x.2.2) (fun x => l.length - x.1)
    (0, .slice none 0 0, []) ⟨Nat.zero_le _, Own.nil _ _⟩ (by (repeat (first | exact Sub.nil _ | (refine Sub.cons rfl ?_)))) (by (apply le_of_picks; (repeat (first | exact Picks.nil | (apply Picks.cons; (· (repeat (first | exact Pick.here | apply Pick.there)))) | apply Picks.empty)))) ?_
  rintro ⟨i, vf, lf⟩ ⟨hj, hof⟩
  dsimp only at hj hof ⊢
  by_cases hil : i < l.length
  · obtain ⟨g, cap, cur, hv1, hl1, _, _, hz, hcur, _⟩ := ho.openN (by omega)
    simp only [Value.slice.injEq] at hv1
    obtain ⟨rfl, _, rfl⟩ := hv1
    subst hl1
    have hsi := hok _ (List.getElem_mem hil)
    unfold Bn at hsi
    have htk : ((l.take (i + 1)).map (sh b)).flatMap nsV = ((l.take i).map (sh b)).flatMap nsV ++ nsV (sh b l[i]) := by
      rw [List.take_succ_eq_append_getElem hil, List.map_append, List.flatMap_append]
      simp
    refine run_seq ?_
    refine run_seq ?_
    refine run_region rfl ?_
    refine op_move rfl rfl ?_
    refine op_move rfl rfl ?_
    refine op_len rfl rfl ?_
    refine op_cmp_t rfl rfl rfl rfl (by first | (simp only [cmpP]; done) | (simp only [cmpP]; omega)) ?_
    refine ops_nil ?_
    refine fin_code ?_
    refine run_cond_t rfl ?_
    refine run_skip ?_
    refine fin_code ?_
    refine run_seq ?_
    refine run_block ?_
    refine run_region rfl ?_
    refine op_move rfl rfl ?_
    refine op_move rfl rfl ?_
    refine op_move rfl rfl ?_
    refine op_index rfl rfl rfl (by omega) (by first | (rw [Int.toNat_natCast, Nat.mul_one, Nat.zero_add]) | (rw [Int.toNat_natCast, Nat.mul_one]) | (rw [Int.toNat_natCast, Nat.zero_add]) | (rw [Int.toNat_natCast]) | exact rfl) ?_
    (refine op_loadA (vs := nsV l[i]) rfl rfl rfl (fun k u hu => cell_of_has (by (repeat (first | exact Has.here | apply Has.there))) (hcur _ _ (flat_get nsV 3 (fun _ => rfl) l i hil k u hu))) ?_)
    refine op_move rfl rfl ?_
    refine op_conv rfl rfl (by simp only [kLo, kHi]; omega) ?_
    ((first | (apply op_call; (· exact rfl)) | apply op_call0); (· exact rfl); rotate_left 1; (· exact fun w hG hw => moved_any w l[i] b (by omega) (by omega)); rotate_right 1; (· (repeat (first | exact Picks.nil | (apply Picks.cons; (· (repeat (first | exact Pick.here | apply Pick.there)))) | apply Picks.empty))))
    intro _ _
    (refine op_slice1 rfl rfl (by first | rfl | simp [Value.cells] | simp [Value.cells, nsV]) (by decide) ?_; intro _ _)
    (apply op_append1; (· exact rfl); (· exact rfl); (· exact rfl); (· exact hof); (· (repeat (first | exact Pick.here | apply Pick.there))); (· (repeat (first | exact Has.here | apply Has.there))); (· exact rfl); (· first | exact onesC rfl | (intro u hu; simp [Value.cells, nsV] at hu; rcases hu with rfl | rfl | rfl <;> rfl)); (· omega); (· omega); (· exact rfl))
    intro v' l' ho'
    refine op_assign rfl rfl ?_
    refine ops_nil ?_
    refine fin_block ?_
    refine fin_code ?_
    refine run_region rfl ?_
    refine op_move rfl rfl ?_
    refine op_add rfl rfl rfl (by simp only [kLo, kHi]; omega) ?_
    refine op_assign rfl rfl ?_
    refine ops_nil ?_
    refine fin_round (i + 1, v', l') (by dsimp only; omega) (by (repeat (first | exact Sub.nil _ | (refine Sub.cons rfl ?_)))) (by (apply le_of_picks; (repeat (first | exact Picks.nil | (apply Picks.cons; (· (repeat (first | exact Pick.here | apply Pick.there)))) | apply Picks.empty)))) ⟨by dsimp only; omega, ?_⟩
    dsimp only
    rw [htk]
    simpa [Value.cells, nsV] using ho'
  obtain rfl : i = l.length := by omega
  rw [List.take_length] at hof
  obtain ⟨Af, cf, rfl⟩ := hof.isSlice
  have h2b : 2 ^ b ≤ 2 ^ 20 := Nat.pow_le_pow_right (by omega) (by omega)
  have hlb : last * 2 ^ b ≤ 4294967295 * 1048576 := Nat.mul_le_mul (by omega) h2b
  have hsl : IntKind.u64.wrap ((last : Int) * 2 ^ (min (b : Int).toNat IntKind.u64.bits)) = ((last * 2 ^ b : Nat) : Int) := by
    rw [Int.toNat_natCast, show min b IntKind.u64.bits = b by simp [IntKind.bits]; omega]
    rw [show ((last : Int) * 2 ^ b) = ((last * 2 ^ b : Nat) : Int) by rw [Int.natCast_mul, Int.natCast_pow]; rfl]
    generalize last * 2 ^ b = P at *
    exact wrap_in (by simp only [kLo]; omega) (by simp only [kHi]; omega)
  have hshp := stepP_sh md dam last b l
  have hbn : ∀ s ∈ l.map (sh b), s.o + 2 + md ≤ 260 ∧ s.d ≤ md := by
    intro s hs
    obtain ⟨y, hy, rfl⟩ := List.mem_map.1 hs
    have := hok y hy
    unfold Bn at this
    unfold sh
    dsimp only
    omega
  have hne := fun (h : 0 < md) => stepP_ne (md := md) (dam := dam) (scv := last) (s := ⟨0, 0, false⟩) h
  generalize last * 2 ^ b = lastb at *
  clear h2b
  refine run_seq ?_
  refine run_seq ?_
  refine run_region rfl ?_
  refine op_move rfl rfl ?_
  refine op_move rfl rfl ?_
  refine op_len rfl rfl ?_
  refine op_cmp_f rfl rfl rfl rfl (by first | (simp only [cmpP]; done) | (simp only [cmpP]; omega)) ?_
  refine ops_nil ?_
  refine fin_code ?_
  refine run_cond_f rfl ?_
  refine run_exit ?_
  refine fin_exit_code ?_
  refine fin_exit_inv ?_
  refine fin_exit_here ?_
  refine fin_code ?_
  refine run_seq ?_
  refine run_region rfl ?_
  refine op_move rfl rfl ?_
  refine op_move rfl rfl ?_
  refine op_conv rfl rfl (by simp only [kLo, kHi]; omega) ?_
  refine op_move rfl rfl ?_
  refine op_move rfl rfl ?_
  ((first | (apply op_call; (· exact rfl)) | apply op_call0); (· exact rfl)); (case' hc => (refine fun w hG hw => step_any w Aa l.length ca md dam l last 260 rfl ?_ (fun s hs => by have := hok s hs; unfold Bn at this; omega) (by omega) (by omega) (by omega) (by omega))); (case hp => (repeat (first | exact Picks.nil | (apply Picks.cons; (· (repeat (first | exact Pick.here | apply Pick.there)))) | apply Picks.empty)))
  · exact ho.rd (At.item hG.now (by (repeat (first | exact Pick.here | apply Pick.there))))
  rintro ⟨va, lva⟩ ⟨k1, k2, k3⟩
  dsimp only at k1 ⊢
  refine op_assign rfl rfl ?_
  refine ops_nil ?_
  refine fin_code ?_
  refine run_seq ?_
  refine run_region rfl ?_
  refine op_move rfl rfl ?_
  refine op_move rfl rfl ?_
  refine op_conv rfl rfl (by simp only [kLo, kHi]; omega) ?_
  refine op_move rfl rfl ?_
  (refine op_shlE rfl rfl rfl (by omega) (by assumption) ?_)
  refine op_move rfl rfl ?_
  refine op_move rfl rfl ?_
  ((first | (apply op_call; (· exact rfl)) | apply op_call0); (· exact rfl)); (case' hc => (refine fun w hG hw => step_any w Af l.length cf md dam (l.map (sh b)) lastb 260 (by simp) ?_ hbn (by omega) (by omega) (by omega) (by omega))); (case hp => (repeat (first | exact Picks.nil | (apply Picks.cons; (· (repeat (first | exact Pick.here | apply Pick.there)))) | apply Picks.empty)))
  · exact hof.rd (At.item hG.now (by (repeat (first | exact Pick.here | apply Pick.there))))
  rintro ⟨vb, lvb⟩ ⟨q1, q2, q3⟩
  dsimp only at q1 ⊢
  rw [hshp, List.length_map] at q1
  clear hshp q2 q3
  have hla := bn_few k3 k2 (by omega) (by omega)
  generalize stepP md dam last l = la at *
  obtain ⟨A3, c3, rfl⟩ := k1.isSlice
  obtain ⟨A4, c4, rfl⟩ := q1.isSlice
  refine op_assign rfl rfl ?_
  refine ops_nil ?_
  refine fin_code ?_
  refine run_seq ?_
  refine run_seq ?_
  refine run_region rfl ?_
  refine op_move rfl rfl ?_
  refine op_len rfl rfl ?_
  refine op_move rfl rfl ?_
  refine op_len rfl rfl ?_
  (refine op_cmp_f rfl rfl rfl rfl (fun h => h rfl) ?_)
  refine ops_nil ?_
  refine fin_code ?_
  refine run_cond_f rfl ?_
  refine run_skip ?_
  refine fin_code ?_
  refine run_seq ?_
  refine run_seq ?_
  refine run_region rfl ?_
  refine op_assign rfl rfl ?_
  refine ops_nil ?_
  refine fin_code ?_
  refine run_block ?_
  refine run_loop (α := Nat) (fun x => [(1, .int .u8 b), (2, .int .u32 last), (3, .int .u8 md), (4, .bool dam), (15, .slice A3 la.length c3), (16, .slice A4 la.length c4), (17, .int .i64 (x : Nat))]) (fun _ => [lva, lvb]) (fun x => x ≤ la.length) (fun x => la.length - x) 0 (Nat.zero_le _) (by (repeat (first | exact Sub.nil _ | (refine Sub.cons rfl ?_)))) (by (apply le_of_picks; (repeat (first | exact Picks.nil | (apply Picks.cons; (· (repeat (first | exact Pick.here | apply Pick.there)))) | apply Picks.empty)))) ?_
  rintro i hi2
  by_cases hil : i < la.length
  · obtain ⟨ga, capa, cura, hv1, hl1, _, _, hza, hcura, _⟩ := k1.openN (by omega)
    simp only [Value.slice.injEq] at hv1
    obtain ⟨rfl, _, rfl⟩ := hv1
    subst hl1
    obtain ⟨gb, capb, curb, hv1, hl1, _, _, hzb, hcurb, _⟩ := q1.openN (by omega)
    simp only [Value.slice.injEq] at hv1
    obtain ⟨rfl, _, rfl⟩ := hv1
    subst hl1
    have hsi := k2 _ (List.getElem_mem hil)
    unfold Bn at hsi
    have hgetb : ∀ (k : Nat) u, (nsV (sh b la[i]))[k]? = some u → ((la.map (sh b)).flatMap nsV)[i * 3 + k]? = some u := by
      intro k u hu
      refine flat_get nsV 3 (fun _ => rfl) _ i (by simpa using hil) k u ?_
      rw [List.getElem_map]
      exact hu
    refine run_seq ?_
    refine run_seq ?_
    refine run_region rfl ?_
    refine op_move rfl rfl ?_
    refine op_move rfl rfl ?_
    refine op_len rfl rfl ?_
    refine op_cmp_t rfl rfl rfl rfl (by first | (simp only [cmpP]; done) | (simp only [cmpP]; omega)) ?_
    refine ops_nil ?_
    refine fin_code ?_
    refine run_cond_t rfl ?_
    refine run_skip ?_
    refine fin_code ?_
    refine run_seq ?_
    refine run_block ?_
    refine run_seq ?_
    refine run_drawS [[⟨ga, .cells cura 25 (0, 0)⟩], [⟨gb, .cells curb 25 (0, 0)⟩]] (by kernel_rfl) ?_
    refine dr_stab 0 rfl rfl (Val.s (val_move rfl)) (by decide +kernel) rfl rfl ?_
    refine dr_stab 1 rfl rfl (Val.s (val_move rfl)) (by decide +kernel) rfl rfl ?_
    refine dr_stab 2 rfl rfl (Val.s (val_index rfl rfl (by omega) (by first | (rw [Int.toNat_natCast, Nat.mul_one, Nat.zero_add]) | (rw [Int.toNat_natCast, Nat.mul_one]) | (rw [Int.toNat_natCast, Nat.zero_add]) | (rw [Int.toNat_natCast]) | exact rfl))) (by decide +kernel) rfl rfl ?_
    (apply dr_stab 3; (· exact rfl); (· exact rfl); (· apply ValAt.s; (first | (apply val_load; (· exact rfl); (· apply cell_of_has; (· (repeat (first | exact Has.here | apply Has.there))); (· first | exact rfl))) | (refine val_loadA (vs := nsV la[i]) rfl rfl (fun k u hu => cell_of_has (by (repeat (first | exact Has.here | apply Has.there))) (hcura _ _ (flat_get nsV 3 (fun _ => rfl) la i hil k u hu)))) | (refine val_loadA (vs := nsV (sh b la[i])) rfl rfl (fun k u hu => cell_of_has (by (repeat (first | exact Has.here | apply Has.there))) (hcurb _ _ (hgetb k u hu)))))); (· decide +kernel); (· exact rfl); (· exact rfl))
    refine dr_stab 4 rfl rfl (Val.s (val_move rfl)) (by decide +kernel) rfl rfl ?_
    refine dr_stab 5 rfl rfl (Val.s (val_conv rfl (by simp only [kLo, kHi]; omega))) (by decide +kernel) rfl rfl ?_
    refine dr_stab 7 rfl rfl (Val.s (val_move rfl)) (by decide +kernel) rfl rfl ?_
    refine dr_stab 8 rfl rfl (Val.s (val_move rfl)) (by decide +kernel) rfl rfl ?_
    refine dr_stab 9 rfl rfl (Val.s (val_index rfl rfl (by omega) (by first | (rw [Int.toNat_natCast, Nat.mul_one, Nat.zero_add]) | (rw [Int.toNat_natCast, Nat.mul_one]) | (rw [Int.toNat_natCast, Nat.zero_add]) | (rw [Int.toNat_natCast]) | exact rfl))) (by decide +kernel) rfl rfl ?_
    (apply dr_stab 10; (· exact rfl); (· exact rfl); (· apply ValAt.s; (first | (apply val_load; (· exact rfl); (· apply cell_of_has; (· (repeat (first | exact Has.here | apply Has.there))); (· first | exact rfl))) | (refine val_loadA (vs := nsV la[i]) rfl rfl (fun k u hu => cell_of_has (by (repeat (first | exact Has.here | apply Has.there))) (hcura _ _ (flat_get nsV 3 (fun _ => rfl) la i hil k u hu)))) | (refine val_loadA (vs := nsV (sh b la[i])) rfl rfl (fun k u hu => cell_of_has (by (repeat (first | exact Has.here | apply Has.there))) (hcurb _ _ (hgetb k u hu)))))); (· decide +kernel); (· exact rfl); (· exact rfl))
    (refine dr_one 6 rfl (by decide +kernel) (by (apply le_of_picks; (repeat (first | exact Picks.nil | (apply Picks.cons; (· (repeat (first | exact Pick.here | apply Pick.there)))) | apply Picks.empty)))) ?_)
    ((first | (apply op_call; (· exact rfl)) | apply op_call0); (· exact rfl); rotate_left 1; (· exact fun w hG hw => moved_any w la[i] b (by omega) (by omega)); rotate_right 1; (· (repeat (first | exact Picks.nil | (apply Picks.cons; (· (repeat (first | exact Pick.here | apply Pick.there)))) | apply Picks.empty))))
    intro _ _
    refine ops_nil ?_
    refine fin_draw ?_
    (apply dr_stab 11; (· exact rfl); (· exact rfl); (· apply Val.s; first | first | exact val_nes3 rfl rfl); (· decide +kernel); (· exact rfl); (· exact rfl))
    (refine dr_done (by decide +kernel) (by (apply le_of_picks; (repeat (first | exact Picks.nil | (apply Picks.cons; (· (repeat (first | exact Pick.here | apply Pick.there)))) | apply Picks.empty)))) ?_)
    refine fin_code ?_
    refine run_cond_f rfl ?_
    refine run_skip ?_
    refine fin_block ?_
    refine fin_code ?_
    refine run_region rfl ?_
    refine op_move rfl rfl ?_
    refine op_add rfl rfl rfl (by simp only [kLo, kHi]; omega) ?_
    refine op_assign rfl rfl ?_
    refine ops_nil ?_
    refine fin_round (i + 1) (by omega) (by (repeat (first | exact Sub.nil _ | (refine Sub.cons rfl ?_)))) (by (apply le_of_picks; (repeat (first | exact Picks.nil | (apply Picks.cons; (· (repeat (first | exact Pick.here | apply Pick.there)))) | apply Picks.empty)))) (by omega)
  by_cases hm0 : md = 0
  · subst hm0
    refine run_seq ?_
    refine run_seq ?_
    refine run_region rfl ?_
    refine op_move rfl rfl ?_
    refine op_move rfl rfl ?_
    refine op_len rfl rfl ?_
    refine op_cmp_f rfl rfl rfl rfl (by first | (simp only [cmpP]; done) | (simp only [cmpP]; omega)) ?_
    refine ops_nil ?_
    refine fin_code ?_
    refine run_cond_f rfl ?_
    refine run_exit ?_
    refine fin_exit_code ?_
    refine fin_exit_inv ?_
    refine fin_exit_here ?_
    refine fin_code ?_
    refine run_seq ?_
    refine run_region rfl ?_
    refine op_move rfl rfl ?_
    refine op_cmp_t rfl rfl rfl rfl (by first | (simp only [cmpP]; done) | (simp only [cmpP]; omega)) ?_
    refine op_move rfl rfl ?_
    refine ops_off1 rfl rfl ?_
    refine ops_off1 rfl rfl ?_
    refine ops_off1 rfl rfl ?_
    refine ops_off1 rfl rfl ?_
    refine ops_off1 rfl rfl ?_
    refine ops_off1 rfl rfl ?_
    refine ops_off1 rfl rfl ?_
    refine ops_off1 rfl rfl ?_
    refine ops_off1 rfl rfl ?_
    refine op_pick_t rfl rfl rfl ?_
    refine op_assign rfl rfl ?_
    refine ops_nil ?_
    refine fin_code ?_
    refine run_ret ?_
    refine fin_ret1 rfl rfl ?_
    intro w' g
    exact hR _ _ (post_of g () trivial rfl (by (apply le_of_picks; (repeat (first | exact Picks.nil | (apply Picks.cons; (· (repeat (first | exact Pick.here | apply Pick.there)))) | apply Picks.empty)))))
  · have hne := hne (by omega)
    refine run_seq ?_
    refine run_seq ?_
    refine run_region rfl ?_
    refine op_move rfl rfl ?_
    refine op_move rfl rfl ?_
    refine op_len rfl rfl ?_
    refine op_cmp_f rfl rfl rfl rfl (by first | (simp only [cmpP]; done) | (simp only [cmpP]; omega)) ?_
    refine ops_nil ?_
    refine fin_code ?_
    refine run_cond_f rfl ?_
    refine run_exit ?_
    refine fin_exit_code ?_
    refine fin_exit_inv ?_
    refine fin_exit_here ?_
    refine fin_code ?_
    refine run_seq ?_
    refine run_region rfl ?_
    refine op_move rfl rfl ?_
    refine op_cmp_f rfl rfl rfl rfl (by first | (simp only [cmpP]; done) | (simp only [cmpP]; omega)) ?_
    refine op_move rfl rfl ?_
    refine ops_guard_yes rfl rfl rfl ?_
    refine op_build rfl rfl rfl (by first | (intro v hv; simp at hv; done) | (intro v hv; simp at hv; rcases hv with rfl | rfl | rfl | rfl | rfl | rfl | rfl <;> rfl) | (intro v hv; simp at hv; rcases hv with rfl | rfl | rfl | rfl | rfl | rfl <;> rfl) | (intro v hv; simp at hv; rcases hv with rfl | rfl | rfl | rfl | rfl <;> rfl) | (intro v hv; simp at hv; rcases hv with rfl | rfl | rfl | rfl <;> rfl) | (intro v hv; simp at hv; rcases hv with rfl | rfl | rfl <;> rfl) | (intro v hv; simp at hv; rcases hv with rfl | rfl <;> rfl) | (intro v hv; simp at hv; rcases hv with rfl; rfl)) rfl ?_
    refine ops_guard_yes rfl rfl rfl ?_
    (refine op_slice1 rfl rfl (by first | rfl | simp [Value.cells] | simp [Value.cells, nsV]) (by decide) ?_; intro _ _)
    refine ops_guard_yes rfl rfl rfl ?_
    refine op_move rfl rfl ?_
    refine ops_guard_yes rfl rfl rfl ?_
    refine op_conv rfl rfl (by simp only [kLo, kHi]; omega) ?_
    refine ops_guard_yes rfl rfl rfl ?_
    refine op_move rfl rfl ?_
    refine ops_guard_yes rfl rfl rfl ?_
    refine op_move rfl rfl ?_
    refine ops_guard_yes rfl rfl rfl ?_
    ((first | (apply op_call; (· exact rfl)) | apply op_call0); (· exact rfl)); (case' hc => (refine fun w hG hw => step_any w _ 1 1 md dam [⟨0, 0, false⟩] last 260 rfl ?_ (fun s hs => by rw [List.mem_singleton.1 hs]; dsimp only; omega) (by omega) (by omega) (by omega) (by omega))); (case hp => (repeat (first | exact Picks.nil | (apply Picks.cons; (· (repeat (first | exact Pick.here | apply Pick.there)))) | apply Picks.empty)))
    · exact own1.rd (At.item hG.now (by (repeat (first | exact Pick.here | apply Pick.there))))
    rintro ⟨vz, lz⟩ ⟨z1, z2, z3⟩
    dsimp only at z1 ⊢
    obtain ⟨A5, c5, rfl⟩ := z1.isSlice
    refine ops_guard_yes rfl rfl rfl ?_
    refine op_len rfl rfl ?_
    refine ops_guard_yes rfl rfl rfl ?_
    refine op_cmp_t rfl rfl rfl rfl (by first | (simp only [cmpP]; done) | (simp only [cmpP]; omega)) ?_
    refine op_pick_f rfl rfl rfl ?_
    refine op_assign rfl rfl ?_
    refine ops_nil ?_
    refine fin_code ?_
    refine run_ret ?_
    refine fin_ret1 rfl rfl ?_
    intro w' g
    exact hR _ _ (post_of g () trivial rfl (by (apply le_of_picks; (repeat (first | exact Picks.nil | (apply Picks.cons; (· (repeat (first | exact Pick.here | apply Pick.there)))) | apply Picks.empty)))))
end Go.Proofs.Eng
