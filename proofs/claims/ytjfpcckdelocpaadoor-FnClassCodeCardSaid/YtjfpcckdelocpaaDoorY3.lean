/- A part of the proof: what functions of the program do, step by step. -/
import Derived.Test.YtjfpcckdelocpaaDoorY2
import Derived.Test.YtjfpcckdelocpaaDoorEngT4
set_option linter.unusedVariables false
set_option linter.unusedSimpArgs false
namespace Go.Proofs.Eng
open Go.RowKit
theorem val_sliceLowO {C : Ctx} {E : Env} {ty : Nat} {pos : String} {af : Array Edge} {dd : Option Nat} {gg : Option (Nat × Bool)} {x y : Operand} {t e size bytes : Nat} {z : Value} [c : TSlice C.P t e size bytes z] {g o len cap : Nat} (l : Nat) {ik : IntKind} {i : Int}
    (hx : ev E x = some (.slice (some ⟨g, o, none⟩) len cap)) (hy : ev E y = some (.int ik i)) (hi : i = (l : Nat)) (hb : l ≤ len) {r : Value} (hr : Value.slice (some (if cap = l then ⟨g, o, none⟩ else ⟨g, o + l * size, none⟩)) (len - l) (cap - l) = r) :
    Val C E ⟨dd, .slice t x (some y) none none, ty, pos, af, gg⟩ r := ⟨fun a f w => by
    subst hi
    subst hr
    obtain ⟨ii, hi, hz0, hz1, hz2⟩ := infoParts c.h2
    have h1 : (l : Int) ≤ len := by omega
    have e : (if cap = l then some (⟨g, o, none⟩ : Addr) else (some (⟨g, o, none⟩ : Addr)).map (·.add (l * size))) = some (if cap = l then ⟨g, o, none⟩ else ⟨g, o + l * size, none⟩) := by
      split
      · rfl
      · simp [Addr.add]
    rw [← e]
    simp [execOp, f.ev hx, f.ev hy, Instr.sliceAt, Instr.slice, Instr.sliceBounds, Instr.sliceBound, asIntOf, underlying, c.h1, sizeOf, typeInfo, hi, hz1, h1, hb]⟩
theorem op_sliceLowO {C : Ctx} {ks : List Kont} {E : Env} {Ls : List Hp} {ops : Array Oper} {rest : List Oper} {ty : Nat} {pos : String} {af : Array Edge} {d : Nat} {x y : Operand} {t e size bytes : Nat} {z : Value} [c : TSlice C.P t e size bytes z] {g o len cap : Nat} (l : Nat) {ik : IntKind} {i : Int}
    (hn : Nat.blt d C.fn.ntmps = true) (hx : ev E x = some (.slice (some ⟨g, o, none⟩) len cap)) (hy : ev E y = some (.int ik i)) (hi : i = (l : Nat)) (hb : l ≤ len) {r : Value} (hr : Value.slice (some (if cap = l then ⟨g, o, none⟩ else ⟨g, o + l * size, none⟩)) (len - l) (cap - l) = r)
    (k : Ops C ops rest ks ((d, r) :: E) Ls) : Ops C ops (⟨some d, .slice t x (some y) none none, ty, pos, af, none⟩ :: rest) ks E Ls := op_val hn (val_sliceLowO l hx hy hi hb hr) k
/-- The compiler. -/
def coB (q sz : Nat) (v po sq sv : Value) (g1 g2 : Nat) : Hp := [⟨q, .cells #[.int .u64 sz, v, po, sq, sv, .slice (some ⟨g1, 0, none⟩) 4 4, .slice (some ⟨g2, 0, none⟩) 4 4] 126 (0, 0)⟩]
theorem restP_snoc (M : List Pool) (x : Pool) (r : Nat) : restP (M ++ [x]) r = if r = 16 then .slice (some ⟨x.1, 90, none⟩) 0 0 else .slice (some ⟨x.1, r * 6, none⟩) (16 - r) (16 - r) := by
  unfold restP
  simp
theorem restP_one (M : List Pool) (r : Nat) : (restP M r).oneCell' = true := by
  unfold restP
  split
  · rfl
  · split <;> rfl
theorem zeros_pool2 : (List.replicate 16 (Value.agg #[.int .i64 0, .int .u64 0, .int .u64 0, .int .u64 0, .int .u8 0, .int .u8 0]).cells.toList).flatten.toArray = (encI (List.replicate 16 zeroIn)).toArray := by
  rw [show (Value.agg #[.int .i64 0, .int .u64 0, .int .u64 0, .int .u64 0, .int .u8 0, .int .u8 0]).cells = (inCells zeroIn).toArray by simp [Value.cells, inCells, zeroIn]]
  rfl
theorem zeros_pool : (Array.range (16 * 6)).map (fun i => (Value.agg #[.int .i64 0, .int .u64 0, .int .u64 0, .int .u64 0, .int .u8 0, .int .u8 0]).cells[i % 6]!) = (encI (List.replicate 16 zeroIn)).toArray := by
  rw [show (Value.agg #[.int .i64 0, .int .u64 0, .int .u64 0, .int .u64 0, .int .u8 0, .int .u8 0]).cells = (inCells zeroIn).toArray by simp [Value.cells, inCells, zeroIn], zeros_flat 16 6 (by omega) (inCells zeroIn) rfl]
  rfl
set_option maxRecDepth 100000 in
set_option maxHeartbeats 8000000 in
theorem alloc_any (w : World) (q sz : Nat) (v sq sv : Value) (g1 g2 : Nat) (M : List Pool) (r : Nat) (l : List In) (h : PoolOk M r l) (hw : At w ([coB q sz v (restP M r) sq sv g1 g2, M.map poB] : List Hp).flatten) :
    Calls Tryd.prog 49 #[.pointer (some ⟨q, 0, none⟩)] w (Post w ([coB q sz v (restP M r) sq sv g1 g2, M.map poB] : List Hp).flatten (fun x : List Pool × Nat × List In × Nat => .pointer (some ⟨x.2.1, x.2.2.2 * 6, none⟩))
      (fun x => ([coB q sz v (restP (x.1 ++ [(x.2.1, x.2.2.1)]) (x.2.2.2 + 1)) sq sv g1 g2, x.1.map poB, [poB (x.2.1, x.2.2.1)]] : List Hp).flatten) (fun x => Taken x.1 x.2.1 x.2.2.1 x.2.2.2 l ∧ ∀ k, k < l.length → gAt (x.1 ++ [(x.2.1, x.2.2.1)]) k = gAt M k)) := by
  have hc := h.count
  by_cases hr : r = 16
  · subst hr
    refine enter [coB q sz v (restP M 16) sq sv g1 g2, M.map poB] Tryd.func49 rfl rfl hw (Le.refl _) ?_
    intro R hR
    have hlen : ∃ A, restP M 16 = .slice A 0 0 := by
      unfold restP
      split
      · exact ⟨_, rfl⟩
      · exact ⟨_, rfl⟩
    obtain ⟨A, hA⟩ := hlen
    rw [hA] at hR ⊢
    have hsl : ∀ g, Value.slice (some (if 16 = 1 then ⟨g, 0, none⟩ else ⟨g, 0 + 1 * 6, none⟩)) (16 - 1) (16 - 1) = restP (M ++ [(g, List.replicate 16 zeroIn)]) 1 := fun g => by rw [restP_snoc]; rfl
    dsimp only [coB] at hR ⊢
    repeat (first | refine op_move rfl rfl ?_ | refine op_assign rfl rfl ?_ | refine op_nilCheck rfl rfl ?_ | refine op_fieldAddr rfl rfl ?_ | (apply op_load; (· exact rfl); (· exact rfl); (· apply cell_of_has; (· (repeat (first | exact Has.here | apply Has.there))); (· first | exact rfl))) | (apply op_store; (· exact rfl); (· exact rfl); (· exact rfl); (· (repeat (first | exact Swap.here | apply Swap.there))); (· first | decide | (simp; done) | (simp; omega) | assumption)) | refine op_index rfl rfl rfl (by omega) (by first | (rw [Int.toNat_natCast, Nat.mul_one, Nat.zero_add]) | (rw [Int.toNat_natCast, Nat.mul_one]) | (rw [Int.toNat_natCast, Nat.zero_add]) | (rw [Int.toNat_natCast]) | exact rfl) ?_ | refine op_len rfl rfl ?_ | refine op_cap rfl rfl ?_ | refine op_add rfl rfl rfl (by simp only [kLo, kHi]; omega) ?_ | refine op_sub rfl rfl rfl (by simp only [kLo, kHi]; omega) ?_ | refine op_cmp_t rfl rfl rfl rfl (by first | (simp only [cmpP]; done) | (simp only [cmpP]; omega)) ?_ | refine op_cmp_f rfl rfl rfl rfl (by first | (simp only [cmpP]; done) | (simp only [cmpP]; omega)) ?_ | refine op_pick_t rfl rfl rfl ?_ | refine op_pick_f rfl rfl rfl ?_ | refine ops_guard_yes rfl rfl rfl ?_ | refine ops_off1 rfl rfl ?_ | refine ops_off0 rfl ?_ | refine op_build rfl rfl rfl (by first | (intro v hv; simp at hv; done) | (intro v hv; simp at hv; rcases hv with rfl | rfl | rfl | rfl | rfl | rfl | rfl <;> rfl) | (intro v hv; simp at hv; rcases hv with rfl | rfl | rfl | rfl | rfl | rfl <;> rfl) | (intro v hv; simp at hv; rcases hv with rfl | rfl | rfl | rfl | rfl <;> rfl) | (intro v hv; simp at hv; rcases hv with rfl | rfl | rfl | rfl <;> rfl) | (intro v hv; simp at hv; rcases hv with rfl | rfl | rfl <;> rfl) | (intro v hv; simp at hv; rcases hv with rfl | rfl <;> rfl) | (intro v hv; simp at hv; rcases hv with rfl; rfl)) rfl ?_ | (refine op_box rfl rfl ?_; intro _ _) | (refine op_alloc rfl ?_; intro _ _) | (refine op_slice1 rfl rfl (by first | rfl | simp [Value.cells]) (by decide) ?_; intro _ _) | (refine op_make1 rfl rfl rfl rfl (by omega) (by omega) ?_; intro _ _) | (refine op_makeC rfl rfl rfl (by decide) rfl (by decide) (by decide) ?_; intro _ _) | (refine op_make rfl rfl rfl (by omega) (by omega) ?_; intro _ _) | refine op_extract rfl rfl rfl ?_ | (apply op_loadAll; (· exact rfl); (· exact rfl); (· (repeat (first | exact Has.here | apply Has.there))); (· exact rfl)) | refine op_not rfl rfl ?_ | refine op_remN rfl rfl rfl (by omega) ?_ | refine op_quoN rfl rfl rfl (by omega) (by simp only [kHi]; omega) ?_ | refine op_min rfl rfl rfl ?_ | refine op_max rfl rfl rfl ?_ | refine op_buildA rfl rfl rfl (by first | (intro v hv; simp at hv; done) | (intro v hv; simp at hv; rcases hv with rfl | rfl | rfl | rfl | rfl | rfl | rfl <;> rfl) | (intro v hv; simp at hv; rcases hv with rfl | rfl | rfl | rfl | rfl | rfl <;> rfl) | (intro v hv; simp at hv; rcases hv with rfl | rfl | rfl | rfl | rfl <;> rfl) | (intro v hv; simp at hv; rcases hv with rfl | rfl | rfl | rfl <;> rfl) | (intro v hv; simp at hv; rcases hv with rfl | rfl | rfl <;> rfl) | (intro v hv; simp at hv; rcases hv with rfl | rfl <;> rfl) | (intro v hv; simp at hv; rcases hv with rfl; rfl)) rfl ?_ | (refine op_sliceN rfl rfl rfl (by first | (intro v hv; simp at hv; done) | (intro v hv; simp at hv; rcases hv with rfl | rfl | rfl | rfl | rfl | rfl | rfl <;> rfl) | (intro v hv; simp at hv; rcases hv with rfl | rfl | rfl | rfl | rfl | rfl <;> rfl) | (intro v hv; simp at hv; rcases hv with rfl | rfl | rfl | rfl | rfl <;> rfl) | (intro v hv; simp at hv; rcases hv with rfl | rfl | rfl | rfl <;> rfl) | (intro v hv; simp at hv; rcases hv with rfl | rfl | rfl <;> rfl) | (intro v hv; simp at hv; rcases hv with rfl | rfl <;> rfl) | (intro v hv; simp at hv; rcases hv with rfl; rfl)) rfl rfl (by decide) ?_; intro _ _) | (refine op_append_nil rfl rfl rfl (by omega) ?_) | refine op_conv rfl rfl (by simp only [kLo, kHi]; omega) ?_ | refine ops_nil ?_ | (apply J1) | refine run_seq ?_ | refine run_region rfl ?_ | refine fin_code ?_ | refine run_block ?_ | refine fin_block ?_ | refine run_skip ?_ | refine run_cond_t rfl ?_ | refine run_cond_f rfl ?_ | refine run_exit ?_ | refine fin_exit_code ?_ | refine fin_exit_here ?_ | refine fin_exit_past rfl ?_ | refine fin_exit_inv ?_ | refine run_ret ?_ | refine fin_ret_code ?_ | refine fin_ret_block ?_ | refine fin_ret_inv ?_ | (refine op_cmp_f rfl rfl rfl rfl (fun h => h rfl) ?_) | (refine op_makeR 16 16 rfl rfl rfl rfl rfl (Nat.le_refl _) (by decide) (by decide) ?_; intro _ _) | (refine op_sliceLowO 1 rfl rfl rfl rfl (by omega) (hsl _) ?_) | (refine op_sliceLowO 1 rfl rfl rfl rfl (by omega) hsl ?_) | (apply op_store; (· exact rfl); (· exact rfl); (· exact restP_one _ _); (· (repeat (first | exact Swap.here | apply Swap.there))); (· first | decide | (simp; done) | (simp; omega))))
    rename_i g _
    rw [zeros_pool2]
    refine fin_ret1 rfl rfl ?_
    intro w' g'
    refine hR _ _ (post_of g' (M, g, List.replicate 16 zeroIn, 0) ⟨⟨h.len, by simp, by dsimp only; omega, by dsimp only; omega, ?_⟩, fun k hk => gAt_append (M := M) (by omega)⟩ rfl (by dsimp only [poB]; (apply le_of_picks; (repeat (first | exact Picks.nil | (apply Picks.cons; (· (repeat (first | exact Pick.here | apply Pick.there)))) | apply Picks.empty)))))
    dsimp only
    rw [h.mem]
    simp
  · rcases List.eq_nil_or_concat M with hM | ⟨M0, x, hM⟩
    · exact absurd (h.emp hM) hr
    · rw [List.concat_eq_append] at hM
      subst hM
      obtain ⟨g, L⟩ := x
      have hr16 := h.r16
      have hrp : restP (M0 ++ [(g, L)]) r = .slice (some ⟨g, r * 6, none⟩) (16 - r) (16 - r) := by rw [restP_snoc, if_neg hr]
      have hsl : Value.slice (some (if 16 - r = 1 then ⟨g, r * 6, none⟩ else ⟨g, r * 6 + 1 * 6, none⟩)) (16 - r - 1) (16 - r - 1) = restP (M0 ++ [(g, L)]) (r + 1) := by
        rw [restP_snoc]
        by_cases h15 : r = 15
        · subst h15; rfl
        · rw [if_neg (by omega), if_neg (by omega), show 16 - r - 1 = 16 - (r + 1) by omega, show r * 6 + 1 * 6 = (r + 1) * 6 by omega]
      have hfl : ([coB q sz v (restP (M0 ++ [(g, L)]) r) sq sv g1 g2, (M0 ++ [(g, L)]).map poB] : List Hp).flatten = ([coB q sz v (restP (M0 ++ [(g, L)]) r) sq sv g1 g2, M0.map poB, [poB (g, L)]] : List Hp).flatten := by simp
      rw [hfl] at hw ⊢
      rw [hrp] at hw ⊢
      refine enter [coB q sz v (.slice (some ⟨g, r * 6, none⟩) (16 - r) (16 - r)) sq sv g1 g2, M0.map poB, [poB (g, L)]] Tryd.func49 rfl rfl hw (Le.refl _) ?_
      intro R hR
      dsimp only [coB] at hR ⊢
      repeat (first | refine op_move rfl rfl ?_ | refine op_assign rfl rfl ?_ | refine op_nilCheck rfl rfl ?_ | refine op_fieldAddr rfl rfl ?_ | (apply op_load; (· exact rfl); (· exact rfl); (· apply cell_of_has; (· (repeat (first | exact Has.here | apply Has.there))); (· first | exact rfl))) | (apply op_store; (· exact rfl); (· exact rfl); (· exact rfl); (· (repeat (first | exact Swap.here | apply Swap.there))); (· first | decide | (simp; done) | (simp; omega) | assumption)) | refine op_index rfl rfl rfl (by omega) (by first | (rw [Int.toNat_natCast, Nat.mul_one, Nat.zero_add]) | (rw [Int.toNat_natCast, Nat.mul_one]) | (rw [Int.toNat_natCast, Nat.zero_add]) | (rw [Int.toNat_natCast]) | exact rfl) ?_ | refine op_len rfl rfl ?_ | refine op_cap rfl rfl ?_ | refine op_add rfl rfl rfl (by simp only [kLo, kHi]; omega) ?_ | refine op_sub rfl rfl rfl (by simp only [kLo, kHi]; omega) ?_ | refine op_cmp_t rfl rfl rfl rfl (by first | (simp only [cmpP]; done) | (simp only [cmpP]; omega)) ?_ | refine op_cmp_f rfl rfl rfl rfl (by first | (simp only [cmpP]; done) | (simp only [cmpP]; omega)) ?_ | refine op_pick_t rfl rfl rfl ?_ | refine op_pick_f rfl rfl rfl ?_ | refine ops_guard_yes rfl rfl rfl ?_ | refine ops_off1 rfl rfl ?_ | refine ops_off0 rfl ?_ | refine op_build rfl rfl rfl (by first | (intro v hv; simp at hv; done) | (intro v hv; simp at hv; rcases hv with rfl | rfl | rfl | rfl | rfl | rfl | rfl <;> rfl) | (intro v hv; simp at hv; rcases hv with rfl | rfl | rfl | rfl | rfl | rfl <;> rfl) | (intro v hv; simp at hv; rcases hv with rfl | rfl | rfl | rfl | rfl <;> rfl) | (intro v hv; simp at hv; rcases hv with rfl | rfl | rfl | rfl <;> rfl) | (intro v hv; simp at hv; rcases hv with rfl | rfl | rfl <;> rfl) | (intro v hv; simp at hv; rcases hv with rfl | rfl <;> rfl) | (intro v hv; simp at hv; rcases hv with rfl; rfl)) rfl ?_ | (refine op_box rfl rfl ?_; intro _ _) | (refine op_alloc rfl ?_; intro _ _) | (refine op_slice1 rfl rfl (by first | rfl | simp [Value.cells]) (by decide) ?_; intro _ _) | (refine op_make1 rfl rfl rfl rfl (by omega) (by omega) ?_; intro _ _) | (refine op_makeC rfl rfl rfl (by decide) rfl (by decide) (by decide) ?_; intro _ _) | (refine op_make rfl rfl rfl (by omega) (by omega) ?_; intro _ _) | refine op_extract rfl rfl rfl ?_ | (apply op_loadAll; (· exact rfl); (· exact rfl); (· (repeat (first | exact Has.here | apply Has.there))); (· exact rfl)) | refine op_not rfl rfl ?_ | refine op_remN rfl rfl rfl (by omega) ?_ | refine op_quoN rfl rfl rfl (by omega) (by simp only [kHi]; omega) ?_ | refine op_min rfl rfl rfl ?_ | refine op_max rfl rfl rfl ?_ | refine op_buildA rfl rfl rfl (by first | (intro v hv; simp at hv; done) | (intro v hv; simp at hv; rcases hv with rfl | rfl | rfl | rfl | rfl | rfl | rfl <;> rfl) | (intro v hv; simp at hv; rcases hv with rfl | rfl | rfl | rfl | rfl | rfl <;> rfl) | (intro v hv; simp at hv; rcases hv with rfl | rfl | rfl | rfl | rfl <;> rfl) | (intro v hv; simp at hv; rcases hv with rfl | rfl | rfl | rfl <;> rfl) | (intro v hv; simp at hv; rcases hv with rfl | rfl | rfl <;> rfl) | (intro v hv; simp at hv; rcases hv with rfl | rfl <;> rfl) | (intro v hv; simp at hv; rcases hv with rfl; rfl)) rfl ?_ | (refine op_sliceN rfl rfl rfl (by first | (intro v hv; simp at hv; done) | (intro v hv; simp at hv; rcases hv with rfl | rfl | rfl | rfl | rfl | rfl | rfl <;> rfl) | (intro v hv; simp at hv; rcases hv with rfl | rfl | rfl | rfl | rfl | rfl <;> rfl) | (intro v hv; simp at hv; rcases hv with rfl | rfl | rfl | rfl | rfl <;> rfl) | (intro v hv; simp at hv; rcases hv with rfl | rfl | rfl | rfl <;> rfl) | (intro v hv; simp at hv; rcases hv with rfl | rfl | rfl <;> rfl) | (intro v hv; simp at hv; rcases hv with rfl | rfl <;> rfl) | (intro v hv; simp at hv; rcases hv with rfl; rfl)) rfl rfl (by decide) ?_; intro _ _) | (refine op_append_nil rfl rfl rfl (by omega) ?_) | refine op_conv rfl rfl (by simp only [kLo, kHi]; omega) ?_ | refine ops_nil ?_ | (apply J1) | refine run_seq ?_ | refine run_region rfl ?_ | refine fin_code ?_ | refine run_block ?_ | refine fin_block ?_ | refine run_skip ?_ | refine run_cond_t rfl ?_ | refine run_cond_f rfl ?_ | refine run_exit ?_ | refine fin_exit_code ?_ | refine fin_exit_here ?_ | refine fin_exit_past rfl ?_ | refine fin_exit_inv ?_ | refine run_ret ?_ | refine fin_ret_code ?_ | refine fin_ret_block ?_ | refine fin_ret_inv ?_ | (refine op_cmp_f rfl rfl rfl rfl (fun h => h rfl) ?_) | (refine op_makeR 16 16 rfl rfl rfl rfl rfl (Nat.le_refl _) (by decide) (by decide) ?_; intro _ _) | (refine op_sliceLowO 1 rfl rfl rfl rfl (by omega) (hsl _) ?_) | (refine op_sliceLowO 1 rfl rfl rfl rfl (by omega) hsl ?_) | (apply op_store; (· exact rfl); (· exact rfl); (· exact restP_one _ _); (· (repeat (first | exact Swap.here | apply Swap.there))); (· first | decide | (simp; done) | (simp; omega))))
      refine fin_ret1 rfl rfl ?_
      intro w' g'
      have hcl : (M0 ++ [(g, L)]).length = M0.length + 1 := by simp
      rw [hcl] at hc
      have hL := h.len (g, L) (by simp)
      have hm := h.mem
      rw [memL_append] at hm
      refine hR _ _ (post_of g' (M0, g, L, r) ⟨⟨fun y hy => h.len y (by simp [hy]), hL, by dsimp only; omega, by dsimp only; omega, ?_⟩, fun k hk => rfl⟩ rfl (by dsimp only [poB]; (apply le_of_picks; (repeat (first | exact Picks.nil | (apply Picks.cons; (· (repeat (first | exact Pick.here | apply Pick.there)))) | apply Picks.empty)))))
      dsimp only
      rw [← hm]
      simp [memL]
end Go.Proofs.Eng
