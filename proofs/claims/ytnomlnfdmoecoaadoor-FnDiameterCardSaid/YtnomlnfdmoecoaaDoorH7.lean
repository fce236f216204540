/- A part of the proof: what functions of the program do, step by step. -/
import Derived.Test.YtnomlnfdmoecoaaDoorH6
set_option linter.unusedVariables false
set_option linter.unusedSimpArgs false
namespace Go.Proofs.Eng
open Go.RowKit
def bI (v k : Int) : Int := IntKind.u8.wrap (v.fdiv (2 ^ (min k.toNat IntKind.u64.bits)))
def put64L (l : List Int) (o : Nat) (v : Int) : List Int :=
  (((((((l.set (o + 0) (bI v 56)).set (o + 1) (bI v 48)).set (o + 2) (bI v 40)).set (o + 3) (bI v 32)).set (o + 4) (bI v 24)).set (o + 5) (bI v 16)).set (o + 6) (bI v 8)).set (o + 7) (IntKind.u8.wrap v)
theorem put64_u8V (l : List Int) (o : Nat) (v : Int) : put64 (u8V l).toArray o v = (u8V (put64L l o v)).toArray := by
  simp [put64, put64L, u8V, b64, bI, List.map_set]
theorem put64L_len (l : List Int) (o : Nat) (v : Int) : (put64L l o v).length = l.length := by simp [put64L]
def bI3 (v k : Int) : Int := IntKind.u8.wrap (v.fdiv (2 ^ (min k.toNat IntKind.u32.bits)))
def put32L (l : List Int) (o : Nat) (v : Int) : List Int := (((l.set (o + 0) (bI3 v 24)).set (o + 1) (bI3 v 16)).set (o + 2) (bI3 v 8)).set (o + 3) (IntKind.u8.wrap v)
theorem put32_u8V (l : List Int) (o : Nat) (v : Int) : put32 (u8V l).toArray o v = (u8V (put32L l o v)).toArray := by
  simp [put32, put32L, u8V, bI3, List.map_set]
theorem put32L_len (l : List Int) (o : Nat) (v : Int) : (put32L l o v).length = l.length := by simp [put32L]
theorem u8V_size (l : List Int) : (u8V l).toArray.size = l.length := by simp [u8V]
theorem put64u_any (w : World) (g o len cap T : Nat) (l : List Int) (v : Int) (hl : 8 ≤ len) (hsz : o + 8 ≤ l.length) (hw : At w ([[⟨g, .cells (u8V l).toArray T (0, 0)⟩]] : List Hp).flatten) :
    Calls Tryd.prog 96 #[.slice (some ⟨g, o, none⟩) len cap, .int .u64 v] w (Post w ([[⟨g, .cells (u8V l).toArray T (0, 0)⟩]] : List Hp).flatten (fun _ : Unit => .tuple #[]) (fun _ => ([[⟨g, .cells (u8V (put64L l o v)).toArray T (0, 0)⟩]] : List Hp).flatten) (fun _ => True)) := by
  rw [← put64_u8V]
  exact put64_any w g o len cap T _ v hl (by rw [u8V_size]; exact hsz) hw
theorem put32u_any (w : World) (g o len cap T : Nat) (l : List Int) (v : Int) (hl : 4 ≤ len) (hsz : o + 4 ≤ l.length) (hw : At w ([[⟨g, .cells (u8V l).toArray T (0, 0)⟩]] : List Hp).flatten) :
    Calls Tryd.prog 97 #[.slice (some ⟨g, o, none⟩) len cap, .int .u32 v] w (Post w ([[⟨g, .cells (u8V l).toArray T (0, 0)⟩]] : List Hp).flatten (fun _ : Unit => .tuple #[]) (fun _ => ([[⟨g, .cells (u8V (put32L l o v)).toArray T (0, 0)⟩]] : List Hp).flatten) (fun _ => True)) := by
  rw [← put32_u8V]
  exact put32_any w g o len cap T _ v hl (by rw [u8V_size]; exact hsz) hw
theorem write_anyN (w : World) (q g o cap n : Nat) (K : Nat → Int) (kv : List Value) (d : Dg) (pb : List Int) (hn : pb.length = n) (hd : DgOk d) (hlen : pb.length ≤ 60000) (hcap : pb.length ≤ cap) (hln : d.ln + pb.length ≤ 1000000) (B : Nat) (hBw : B ≤ w.heap.size) (hBq : B ≤ q)
    (hK : RdB w B 1 kv) (hkv : ∀ i, i < 64 → kv[i]? = some (.int .u32 (K i))) (hgq : g ≠ q)
    (hp : ∀ (j : Nat) (v : Int), pb[j]? = some v → w.cell? ⟨g, o + j, none⟩ = some (.int .u8 v))
    (hw : At w ([[⟨q, .cells (dgV d).toArray 135 (0, 0)⟩]] : List Hp).flatten) :
    Calls Tryd.prog 90 #[.pointer (some ⟨q, 0, none⟩), .slice (some ⟨g, o, none⟩) n cap] w (Post w ([[⟨q, .cells (dgV d).toArray 135 (0, 0)⟩]] : List Hp).flatten (fun _ : Unit => .tuple #[.int .i64 n, .nilIface]) (fun _ => ([[⟨q, .cells (dgV (wr K d pb)).toArray 135 (0, 0)⟩]] : List Hp).flatten) (fun _ => True)) := by
  subst hn
  exact write_any w q g o cap K kv d pb hd hlen hcap hln B hBw hBq hK hkv hgq hp hw
section
variable {C : Ctx} {E : Env} {Ls : List Hp} {ks : List Kont} {ops : Array Oper} {rest : List Oper} {ty : Nat} {pos : String} {af : Array Edge} {d : Nat}
theorem op_allocE {el : Nat} {z : Value} [c : TZero C.P el z] (cs : Array Value) (he : z.cells = cs) (hn : Nat.blt d C.fn.ntmps = true)
    (k : ∀ g, C.w0.heap.size ≤ g → Ops C ops rest ks ((d, .pointer (some ⟨g, 0, none⟩)) :: E) ([⟨g, .cells cs el (0, 0)⟩] :: Ls)) : Ops C ops (⟨some d, .alloc el, ty, pos, af, none⟩ :: rest) ks E Ls := by
  subst he
  exact op_alloc hn k
theorem op_remC {bt bt' : Nat} {x y : Operand} {ik : IntKind} {m : Nat} (n : Nat) {i : Int} (hn : Nat.blt d C.fn.ntmps = true) (hx : ev E x = some (.int ik (m : Int))) (hy : ev E y = some (.int ik i)) (hi : i = n) (h : n ≠ 0) (k : Ops C ops rest ks ((d, .int ik ((m % n : Nat) : Int)) :: E) Ls) : Ops C ops (⟨some d, .binOp .rem bt x y bt', ty, pos, af, none⟩ :: rest) ks E Ls := by
  subst hi
  exact op_remN hn hx hy h k
theorem cells_of_at {w : World} {g t : Nat} {l : List Int} (h : At w [⟨g, .cells (u8V l).toArray t (0, 0)⟩]) {j : Nat} {v : Int} (hv : l[j]? = some v) : w.cell? ⟨g, 0 + j, none⟩ = some (.int .u8 v) := by
  rw [cell_of_heap (h.here ⟨g, .cells (u8V l).toArray t (0, 0)⟩ (by simp)), Nat.zero_add]
  simp [u8V, hv]
end
/-! ### The end of a hash -/
def tmp0 : List Int := (List.replicate 72 0).set 0 128
def padT (ln : Nat) : Nat := if ln % 64 < 56 then 56 - ln % 64 else 120 - ln % 64
def bitsOf (ln : Nat) : Int := IntKind.u64.wrap ((ln : Int) * 2 ^ (min (3 : Int).toNat IntKind.u64.bits))
def padL (ln : Nat) : List Int := (put64L tmp0 (padT ln) (bitsOf ln)).take (padT ln + 8)
def digL (s : S8) : List Int :=
  put32L (put32L (put32L (put32L (put32L (put32L (put32L (put32L (List.replicate 32 0) 0 s.a) 4 s.b) 8 s.c) 12 s.d) 16 s.e) 20 s.f) 24 s.g) 28 s.h
theorem digL_len (s : S8) : (digL s).length = 32 := by simp [digL, put32L_len]
theorem u8_oneA (l : List Int) : ∀ v ∈ (u8V l).toArray.toList, v.oneCell' = true := by simpa using u8_one l
theorem digL_len' (s : S8) : (u8V (digL s)).toArray.size = 32 := by rw [u8V_size, digL_len]
theorem padT_le (ln : Nat) : padT ln ≤ 64 ∧ 1 ≤ padT ln ∧ (ln + (padT ln + 8)) % 64 = 0 := by
  unfold padT
  split <;> omega
theorem padL_len (ln : Nat) : (padL ln).length = padT ln + 8 := by
  have h := padT_le ln
  rw [padL, List.length_take, put64L_len]
  simp [tmp0]
  omega
theorem wr_ln (K : Nat → Int) (d : Dg) (pb : List Int) : (wr K d pb).ln = d.ln + pb.length := by
  unfold wr wr3 wr2 wr1
  dsimp only
  repeat (first | rfl | split)
theorem dg_get_fl (d : Dg) (h : d.x.length = 64) : aget (dgV d).toArray 74 = some (.bool false) := by
  rw [aget_eq]; simp [dgV, dgT, s8V, List.getElem?_append, u8V_len, h]
theorem pad_nx (K : Nat → Int) (d : Dg) (h : DgOk d) : (wr K d (padL d.ln)).nx = 0 := by
  have h1 := wr_ok K d (padL d.ln) h
  have h2 := wr_ln K d (padL d.ln)
  have h3 := padT_le d.ln
  rw [padL_len] at h2
  have h4 := h1.2.2
  rw [h2] at h4
  omega
set_option maxRecDepth 100000 in
set_option maxHeartbeats 8000000 in
theorem chk_any (w : World) (q : Nat) (K : Nat → Int) (kv : List Value) (d : Dg) (hd : DgOk d) (hln : d.ln ≤ 900000) (B : Nat) (hBw : B ≤ w.heap.size) (hBq : B ≤ q)
    (hK : RdB w B 1 kv) (hkv : ∀ i, i < 64 → kv[i]? = some (.int .u32 (K i)))
    (hw : At w ([[⟨q, .cells (dgV d).toArray 135 (0, 0)⟩]] : List Hp).flatten) :
    Calls Tryd.prog 92 #[.pointer (some ⟨q, 0, none⟩)] w (Post w ([[⟨q, .cells (dgV d).toArray 135 (0, 0)⟩]] : List Hp).flatten (fun _ : Unit => .agg (u8V (digL (wr K d (padL d.ln)).s)).toArray) (fun _ => ([[⟨q, .cells (dgV (wr K d (padL d.ln))).toArray 135 (0, 0)⟩]] : List Hp).flatten) (fun _ => True)) := by
  refine enter [[⟨q, .cells (dgV d).toArray 135 (0, 0)⟩]] Tryd.func92 rfl rfl hw (Le.refl _) ?_
  intro R hR
  have hqw : q < w.heap.size := hw.lt (by simp [ids])
  have hL0 : ∀ k ∈ ids ([[⟨q, .cells (dgV d).toArray 135 (0, 0)⟩]] : List Hp).flatten, B ≤ k := by
    intro k hk
    simp [ids] at hk
    subst hk
    exact hBq
  have hgl := dg_get_ln d hd.1
  refine run_seq ?_
  refine run_region rfl ?_
  refine op_allocE (u8V (List.replicate 32 0)).toArray rfl rfl ?_
  intro ga hga
  iterate 13 (first | refine op_move rfl rfl ?_ | refine op_assign rfl rfl ?_ | refine op_nilCheck rfl rfl ?_ | refine op_fieldAddr rfl rfl ?_ | (apply op_load; (· exact rfl); (· exact rfl); (· apply cell_of_has; (· (repeat (first | exact Has.here | apply Has.there))); (· first | exact rfl | exact hgn | exact hgf | exact hgl))) | (apply op_store; (· exact rfl); (· exact rfl); (· exact rfl); (· (repeat (first | exact Swap.here | apply Swap.there))); (· first | decide | (simp; done) | (simp; omega) | assumption)) | refine op_index rfl rfl rfl (by omega) (by first | (rw [Int.toNat_natCast, Nat.mul_one, Nat.zero_add]) | (rw [Int.toNat_natCast, Nat.mul_one]) | (rw [Int.toNat_natCast, Nat.zero_add]) | (rw [Int.toNat_natCast]) | exact rfl) ?_ | refine op_len rfl rfl ?_ | refine op_cap rfl rfl ?_ | refine op_add rfl rfl rfl (by simp only [kLo, kHi]; omega) ?_ | refine op_sub rfl rfl rfl (by simp only [kLo, kHi]; omega) ?_ | refine op_cmp_t rfl rfl rfl rfl (by first | (simp only [cmpP]; done) | (simp only [cmpP]; omega)) ?_ | refine op_cmp_f rfl rfl rfl rfl (by first | (simp only [cmpP]; done) | (simp only [cmpP]; omega)) ?_ | refine op_pick_t rfl rfl rfl ?_ | refine op_pick_f rfl rfl rfl ?_ | refine ops_guard_yes rfl rfl rfl ?_ | refine ops_off1 rfl rfl ?_ | refine ops_off0 rfl ?_ | refine op_build rfl rfl rfl (by first | (intro v hv; simp at hv; done) | (intro v hv; simp at hv; rcases hv with rfl | rfl | rfl | rfl | rfl | rfl | rfl <;> rfl) | (intro v hv; simp at hv; rcases hv with rfl | rfl | rfl | rfl | rfl | rfl <;> rfl) | (intro v hv; simp at hv; rcases hv with rfl | rfl | rfl | rfl | rfl <;> rfl) | (intro v hv; simp at hv; rcases hv with rfl | rfl | rfl | rfl <;> rfl) | (intro v hv; simp at hv; rcases hv with rfl | rfl | rfl <;> rfl) | (intro v hv; simp at hv; rcases hv with rfl | rfl <;> rfl) | (intro v hv; simp at hv; rcases hv with rfl; rfl)) rfl ?_ | (refine op_box rfl rfl ?_; intro _ _) | (refine op_alloc rfl ?_; intro _ _) | (refine op_slice1 rfl rfl (by first | rfl | simp [Value.cells]) (by decide) ?_; intro _ _) | (refine op_make1 rfl rfl rfl rfl (by omega) (by omega) ?_; intro _ _) | (refine op_makeC rfl rfl rfl (by decide) rfl (by decide) (by decide) ?_; intro _ _) | (refine op_make rfl rfl rfl (by omega) (by omega) ?_; intro _ _) | refine op_extract rfl rfl rfl ?_ | (apply op_loadAll; (· exact rfl); (· exact rfl); (· (repeat (first | exact Has.here | apply Has.there))); (· exact rfl)) | refine op_not rfl rfl ?_ | refine op_remN rfl rfl rfl (by omega) ?_ | refine op_quoN rfl rfl rfl (by omega) (by simp only [kHi]; omega) ?_ | refine op_min rfl rfl rfl ?_ | refine op_max rfl rfl rfl ?_ | refine op_buildA rfl rfl rfl (by first | (intro v hv; simp at hv; done) | (intro v hv; simp at hv; rcases hv with rfl | rfl | rfl | rfl | rfl | rfl | rfl <;> rfl) | (intro v hv; simp at hv; rcases hv with rfl | rfl | rfl | rfl | rfl | rfl <;> rfl) | (intro v hv; simp at hv; rcases hv with rfl | rfl | rfl | rfl | rfl <;> rfl) | (intro v hv; simp at hv; rcases hv with rfl | rfl | rfl | rfl <;> rfl) | (intro v hv; simp at hv; rcases hv with rfl | rfl | rfl <;> rfl) | (intro v hv; simp at hv; rcases hv with rfl | rfl <;> rfl) | (intro v hv; simp at hv; rcases hv with rfl; rfl)) rfl ?_ | (refine op_sliceN rfl rfl rfl (by first | (intro v hv; simp at hv; done) | (intro v hv; simp at hv; rcases hv with rfl | rfl | rfl | rfl | rfl | rfl | rfl <;> rfl) | (intro v hv; simp at hv; rcases hv with rfl | rfl | rfl | rfl | rfl | rfl <;> rfl) | (intro v hv; simp at hv; rcases hv with rfl | rfl | rfl | rfl | rfl <;> rfl) | (intro v hv; simp at hv; rcases hv with rfl | rfl | rfl | rfl <;> rfl) | (intro v hv; simp at hv; rcases hv with rfl | rfl | rfl <;> rfl) | (intro v hv; simp at hv; rcases hv with rfl | rfl <;> rfl) | (intro v hv; simp at hv; rcases hv with rfl; rfl)) rfl rfl (by decide) ?_; intro _ _) | (refine op_append_nil rfl rfl rfl (by omega) ?_) | refine op_conv rfl rfl (by simp only [kLo, kHi]; omega) ?_ | refine ops_nil ?_ | (apply J1) | refine run_seq ?_ | refine run_region rfl ?_ | refine fin_code ?_ | refine run_block ?_ | refine fin_block ?_ | refine run_skip ?_ | refine run_cond_t rfl ?_ | refine run_cond_f rfl ?_ | refine run_exit ?_ | refine fin_exit_code ?_ | refine fin_exit_here ?_ | refine fin_exit_past rfl ?_ | refine fin_exit_inv ?_ | refine run_ret ?_ | refine fin_ret_code ?_ | refine fin_ret_block ?_ | refine fin_ret_inv ?_ | (refine op_remC 64 rfl rfl rfl rfl (by decide) ?_) | (refine op_shl rfl rfl rfl (by omega) ?_) | (refine op_val rfl (val_slicePH (T + 8) (by decide) rfl rfl (by omega) (by omega)) ?_) | (refine op_sliceLowO T rfl rfl rfl rfl (by omega) hsl ?_) | (refine op_cmp_f rfl rfl rfl rfl (fun h => h rfl) ?_) | (refine op_indexP rfl rfl rfl (by omega) ?_))
  refine op_allocE (u8V (List.replicate 72 0)).toArray rfl rfl ?_
  intro gt hgt
  iterate 4 (first | refine op_move rfl rfl ?_ | refine op_assign rfl rfl ?_ | refine op_nilCheck rfl rfl ?_ | refine op_fieldAddr rfl rfl ?_ | (apply op_load; (· exact rfl); (· exact rfl); (· apply cell_of_has; (· (repeat (first | exact Has.here | apply Has.there))); (· first | exact rfl | exact hgn | exact hgf | exact hgl))) | (apply op_store; (· exact rfl); (· exact rfl); (· exact rfl); (· (repeat (first | exact Swap.here | apply Swap.there))); (· first | decide | (simp; done) | (simp; omega) | assumption)) | refine op_index rfl rfl rfl (by omega) (by first | (rw [Int.toNat_natCast, Nat.mul_one, Nat.zero_add]) | (rw [Int.toNat_natCast, Nat.mul_one]) | (rw [Int.toNat_natCast, Nat.zero_add]) | (rw [Int.toNat_natCast]) | exact rfl) ?_ | refine op_len rfl rfl ?_ | refine op_cap rfl rfl ?_ | refine op_add rfl rfl rfl (by simp only [kLo, kHi]; omega) ?_ | refine op_sub rfl rfl rfl (by simp only [kLo, kHi]; omega) ?_ | refine op_cmp_t rfl rfl rfl rfl (by first | (simp only [cmpP]; done) | (simp only [cmpP]; omega)) ?_ | refine op_cmp_f rfl rfl rfl rfl (by first | (simp only [cmpP]; done) | (simp only [cmpP]; omega)) ?_ | refine op_pick_t rfl rfl rfl ?_ | refine op_pick_f rfl rfl rfl ?_ | refine ops_guard_yes rfl rfl rfl ?_ | refine ops_off1 rfl rfl ?_ | refine ops_off0 rfl ?_ | refine op_build rfl rfl rfl (by first | (intro v hv; simp at hv; done) | (intro v hv; simp at hv; rcases hv with rfl | rfl | rfl | rfl | rfl | rfl | rfl <;> rfl) | (intro v hv; simp at hv; rcases hv with rfl | rfl | rfl | rfl | rfl | rfl <;> rfl) | (intro v hv; simp at hv; rcases hv with rfl | rfl | rfl | rfl | rfl <;> rfl) | (intro v hv; simp at hv; rcases hv with rfl | rfl | rfl | rfl <;> rfl) | (intro v hv; simp at hv; rcases hv with rfl | rfl | rfl <;> rfl) | (intro v hv; simp at hv; rcases hv with rfl | rfl <;> rfl) | (intro v hv; simp at hv; rcases hv with rfl; rfl)) rfl ?_ | (refine op_box rfl rfl ?_; intro _ _) | (refine op_alloc rfl ?_; intro _ _) | (refine op_slice1 rfl rfl (by first | rfl | simp [Value.cells]) (by decide) ?_; intro _ _) | (refine op_make1 rfl rfl rfl rfl (by omega) (by omega) ?_; intro _ _) | (refine op_makeC rfl rfl rfl (by decide) rfl (by decide) (by decide) ?_; intro _ _) | (refine op_make rfl rfl rfl (by omega) (by omega) ?_; intro _ _) | refine op_extract rfl rfl rfl ?_ | (apply op_loadAll; (· exact rfl); (· exact rfl); (· (repeat (first | exact Has.here | apply Has.there))); (· exact rfl)) | refine op_not rfl rfl ?_ | refine op_remN rfl rfl rfl (by omega) ?_ | refine op_quoN rfl rfl rfl (by omega) (by simp only [kHi]; omega) ?_ | refine op_min rfl rfl rfl ?_ | refine op_max rfl rfl rfl ?_ | refine op_buildA rfl rfl rfl (by first | (intro v hv; simp at hv; done) | (intro v hv; simp at hv; rcases hv with rfl | rfl | rfl | rfl | rfl | rfl | rfl <;> rfl) | (intro v hv; simp at hv; rcases hv with rfl | rfl | rfl | rfl | rfl | rfl <;> rfl) | (intro v hv; simp at hv; rcases hv with rfl | rfl | rfl | rfl | rfl <;> rfl) | (intro v hv; simp at hv; rcases hv with rfl | rfl | rfl | rfl <;> rfl) | (intro v hv; simp at hv; rcases hv with rfl | rfl | rfl <;> rfl) | (intro v hv; simp at hv; rcases hv with rfl | rfl <;> rfl) | (intro v hv; simp at hv; rcases hv with rfl; rfl)) rfl ?_ | (refine op_sliceN rfl rfl rfl (by first | (intro v hv; simp at hv; done) | (intro v hv; simp at hv; rcases hv with rfl | rfl | rfl | rfl | rfl | rfl | rfl <;> rfl) | (intro v hv; simp at hv; rcases hv with rfl | rfl | rfl | rfl | rfl | rfl <;> rfl) | (intro v hv; simp at hv; rcases hv with rfl | rfl | rfl | rfl | rfl <;> rfl) | (intro v hv; simp at hv; rcases hv with rfl | rfl | rfl | rfl <;> rfl) | (intro v hv; simp at hv; rcases hv with rfl | rfl | rfl <;> rfl) | (intro v hv; simp at hv; rcases hv with rfl | rfl <;> rfl) | (intro v hv; simp at hv; rcases hv with rfl; rfl)) rfl rfl (by decide) ?_; intro _ _) | (refine op_append_nil rfl rfl rfl (by omega) ?_) | refine op_conv rfl rfl (by simp only [kLo, kHi]; omega) ?_ | refine ops_nil ?_ | (apply J1) | refine run_seq ?_ | refine run_region rfl ?_ | refine fin_code ?_ | refine run_block ?_ | refine fin_block ?_ | refine run_skip ?_ | refine run_cond_t rfl ?_ | refine run_cond_f rfl ?_ | refine run_exit ?_ | refine fin_exit_code ?_ | refine fin_exit_here ?_ | refine fin_exit_past rfl ?_ | refine fin_exit_inv ?_ | refine run_ret ?_ | refine fin_ret_code ?_ | refine fin_ret_block ?_ | refine fin_ret_inv ?_ | (refine op_remC 64 rfl rfl rfl rfl (by decide) ?_) | (refine op_shl rfl rfl rfl (by omega) ?_) | (refine op_val rfl (val_slicePH (T + 8) (by decide) rfl rfl (by omega) (by omega)) ?_) | (refine op_sliceLowO T rfl rfl rfl rfl (by omega) hsl ?_) | (refine op_cmp_f rfl rfl rfl rfl (fun h => h rfl) ?_) | (refine op_indexP rfl rfl rfl (by omega) ?_))
  refine op_indexP rfl rfl rfl (by omega) ?_
  refine op_storeX (cs' := (u8V tmp0).toArray) rfl rfl rfl rfl (by (repeat (first | exact Swap.here | apply Swap.there))) (by decide) ?_
  refine ops_nil ?_
  refine fin_code ?_
  refine run_seq ?_
  refine run_region rfl ?_
  refine op_assign rfl rfl ?_
  refine ops_nil ?_
  refine fin_code ?_
  refine run_seq ?_
  refine run_seq ?_
  refine run_region rfl ?_
  refine op_move rfl rfl ?_
  (refine op_remC 64 rfl rfl rfl rfl (by decide) ?_)
  obtain ⟨T, hT⟩ : ∃ T, T = padT d.ln := ⟨_, rfl⟩
  have hT3 := padT_le d.ln
  rw [← hT] at hT3
  refine ops_join1 (α := Int) (fun x => [(0, .pointer (some ⟨q, 0, none⟩)), (2, .pointer (some ⟨ga, 0, none⟩)), (3, .int .u64 (d.ln : Nat)), (4, .pointer (some ⟨gt, 0, none⟩)), (5, .int .u64 x)]) (fun x => [[⟨q, .cells (dgV d).toArray 135 (0, 0)⟩], [⟨ga, .cells (u8V (List.replicate 32 0)).toArray 83 (0, 0)⟩], [⟨gt, .cells (u8V tmp0).toArray 157 (0, 0)⟩]])
    (fun x => x = T) ?_ ?_
  rotate_left 1
  · intro J
    by_cases h56 : d.ln % 64 < 56
    · have J1 := J (56 - ((d.ln % 64 : Nat) : Int)) (by rw [hT]; unfold padT; rw [if_pos h56]; omega)
      refine op_cmp_t rfl rfl rfl rfl (by first | (simp only [cmpP]; done) | (simp only [cmpP]; omega)) ?_
      refine ops_nil ?_
      refine fin_code ?_
      refine run_cond_t rfl ?_
      refine run_region rfl ?_
      refine op_move rfl rfl ?_
      (refine op_remC 64 rfl rfl rfl rfl (by decide) ?_)
      refine op_sub rfl rfl rfl (by simp only [kLo, kHi]; omega) ?_
      refine op_assign rfl rfl ?_
      refine ops_nil ?_
      (apply J1)
      · (repeat (first | exact Sub.nil _ | (refine Sub.cons rfl ?_)))
      · (apply le_of_picks; (repeat (first | exact Picks.nil | (apply Picks.cons; (· (repeat (first | exact Pick.here | apply Pick.there)))) | apply Picks.empty)))
    · have J1 := J (120 - ((d.ln % 64 : Nat) : Int)) (by rw [hT]; unfold padT; rw [if_neg h56]; omega)
      refine op_cmp_f rfl rfl rfl rfl (by first | (simp only [cmpP]; done) | (simp only [cmpP]; omega)) ?_
      refine ops_nil ?_
      refine fin_code ?_
      refine run_cond_f rfl ?_
      refine run_region rfl ?_
      refine op_move rfl rfl ?_
      (refine op_remC 64 rfl rfl rfl rfl (by decide) ?_)
      refine op_sub rfl rfl rfl (by simp only [kLo, kHi]; omega) ?_
      refine op_assign rfl rfl ?_
      refine ops_nil ?_
      (apply J1)
      · (repeat (first | exact Sub.nil _ | (refine Sub.cons rfl ?_)))
      · (apply le_of_picks; (repeat (first | exact Picks.nil | (apply Picks.cons; (· (repeat (first | exact Pick.here | apply Pick.there)))) | apply Picks.empty)))
  rintro x rfl
  have hsl : Value.slice (some (if 72 = T then ⟨gt, 0, none⟩ else ⟨gt, 0 + T * 1, none⟩)) (T + 8 - T) (72 - T) = .slice (some ⟨gt, T, none⟩) 8 (72 - T) := by
    rw [if_neg (by omega), Nat.add_sub_cancel_left, Nat.zero_add, Nat.mul_one]
  have htl : tmp0.length = 72 := rfl
  refine fin_code ?_
  refine run_seq ?_
  refine run_region rfl ?_
  refine op_move rfl rfl ?_
  (refine op_shl rfl rfl rfl (by omega) ?_)
  refine op_assign rfl rfl ?_
  refine ops_nil ?_
  refine fin_code ?_
  refine run_seq ?_
  refine run_region rfl ?_
  refine op_move rfl rfl ?_
  refine op_add rfl rfl rfl (by simp only [kLo, kHi]; omega) ?_
  (refine op_val rfl (val_slicePH (T + 8) (by decide) rfl rfl (by omega) (by omega)) ?_)
  refine op_assign rfl rfl ?_
  refine ops_nil ?_
  refine fin_code ?_
  refine run_seq ?_
  refine run_region rfl ?_
  refine op_move rfl rfl ?_
  refine op_move rfl rfl ?_
  refine op_add rfl rfl rfl (by simp only [kLo, kHi]; omega) ?_
  (refine op_sliceLowO T rfl rfl rfl rfl (by omega) hsl ?_)
  refine op_move rfl rfl ?_
  ((first | (apply op_call; (· exact rfl)) | apply op_call0); (· exact rfl); rotate_left 1; (· exact fun w hG hw => put64u_any w gt T 8 (72 - T) 157 tmp0 _ (by decide) (by omega) hw); rotate_right 1; (· (repeat (first | exact Picks.nil | (apply Picks.cons; (· (repeat (first | exact Pick.here | apply Pick.there)))) | apply Picks.empty))))
  intro _ _
  refine ops_nil ?_
  refine fin_code ?_
  refine run_seq ?_
  refine run_region rfl ?_
  refine op_move rfl rfl ?_
  refine op_move rfl rfl ?_
  have hgtq : gt ≠ q := by
    have h : w.heap.size ≤ gt := hgt
    omega
  have hpe : padL d.ln = (put64L tmp0 T (bitsOf d.ln)).take (T + 8) := by rw [hT]; rfl
  have hpl := padL_len d.ln
  rw [← hT] at hpl
  ((first | (apply op_call; (· exact rfl)) | apply op_call0); (· exact rfl)); (case' hc => (refine fun w hG hw => write_anyN w q gt 0 72 (T + 8) K kv d (padL d.ln) hpl hd (by omega) (by omega) (by omega) B ?_ hBq ?_ hkv hgtq ?_ hw)); (case hp => (repeat (first | exact Picks.nil | (apply Picks.cons; (· (repeat (first | exact Pick.here | apply Pick.there)))) | apply Picks.empty)))
  · exact Nat.le_trans hBw hG.size
  · exact RdB.nowD hK hG hL0 hBw
  · intro j v hv
    rw [hpe, List.getElem?_take] at hv
    split at hv
    · exact cells_of_at (At.item hG.now (by (repeat (first | exact Pick.here | apply Pick.there)))) hv
    · cases hv
  intro _ _
  have hDok := wr_ok K d (padL d.ln) hd
  have hD0 := pad_nx K d hd
  generalize wr K d (padL d.ln) = D at *
  have hgn : aget (dgV D).toArray 72 = some (.int .i64 0) := by
    have h := dg_get_nx D hDok.1
    rw [hD0] at h
    exact h
  have hgf := dg_get_fl D hDok.1
  refine ops_nil ?_
  refine fin_code ?_
  refine run_seq ?_
  refine run_seq ?_
  refine run_region rfl ?_
  refine op_move rfl rfl ?_
  refine op_nilCheck rfl rfl ?_
  refine op_fieldAddr rfl rfl ?_
  (apply op_load; (· exact rfl); (· exact rfl); (· apply cell_of_has; (· (repeat (first | exact Has.here | apply Has.there))); (· first | exact rfl | exact hgn | exact hgf | exact hgl)))
  (refine op_cmp_f rfl rfl rfl rfl (fun h => h rfl) ?_)
  refine ops_nil ?_
  refine fin_code ?_
  refine run_cond_f rfl ?_
  refine run_skip ?_
  refine fin_code ?_
  refine run_seq ?_
  refine run_region rfl ?_
  (refine op_alloc rfl ?_; intro _ _)
  refine ops_nil ?_
  refine fin_code ?_
  refine run_seq ?_
  refine run_drawS [] (by kernel_rfl) ?_
  (apply dr_stab 0; (· exact rfl); (· exact rfl); (· apply Val.s; first | first | exact val_slicePL 0 rfl rfl rfl (by decide) | exact val_slicePL 4 rfl rfl rfl (by decide) | exact val_slicePL 8 rfl rfl rfl (by decide) | exact val_slicePL 12 rfl rfl rfl (by decide) | exact val_slicePL 16 rfl rfl rfl (by decide) | exact val_slicePL 20 rfl rfl rfl (by decide) | exact val_slicePL 24 rfl rfl rfl (by decide) | exact val_slicePL 28 rfl rfl rfl (by decide)); (· decide +kernel); (· exact rfl); (· exact rfl))
  refine dr_stab 1 rfl rfl (Val.s (val_move rfl)) (by decide +kernel) rfl rfl ?_
  refine dr_stab 2 rfl rfl (Val.s (val_nilCheck rfl)) (by decide +kernel) rfl rfl ?_
  refine dr_stab 3 rfl rfl (Val.s (val_fieldAddr rfl)) (by decide +kernel) rfl rfl ?_
  refine dr_stab 4 rfl rfl (Val.s (val_indexP rfl rfl (by omega))) (by decide +kernel) rfl rfl ?_
  (apply dr_read 5; (· exact rfl); (· exact rfl); (· (first | (apply val_load; (· exact rfl); (· apply cell_of_has; (· (repeat (first | exact Has.here | apply Has.there))); (· first | exact rfl | exact hgn | exact hgf | exact hgl))) | fail)); (· decide +kernel); (· exact rfl); (· exact rfl))
  (refine dr_one 6 rfl (by decide +kernel) (by (apply le_of_picks; (repeat (first | exact Picks.nil | (apply Picks.cons; (· (repeat (first | exact Pick.here | apply Pick.there)))) | apply Picks.empty)))) ?_)
  -- CALL op 6
  ((first | (apply op_call; (· exact rfl)) | apply op_call0); (· exact rfl); rotate_left 1; (· exact fun w hG hw => put32u_any w _ 0 32 32 83 (List.replicate 32 0) _ (by decide) (by decide) hw); rotate_right 1; (· (repeat (first | exact Picks.nil | (apply Picks.cons; (· (repeat (first | exact Pick.here | apply Pick.there)))) | apply Picks.empty))))
  intro _ _
  obtain ⟨l1, e1⟩ : ∃ l, l = put32L (List.replicate 32 0) 0 D.s.a := ⟨_, rfl⟩
  rw [← e1]
  have n1 : l1.length = 32 := by rw [e1, put32L_len]; rfl
  refine ops_nil ?_
  refine fin_draw ?_
  (refine dr_done (by decide +kernel) (by (apply le_of_picks; (repeat (first | exact Picks.nil | (apply Picks.cons; (· (repeat (first | exact Pick.here | apply Pick.there)))) | apply Picks.empty)))) ?_)
  refine fin_code ?_
  refine run_seq ?_
  refine run_drawS [] (by kernel_rfl) ?_
  (apply dr_stab 0; (· exact rfl); (· exact rfl); (· apply Val.s; first | first | exact val_slicePL 0 rfl rfl rfl (by decide) | exact val_slicePL 4 rfl rfl rfl (by decide) | exact val_slicePL 8 rfl rfl rfl (by decide) | exact val_slicePL 12 rfl rfl rfl (by decide) | exact val_slicePL 16 rfl rfl rfl (by decide) | exact val_slicePL 20 rfl rfl rfl (by decide) | exact val_slicePL 24 rfl rfl rfl (by decide) | exact val_slicePL 28 rfl rfl rfl (by decide)); (· decide +kernel); (· exact rfl); (· exact rfl))
  refine dr_stab 1 rfl rfl (Val.s (val_move rfl)) (by decide +kernel) rfl rfl ?_
  refine dr_stab 2 rfl rfl (Val.s (val_nilCheck rfl)) (by decide +kernel) rfl rfl ?_
  refine dr_stab 3 rfl rfl (Val.s (val_fieldAddr rfl)) (by decide +kernel) rfl rfl ?_
  refine dr_stab 4 rfl rfl (Val.s (val_indexP rfl rfl (by omega))) (by decide +kernel) rfl rfl ?_
  (apply dr_read 5; (· exact rfl); (· exact rfl); (· (first | (apply val_load; (· exact rfl); (· apply cell_of_has; (· (repeat (first | exact Has.here | apply Has.there))); (· first | exact rfl | exact hgn | exact hgf | exact hgl))) | fail)); (· decide +kernel); (· exact rfl); (· exact rfl))
  (refine dr_one 6 rfl (by decide +kernel) (by (apply le_of_picks; (repeat (first | exact Picks.nil | (apply Picks.cons; (· (repeat (first | exact Pick.here | apply Pick.there)))) | apply Picks.empty)))) ?_)
  -- CALL op 6
  ((first | (apply op_call; (· exact rfl)) | apply op_call0); (· exact rfl); rotate_left 1; (· exact fun w hG hw => put32u_any w _ 4 28 28 83 l1 _ (by decide) (by omega) hw); rotate_right 1; (· (repeat (first | exact Picks.nil | (apply Picks.cons; (· (repeat (first | exact Pick.here | apply Pick.there)))) | apply Picks.empty))))
  intro _ _
  obtain ⟨l2, e2⟩ : ∃ l, l = put32L l1 4 D.s.b := ⟨_, rfl⟩
  rw [← e2]
  have n2 : l2.length = 32 := by rw [e2, put32L_len]; exact n1
  refine ops_nil ?_
  refine fin_draw ?_
  (refine dr_done (by decide +kernel) (by (apply le_of_picks; (repeat (first | exact Picks.nil | (apply Picks.cons; (· (repeat (first | exact Pick.here | apply Pick.there)))) | apply Picks.empty)))) ?_)
  refine fin_code ?_
  refine run_seq ?_
  refine run_drawS [] (by kernel_rfl) ?_
  (apply dr_stab 0; (· exact rfl); (· exact rfl); (· apply Val.s; first | first | exact val_slicePL 0 rfl rfl rfl (by decide) | exact val_slicePL 4 rfl rfl rfl (by decide) | exact val_slicePL 8 rfl rfl rfl (by decide) | exact val_slicePL 12 rfl rfl rfl (by decide) | exact val_slicePL 16 rfl rfl rfl (by decide) | exact val_slicePL 20 rfl rfl rfl (by decide) | exact val_slicePL 24 rfl rfl rfl (by decide) | exact val_slicePL 28 rfl rfl rfl (by decide)); (· decide +kernel); (· exact rfl); (· exact rfl))
  refine dr_stab 1 rfl rfl (Val.s (val_move rfl)) (by decide +kernel) rfl rfl ?_
  refine dr_stab 2 rfl rfl (Val.s (val_nilCheck rfl)) (by decide +kernel) rfl rfl ?_
  refine dr_stab 3 rfl rfl (Val.s (val_fieldAddr rfl)) (by decide +kernel) rfl rfl ?_
  refine dr_stab 4 rfl rfl (Val.s (val_indexP rfl rfl (by omega))) (by decide +kernel) rfl rfl ?_
  (apply dr_read 5; (· exact rfl); (· exact rfl); (· (first | (apply val_load; (· exact rfl); (· apply cell_of_has; (· (repeat (first | exact Has.here | apply Has.there))); (· first | exact rfl | exact hgn | exact hgf | exact hgl))) | fail)); (· decide +kernel); (· exact rfl); (· exact rfl))
  (refine dr_one 6 rfl (by decide +kernel) (by (apply le_of_picks; (repeat (first | exact Picks.nil | (apply Picks.cons; (· (repeat (first | exact Pick.here | apply Pick.there)))) | apply Picks.empty)))) ?_)
  -- CALL op 6
  ((first | (apply op_call; (· exact rfl)) | apply op_call0); (· exact rfl); rotate_left 1; (· exact fun w hG hw => put32u_any w _ 8 24 24 83 l2 _ (by decide) (by omega) hw); rotate_right 1; (· (repeat (first | exact Picks.nil | (apply Picks.cons; (· (repeat (first | exact Pick.here | apply Pick.there)))) | apply Picks.empty))))
  intro _ _
  obtain ⟨l3, e3⟩ : ∃ l, l = put32L l2 8 D.s.c := ⟨_, rfl⟩
  rw [← e3]
  have n3 : l3.length = 32 := by rw [e3, put32L_len]; exact n2
  refine ops_nil ?_
  refine fin_draw ?_
  (refine dr_done (by decide +kernel) (by (apply le_of_picks; (repeat (first | exact Picks.nil | (apply Picks.cons; (· (repeat (first | exact Pick.here | apply Pick.there)))) | apply Picks.empty)))) ?_)
  refine fin_code ?_
  refine run_seq ?_
  refine run_drawS [] (by kernel_rfl) ?_
  (apply dr_stab 0; (· exact rfl); (· exact rfl); (· apply Val.s; first | first | exact val_slicePL 0 rfl rfl rfl (by decide) | exact val_slicePL 4 rfl rfl rfl (by decide) | exact val_slicePL 8 rfl rfl rfl (by decide) | exact val_slicePL 12 rfl rfl rfl (by decide) | exact val_slicePL 16 rfl rfl rfl (by decide) | exact val_slicePL 20 rfl rfl rfl (by decide) | exact val_slicePL 24 rfl rfl rfl (by decide) | exact val_slicePL 28 rfl rfl rfl (by decide)); (· decide +kernel); (· exact rfl); (· exact rfl))
  refine dr_stab 1 rfl rfl (Val.s (val_move rfl)) (by decide +kernel) rfl rfl ?_
  refine dr_stab 2 rfl rfl (Val.s (val_nilCheck rfl)) (by decide +kernel) rfl rfl ?_
  refine dr_stab 3 rfl rfl (Val.s (val_fieldAddr rfl)) (by decide +kernel) rfl rfl ?_
  refine dr_stab 4 rfl rfl (Val.s (val_indexP rfl rfl (by omega))) (by decide +kernel) rfl rfl ?_
  (apply dr_read 5; (· exact rfl); (· exact rfl); (· (first | (apply val_load; (· exact rfl); (· apply cell_of_has; (· (repeat (first | exact Has.here | apply Has.there))); (· first | exact rfl | exact hgn | exact hgf | exact hgl))) | fail)); (· decide +kernel); (· exact rfl); (· exact rfl))
  (refine dr_one 6 rfl (by decide +kernel) (by (apply le_of_picks; (repeat (first | exact Picks.nil | (apply Picks.cons; (· (repeat (first | exact Pick.here | apply Pick.there)))) | apply Picks.empty)))) ?_)
  -- CALL op 6
  ((first | (apply op_call; (· exact rfl)) | apply op_call0); (· exact rfl); rotate_left 1; (· exact fun w hG hw => put32u_any w _ 12 20 20 83 l3 _ (by decide) (by omega) hw); rotate_right 1; (· (repeat (first | exact Picks.nil | (apply Picks.cons; (· (repeat (first | exact Pick.here | apply Pick.there)))) | apply Picks.empty))))
  intro _ _
  obtain ⟨l4, e4⟩ : ∃ l, l = put32L l3 12 D.s.d := ⟨_, rfl⟩
  rw [← e4]
  have n4 : l4.length = 32 := by rw [e4, put32L_len]; exact n3
  refine ops_nil ?_
  refine fin_draw ?_
  (refine dr_done (by decide +kernel) (by (apply le_of_picks; (repeat (first | exact Picks.nil | (apply Picks.cons; (· (repeat (first | exact Pick.here | apply Pick.there)))) | apply Picks.empty)))) ?_)
  refine fin_code ?_
  refine run_seq ?_
  refine run_drawS [] (by kernel_rfl) ?_
  (apply dr_stab 0; (· exact rfl); (· exact rfl); (· apply Val.s; first | first | exact val_slicePL 0 rfl rfl rfl (by decide) | exact val_slicePL 4 rfl rfl rfl (by decide) | exact val_slicePL 8 rfl rfl rfl (by decide) | exact val_slicePL 12 rfl rfl rfl (by decide) | exact val_slicePL 16 rfl rfl rfl (by decide) | exact val_slicePL 20 rfl rfl rfl (by decide) | exact val_slicePL 24 rfl rfl rfl (by decide) | exact val_slicePL 28 rfl rfl rfl (by decide)); (· decide +kernel); (· exact rfl); (· exact rfl))
  refine dr_stab 1 rfl rfl (Val.s (val_move rfl)) (by decide +kernel) rfl rfl ?_
  refine dr_stab 2 rfl rfl (Val.s (val_nilCheck rfl)) (by decide +kernel) rfl rfl ?_
  refine dr_stab 3 rfl rfl (Val.s (val_fieldAddr rfl)) (by decide +kernel) rfl rfl ?_
  refine dr_stab 4 rfl rfl (Val.s (val_indexP rfl rfl (by omega))) (by decide +kernel) rfl rfl ?_
  (apply dr_read 5; (· exact rfl); (· exact rfl); (· (first | (apply val_load; (· exact rfl); (· apply cell_of_has; (· (repeat (first | exact Has.here | apply Has.there))); (· first | exact rfl | exact hgn | exact hgf | exact hgl))) | fail)); (· decide +kernel); (· exact rfl); (· exact rfl))
  (refine dr_one 6 rfl (by decide +kernel) (by (apply le_of_picks; (repeat (first | exact Picks.nil | (apply Picks.cons; (· (repeat (first | exact Pick.here | apply Pick.there)))) | apply Picks.empty)))) ?_)
  -- CALL op 6
  ((first | (apply op_call; (· exact rfl)) | apply op_call0); (· exact rfl); rotate_left 1; (· exact fun w hG hw => put32u_any w _ 16 16 16 83 l4 _ (by decide) (by omega) hw); rotate_right 1; (· (repeat (first | exact Picks.nil | (apply Picks.cons; (· (repeat (first | exact Pick.here | apply Pick.there)))) | apply Picks.empty))))
  intro _ _
  obtain ⟨l5, e5⟩ : ∃ l, l = put32L l4 16 D.s.e := ⟨_, rfl⟩
  rw [← e5]
  have n5 : l5.length = 32 := by rw [e5, put32L_len]; exact n4
  refine ops_nil ?_
  refine fin_draw ?_
  (refine dr_done (by decide +kernel) (by (apply le_of_picks; (repeat (first | exact Picks.nil | (apply Picks.cons; (· (repeat (first | exact Pick.here | apply Pick.there)))) | apply Picks.empty)))) ?_)
  refine fin_code ?_
  refine run_seq ?_
  refine run_drawS [] (by kernel_rfl) ?_
  (apply dr_stab 0; (· exact rfl); (· exact rfl); (· apply Val.s; first | first | exact val_slicePL 0 rfl rfl rfl (by decide) | exact val_slicePL 4 rfl rfl rfl (by decide) | exact val_slicePL 8 rfl rfl rfl (by decide) | exact val_slicePL 12 rfl rfl rfl (by decide) | exact val_slicePL 16 rfl rfl rfl (by decide) | exact val_slicePL 20 rfl rfl rfl (by decide) | exact val_slicePL 24 rfl rfl rfl (by decide) | exact val_slicePL 28 rfl rfl rfl (by decide)); (· decide +kernel); (· exact rfl); (· exact rfl))
  refine dr_stab 1 rfl rfl (Val.s (val_move rfl)) (by decide +kernel) rfl rfl ?_
  refine dr_stab 2 rfl rfl (Val.s (val_nilCheck rfl)) (by decide +kernel) rfl rfl ?_
  refine dr_stab 3 rfl rfl (Val.s (val_fieldAddr rfl)) (by decide +kernel) rfl rfl ?_
  refine dr_stab 4 rfl rfl (Val.s (val_indexP rfl rfl (by omega))) (by decide +kernel) rfl rfl ?_
  (apply dr_read 5; (· exact rfl); (· exact rfl); (· (first | (apply val_load; (· exact rfl); (· apply cell_of_has; (· (repeat (first | exact Has.here | apply Has.there))); (· first | exact rfl | exact hgn | exact hgf | exact hgl))) | fail)); (· decide +kernel); (· exact rfl); (· exact rfl))
  (refine dr_one 6 rfl (by decide +kernel) (by (apply le_of_picks; (repeat (first | exact Picks.nil | (apply Picks.cons; (· (repeat (first | exact Pick.here | apply Pick.there)))) | apply Picks.empty)))) ?_)
  -- CALL op 6
  ((first | (apply op_call; (· exact rfl)) | apply op_call0); (· exact rfl); rotate_left 1; (· exact fun w hG hw => put32u_any w _ 20 12 12 83 l5 _ (by decide) (by omega) hw); rotate_right 1; (· (repeat (first | exact Picks.nil | (apply Picks.cons; (· (repeat (first | exact Pick.here | apply Pick.there)))) | apply Picks.empty))))
  intro _ _
  obtain ⟨l6, e6⟩ : ∃ l, l = put32L l5 20 D.s.f := ⟨_, rfl⟩
  rw [← e6]
  have n6 : l6.length = 32 := by rw [e6, put32L_len]; exact n5
  refine ops_nil ?_
  refine fin_draw ?_
  (refine dr_done (by decide +kernel) (by (apply le_of_picks; (repeat (first | exact Picks.nil | (apply Picks.cons; (· (repeat (first | exact Pick.here | apply Pick.there)))) | apply Picks.empty)))) ?_)
  refine fin_code ?_
  refine run_seq ?_
  refine run_drawS [] (by kernel_rfl) ?_
  (apply dr_stab 0; (· exact rfl); (· exact rfl); (· apply Val.s; first | first | exact val_slicePL 0 rfl rfl rfl (by decide) | exact val_slicePL 4 rfl rfl rfl (by decide) | exact val_slicePL 8 rfl rfl rfl (by decide) | exact val_slicePL 12 rfl rfl rfl (by decide) | exact val_slicePL 16 rfl rfl rfl (by decide) | exact val_slicePL 20 rfl rfl rfl (by decide) | exact val_slicePL 24 rfl rfl rfl (by decide) | exact val_slicePL 28 rfl rfl rfl (by decide)); (· decide +kernel); (· exact rfl); (· exact rfl))
  refine dr_stab 1 rfl rfl (Val.s (val_move rfl)) (by decide +kernel) rfl rfl ?_
  refine dr_stab 2 rfl rfl (Val.s (val_nilCheck rfl)) (by decide +kernel) rfl rfl ?_
  refine dr_stab 3 rfl rfl (Val.s (val_fieldAddr rfl)) (by decide +kernel) rfl rfl ?_
  refine dr_stab 4 rfl rfl (Val.s (val_indexP rfl rfl (by omega))) (by decide +kernel) rfl rfl ?_
  (apply dr_read 5; (· exact rfl); (· exact rfl); (· (first | (apply val_load; (· exact rfl); (· apply cell_of_has; (· (repeat (first | exact Has.here | apply Has.there))); (· first | exact rfl | exact hgn | exact hgf | exact hgl))) | fail)); (· decide +kernel); (· exact rfl); (· exact rfl))
  (refine dr_one 6 rfl (by decide +kernel) (by (apply le_of_picks; (repeat (first | exact Picks.nil | (apply Picks.cons; (· (repeat (first | exact Pick.here | apply Pick.there)))) | apply Picks.empty)))) ?_)
  -- CALL op 6
  ((first | (apply op_call; (· exact rfl)) | apply op_call0); (· exact rfl); rotate_left 1; (· exact fun w hG hw => put32u_any w _ 24 8 8 83 l6 _ (by decide) (by omega) hw); rotate_right 1; (· (repeat (first | exact Picks.nil | (apply Picks.cons; (· (repeat (first | exact Pick.here | apply Pick.there)))) | apply Picks.empty))))
  intro _ _
  obtain ⟨l7, e7⟩ : ∃ l, l = put32L l6 24 D.s.g := ⟨_, rfl⟩
  rw [← e7]
  have n7 : l7.length = 32 := by rw [e7, put32L_len]; exact n6
  refine ops_nil ?_
  refine fin_draw ?_
  (refine dr_done (by decide +kernel) (by (apply le_of_picks; (repeat (first | exact Picks.nil | (apply Picks.cons; (· (repeat (first | exact Pick.here | apply Pick.there)))) | apply Picks.empty)))) ?_)
  refine fin_code ?_
  refine run_seq ?_
  refine run_seq ?_
  refine run_region rfl ?_
  refine op_move rfl rfl ?_
  refine op_nilCheck rfl rfl ?_
  refine op_fieldAddr rfl rfl ?_
  (apply op_load; (· exact rfl); (· exact rfl); (· apply cell_of_has; (· (repeat (first | exact Has.here | apply Has.there))); (· first | exact rfl | exact hgn | exact hgf | exact hgl)))
  refine op_not rfl rfl ?_
  refine ops_nil ?_
  refine fin_code ?_
  refine run_cond_t rfl ?_
  refine run_drawS [] (by kernel_rfl) ?_
  (apply dr_stab 0; (· exact rfl); (· exact rfl); (· apply Val.s; first | first | exact val_slicePL 0 rfl rfl rfl (by decide) | exact val_slicePL 4 rfl rfl rfl (by decide) | exact val_slicePL 8 rfl rfl rfl (by decide) | exact val_slicePL 12 rfl rfl rfl (by decide) | exact val_slicePL 16 rfl rfl rfl (by decide) | exact val_slicePL 20 rfl rfl rfl (by decide) | exact val_slicePL 24 rfl rfl rfl (by decide) | exact val_slicePL 28 rfl rfl rfl (by decide)); (· decide +kernel); (· exact rfl); (· exact rfl))
  refine dr_stab 1 rfl rfl (Val.s (val_move rfl)) (by decide +kernel) rfl rfl ?_
  refine dr_stab 2 rfl rfl (Val.s (val_nilCheck rfl)) (by decide +kernel) rfl rfl ?_
  refine dr_stab 3 rfl rfl (Val.s (val_fieldAddr rfl)) (by decide +kernel) rfl rfl ?_
  refine dr_stab 4 rfl rfl (Val.s (val_indexP rfl rfl (by omega))) (by decide +kernel) rfl rfl ?_
  (apply dr_read 5; (· exact rfl); (· exact rfl); (· (first | (apply val_load; (· exact rfl); (· apply cell_of_has; (· (repeat (first | exact Has.here | apply Has.there))); (· first | exact rfl | exact hgn | exact hgf | exact hgl))) | fail)); (· decide +kernel); (· exact rfl); (· exact rfl))
  (refine dr_one 6 rfl (by decide +kernel) (by (apply le_of_picks; (repeat (first | exact Picks.nil | (apply Picks.cons; (· (repeat (first | exact Pick.here | apply Pick.there)))) | apply Picks.empty)))) ?_)
  -- CALL op 6
  ((first | (apply op_call; (· exact rfl)) | apply op_call0); (· exact rfl); rotate_left 1; (· exact fun w hG hw => put32u_any w _ 28 4 4 83 l7 _ (by decide) (by omega) hw); rotate_right 1; (· (repeat (first | exact Picks.nil | (apply Picks.cons; (· (repeat (first | exact Pick.here | apply Pick.there)))) | apply Picks.empty))))
  intro _ _
  obtain ⟨l8, e8⟩ : ∃ l, l = put32L l7 28 D.s.h := ⟨_, rfl⟩
  rw [← e8]
  have n8 : l8.length = 32 := by rw [e8, put32L_len]; exact n7
  refine ops_nil ?_
  refine fin_draw ?_
  (refine dr_done (by decide +kernel) (by (apply le_of_picks; (repeat (first | exact Picks.nil | (apply Picks.cons; (· (repeat (first | exact Pick.here | apply Pick.there)))) | apply Picks.empty)))) ?_)
  refine fin_code ?_
  refine run_seq ?_
  refine run_region rfl ?_
  have hdl : l8 = digL D.s := by rw [e8, e7, e6, e5, e4, e3, e2, e1]; rfl
  rw [hdl]
  refine op_loadAll rfl rfl (by (repeat (first | exact Has.here | apply Has.there))) (digL_len' D.s) ?_
  (apply op_storeAll; (· exact rfl); (· exact rfl); (· exact digL_len' D.s); (· exact u8_oneA (digL D.s)); (· (repeat (first | exact Swap.here | apply Swap.there))); (· exact rfl))
  refine ops_nil ?_
  refine fin_code ?_
  refine run_ret ?_
  refine fin_retC rfl rfl (by (repeat (first | exact Has.here | apply Has.there))) (digL_len' D.s) ?_
  intro w' g'
  exact hR _ _ (post_of g' () trivial rfl (by (apply le_of_picks; (repeat (first | exact Picks.nil | (apply Picks.cons; (· (repeat (first | exact Pick.here | apply Pick.there)))) | apply Picks.empty)))))
end Go.Proofs.Eng
