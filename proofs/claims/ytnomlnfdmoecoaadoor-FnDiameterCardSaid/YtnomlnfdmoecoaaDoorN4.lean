/- A part of the proof: what functions of the program do, step by step. -/
import Derived.Test.YtnomlnfdmoecoaaDoorN3
set_option linter.unusedVariables false
set_option linter.unusedSimpArgs false
namespace Go.Proofs.Eng
open Go.RowKit
theorem u64_shl13 (r : UInt64) : IntKind.u64.wrap ((r.toNat : Int) * 2 ^ (min (13 : Int).toNat IntKind.u64.bits)) = ((r <<< 13).toNat : Int) := by
  simp [IntKind.wrap, IntKind.bits, IntKind.signed, UInt64.toNat_shiftLeft, Nat.shiftLeft_eq]
theorem u64_shl17 (r : UInt64) : IntKind.u64.wrap ((r.toNat : Int) * 2 ^ (min (17 : Int).toNat IntKind.u64.bits)) = ((r <<< 17).toNat : Int) := by
  simp [IntKind.wrap, IntKind.bits, IntKind.signed, UInt64.toNat_shiftLeft, Nat.shiftLeft_eq]
theorem u64_shr7 (r : UInt64) : ((r.toNat : Int)).fdiv (2 ^ (min (7 : Int).toNat IntKind.u64.bits)) = ((r >>> 7).toNat : Int) := by
  simp [IntKind.bits, UInt64.toNat_shiftRight, Nat.shiftRight_eq_div_pow]
  rw [Int.fdiv_eq_ediv_of_nonneg _ (by omega)]
theorem u64_xor (r s : UInt64) : bitop .xor .u64 (r.toNat : Int) (s.toNat : Int) = ((r ^^^ s).toNat : Int) := by
  have h : (r ^^^ s).toNat < 18446744073709551616 := (r ^^^ s).toNat_lt
  have e : (BitVec.ofInt 64 (r.toNat : Int) ^^^ BitVec.ofInt 64 (s.toNat : Int)).toNat = (r ^^^ s).toNat := by
    rw [BitVec.toNat_xor, BitVec.ofInt_natCast, BitVec.ofInt_natCast, BitVec.toNat_ofNat, BitVec.toNat_ofNat, Nat.mod_eq_of_lt r.toNat_lt, Nat.mod_eq_of_lt s.toNat_lt, UInt64.toNat_xor]
  have e2 : bitop .xor .u64 (r.toNat : Int) (s.toNat : Int) = IntKind.u64.wrap ((BitVec.ofInt 64 (r.toNat : Int) ^^^ BitVec.ofInt 64 (s.toNat : Int)).toNat : Int) := rfl
  rw [e2, e]
  exact wrap_in (by simp only [kLo]; omega) (by simp only [kHi]; omega)
theorem u64_and (r : UInt64) (x : Nat) (hx : x < 18446744073709551616) : bitop .and .u64 (r.toNat : Int) (x : Int) = ((r.toNat &&& x : Nat) : Int) := by
  have h : r.toNat &&& x ≤ x := Nat.and_le_right
  have e : (BitVec.ofInt 64 (r.toNat : Int) &&& BitVec.ofInt 64 (x : Int)).toNat = r.toNat &&& x := by
    rw [BitVec.toNat_and, BitVec.ofInt_natCast, BitVec.ofInt_natCast, BitVec.toNat_ofNat, BitVec.toNat_ofNat, Nat.mod_eq_of_lt r.toNat_lt, Nat.mod_eq_of_lt hx]
  have e2 : bitop .and .u64 (r.toNat : Int) (x : Int) = IntKind.u64.wrap ((BitVec.ofInt 64 (r.toNat : Int) &&& BitVec.ofInt 64 (x : Int)).toNat : Int) := rfl
  rw [e2, e]
  exact wrap_in (by simp only [kLo]; omega) (by simp only [kHi]; omega)
theorem op_shrE {C : Ctx} {ks : List Kont} {E : Env} {Ls : List Hp} {ops : Array Oper} {rest : List Oper} {ty : Nat} {pos : String} {af : Array Edge} {d bt bt' : Nat} {x y : Operand} {ik yk : IntKind} {m n r : Int}
    (hn : Nat.blt d C.fn.ntmps = true) (hx : ev E x = some (.int ik m)) (hy : ev E y = some (.int yk n)) (h : 0 ≤ n) (hr : m.fdiv (2 ^ (min n.toNat ik.bits)) = r) (k : Ops C ops rest ks ((d, .int ik r) :: E) Ls) : Ops C ops (⟨some d, .binOp .shr bt x y bt', ty, pos, af, none⟩ :: rest) ks E Ls := by
  subst hr
  exact op_shr (hn := hn) hx hy h k
def tabOk (s : ByteArray) : Bool := (List.range 256).all fun x => s.data[x]? == some (UInt8.ofNat (Sort.bitsLen x))
theorem bitsLen_8 {m : Nat} (h : m < 256) : Sort.bitsLen m ≤ 8 := by
  unfold Sort.bitsLen
  split
  · omega
  · rename_i h0
    have := (Nat.log2_lt (k := 8) h0).2 (by omega)
    omega
theorem val_tab {C : Ctx} {E : Env} {ty : Nat} {pos : String} {af : Array Edge} {dd : Option Nat} {gg : Option (Nat × Bool)} {x y : Operand} {t : Nat} {s : ByteArray} {ik : IntKind} {m : Nat} [c : TStr C.P t] (hx : ev E x = some (.string s)) (hy : ev E y = some (.int ik (m : Int))) (hm : m < 256) (ht : tabOk s = true) :
    Val C E ⟨dd, .index t x y, ty, pos, af, gg⟩ (.int .u8 (Sort.bitsLen m : Nat)) := by
  have h1 := List.all_eq_true.1 ht m (List.mem_range.2 hm)
  have h2 : s.data[m]? = some (UInt8.ofNat (Sort.bitsLen m)) := by simpa using h1
  have h3 := bitsLen_8 hm
  have := val_sindex (C := C) (E := E) (dd := dd) (ty := ty) (pos := pos) (af := af) (gg := gg) (t := t) hx hy (by omega) (by rw [Int.toNat_natCast]; exact h2)
  rw [show (UInt8.ofNat (Sort.bitsLen m)).toNat = Sort.bitsLen m by rw [UInt8.toNat_ofNat']; omega] at this
  exact this
theorem log2_half {n : Nat} (h : 2 ≤ n) : Nat.log2 n = Nat.log2 (n / 2) + 1 := by
  rw [Nat.log2_def, if_pos h]
theorem bitsLen_256 {n : Nat} (h : 256 ≤ n) : Sort.bitsLen n = 8 + Sort.bitsLen (n / 256) := by
  unfold Sort.bitsLen
  rw [if_neg (by omega), if_neg (by omega)]
  rw [log2_half (by omega), log2_half (n := n / 2) (by omega), log2_half (n := n / 2 / 2) (by omega), log2_half (n := n / 2 / 2 / 2) (by omega), log2_half (n := n / 2 / 2 / 2 / 2) (by omega), log2_half (n := n / 2 / 2 / 2 / 2 / 2) (by omega), log2_half (n := n / 2 / 2 / 2 / 2 / 2 / 2) (by omega), log2_half (n := n / 2 / 2 / 2 / 2 / 2 / 2 / 2) (by omega)]
  rw [show n / 2 / 2 / 2 / 2 / 2 / 2 / 2 / 2 = n / 256 by omega]
  omega
theorem bitsLen_pow {l : Nat} (h : 0 < l) : 2 ^ Sort.bitsLen l ≤ 2 * l := by
  unfold Sort.bitsLen
  rw [if_neg (by omega), Nat.pow_succ]
  have := Nat.log2_self_le (n := l) (by omega)
  omega
set_option maxRecDepth 100000 in
set_option maxHeartbeats 8000000 in
theorem len64_any (w : World) (m : Nat) (hm : m ≤ 65535) : Calls Tryd.prog 48 #[.int .u64 m] w (Post w ([] : List Hp).flatten (fun _ : Unit => .int .i64 (Sort.bitsLen m : Nat)) (fun _ => ([] : List Hp).flatten) (fun _ => True)) := by
  refine enter [] Tryd.func48 rfl rfl (At.nil w) (Le.refl _) ?_
  intro R hR
  by_cases h : 256 ≤ m
  · have e := bitsLen_256 h
    rw [e] at hR
    have hsh : ((m : Nat) : Int).fdiv (2 ^ (min (8 : Int).toNat IntKind.u64.bits)) = ((m / 256 : Nat) : Int) := by
      simp [IntKind.bits]
      rw [Int.fdiv_eq_ediv_of_nonneg _ (by omega)]
    have h1 : m / 256 < 256 := by omega
    have h8 := bitsLen_8 h1
    refine run_seq ?_
    refine run_region rfl ?_
    refine op_assign rfl rfl ?_
    refine ops_nil ?_
    refine fin_code ?_
    refine run_seq ?_
    refine run_seq ?_
    refine run_region rfl ?_
    refine op_move rfl rfl ?_
    refine op_cmp_f rfl rfl rfl rfl (by first | (simp only [cmpP]; done) | (simp only [cmpP]; omega)) ?_
    refine ops_nil ?_
    refine fin_code ?_
    refine run_cond_f rfl ?_
    refine run_skip ?_
    refine fin_code ?_
    refine run_seq ?_
    refine run_seq ?_
    refine run_region rfl ?_
    refine op_move rfl rfl ?_
    refine op_cmp_f rfl rfl rfl rfl (by first | (simp only [cmpP]; done) | (simp only [cmpP]; omega)) ?_
    refine ops_nil ?_
    refine fin_code ?_
    refine run_cond_f rfl ?_
    refine run_skip ?_
    refine fin_code ?_
    refine run_seq ?_
    refine run_seq ?_
    refine run_region rfl ?_
    refine op_move rfl rfl ?_
    refine op_cmp_t rfl rfl rfl rfl (by first | (simp only [cmpP]; done) | (simp only [cmpP]; omega)) ?_
    refine ops_nil ?_
    refine fin_code ?_
    refine run_cond_t rfl ?_
    refine run_seq ?_
    refine run_region rfl ?_
    refine op_move rfl rfl ?_
    (refine op_shrE rfl rfl rfl (by omega) (by assumption) ?_)
    refine op_assign rfl rfl ?_
    refine ops_nil ?_
    refine fin_code ?_
    refine run_region rfl ?_
    refine op_move rfl rfl ?_
    refine op_add rfl rfl rfl (by simp only [kLo, kHi]; omega) ?_
    refine op_assign rfl rfl ?_
    refine ops_nil ?_
    refine fin_code ?_
    refine run_seq ?_
    refine run_region rfl ?_
    refine op_move rfl rfl ?_
    refine op_move rfl rfl ?_
    refine op_conv rfl rfl (by simp only [kLo, kHi]; omega) ?_
    refine op_val rfl (val_tab rfl rfl h1 (by decide +kernel)) ?_
    refine op_conv rfl rfl (by simp only [kLo, kHi]; omega) ?_
    refine op_add rfl rfl rfl (by simp only [kLo, kHi]; omega) ?_
    refine op_assign rfl rfl ?_
    refine ops_nil ?_
    refine fin_code ?_
    refine run_ret ?_
    refine fin_ret1 rfl rfl ?_
    intro w' g
    exact hR _ _ (post_of g () trivial (by rw [Int.natCast_add]; rfl) (by (apply le_of_picks; (repeat (first | exact Picks.nil | (apply Picks.cons; (· (repeat (first | exact Pick.here | apply Pick.there)))) | apply Picks.empty)))))
  · have h1 : m < 256 := by omega
    have h8 := bitsLen_8 h1
    refine run_seq ?_
    refine run_region rfl ?_
    refine op_assign rfl rfl ?_
    refine ops_nil ?_
    refine fin_code ?_
    refine run_seq ?_
    refine run_seq ?_
    refine run_region rfl ?_
    refine op_move rfl rfl ?_
    refine op_cmp_f rfl rfl rfl rfl (by first | (simp only [cmpP]; done) | (simp only [cmpP]; omega)) ?_
    refine ops_nil ?_
    refine fin_code ?_
    refine run_cond_f rfl ?_
    refine run_skip ?_
    refine fin_code ?_
    refine run_seq ?_
    refine run_seq ?_
    refine run_region rfl ?_
    refine op_move rfl rfl ?_
    refine op_cmp_f rfl rfl rfl rfl (by first | (simp only [cmpP]; done) | (simp only [cmpP]; omega)) ?_
    refine ops_nil ?_
    refine fin_code ?_
    refine run_cond_f rfl ?_
    refine run_skip ?_
    refine fin_code ?_
    refine run_seq ?_
    refine run_seq ?_
    refine run_region rfl ?_
    refine op_move rfl rfl ?_
    refine op_cmp_f rfl rfl rfl rfl (by first | (simp only [cmpP]; done) | (simp only [cmpP]; omega)) ?_
    refine ops_nil ?_
    refine fin_code ?_
    refine run_cond_f rfl ?_
    refine run_skip ?_
    refine fin_code ?_
    refine run_seq ?_
    refine run_region rfl ?_
    refine op_move rfl rfl ?_
    refine op_move rfl rfl ?_
    refine op_conv rfl rfl (by simp only [kLo, kHi]; omega) ?_
    refine op_val rfl (val_tab rfl rfl h1 (by decide +kernel)) ?_
    refine op_conv rfl rfl (by simp only [kLo, kHi]; omega) ?_
    refine op_add rfl rfl rfl (by simp only [kLo, kHi]; omega) ?_
    refine op_assign rfl rfl ?_
    refine ops_nil ?_
    refine fin_code ?_
    refine run_ret ?_
    refine fin_ret1 rfl rfl ?_
    intro w' g
    exact hR _ _ (post_of g () trivial (by rw [Int.zero_add]) (by (apply le_of_picks; (repeat (first | exact Picks.nil | (apply Picks.cons; (· (repeat (first | exact Pick.here | apply Pick.there)))) | apply Picks.empty)))))
theorem bitsLen_17 {m : Nat} (h : m ≤ 65535) : Sort.bitsLen m ≤ 16 := by
  by_cases h2 : 256 ≤ m
  · rw [bitsLen_256 h2]
    have := bitsLen_8 (m := m / 256) (by omega)
    omega
  · have := bitsLen_8 (m := m) (by omega)
    omega
set_option maxRecDepth 100000 in
theorem blen_any (w : World) (m : Nat) (hm : m ≤ 65535) : Calls Tryd.prog 42 #[.int .u64 m] w (Post w ([] : List Hp).flatten (fun _ : Unit => .int .i64 (Sort.bitsLen m : Nat)) (fun _ => ([] : List Hp).flatten) (fun _ => True)) := by
  refine enter [] Tryd.func42 rfl rfl (At.nil w) (Le.refl _) ?_
  intro R hR
  refine run_seq ?_
  refine run_region rfl ?_
  refine op_assign rfl rfl ?_
  refine ops_nil ?_
  refine fin_code ?_
  refine run_seq ?_
  refine run_cond_f rfl ?_
  refine run_skip ?_
  refine fin_code ?_
  refine run_seq ?_
  refine run_region rfl ?_
  refine op_move rfl rfl ?_
  ((first | (apply op_call; (· exact rfl)) | apply op_call0); (· exact rfl); rotate_left 1; (· exact fun w hG hw => len64_any w m hm); rotate_right 1; (· (repeat (first | exact Picks.nil | (apply Picks.cons; (· (repeat (first | exact Pick.here | apply Pick.there)))) | apply Picks.empty))))
  intro _ _
  refine op_assign rfl rfl ?_
  refine ops_nil ?_
  refine fin_code ?_
  refine run_ret ?_
  refine fin_ret1 rfl rfl ?_
  intro w' g
  exact hR _ _ (post_of g () trivial rfl (by (apply le_of_picks; (repeat (first | exact Picks.nil | (apply Picks.cons; (· (repeat (first | exact Pick.here | apply Pick.there)))) | apply Picks.empty)))))
set_option maxRecDepth 100000 in
theorem npot_any (w : World) (m : Nat) (hm : m ≤ 65535) : Calls Tryd.prog 60 #[.int .i64 m] w (Post w ([] : List Hp).flatten (fun _ : Unit => .int .u64 ((2 ^ Sort.bitsLen m : Nat) : Int)) (fun _ => ([] : List Hp).flatten) (fun _ => True)) := by
  refine enter [] Tryd.func60 rfl rfl (At.nil w) (Le.refl _) ?_
  intro R hR
  have h1 := bitsLen_17 hm
  have hsh : IntKind.u64.wrap ((1 : Int) * 2 ^ (min ((Sort.bitsLen m : Nat) : Int).toNat IntKind.u64.bits)) = ((2 ^ Sort.bitsLen m : Nat) : Int) := by
    rw [Int.toNat_natCast, show min (Sort.bitsLen m) IntKind.u64.bits = Sort.bitsLen m by simp [IntKind.bits]; omega, Int.one_mul]
    have : 2 ^ Sort.bitsLen m ≤ 2 ^ 16 := Nat.pow_le_pow_right (by omega) h1
    rw [show ((2 : Int) ^ Sort.bitsLen m) = ((2 ^ Sort.bitsLen m : Nat) : Int) by rw [Int.natCast_pow]; rfl]
    generalize 2 ^ Sort.bitsLen m = P at *
    exact wrap_in (by simp only [kLo]; omega) (by simp only [kHi]; omega)
  refine run_seq ?_
  refine run_region rfl ?_
  refine op_assign rfl rfl ?_
  refine ops_nil ?_
  refine fin_code ?_
  refine run_seq ?_
  refine run_region rfl ?_
  refine op_move rfl rfl ?_
  refine op_conv rfl rfl (by simp only [kLo, kHi]; omega) ?_
  ((first | (apply op_call; (· exact rfl)) | apply op_call0); (· exact rfl); rotate_left 1; (· exact fun w hG hw => blen_any w m hm); rotate_right 1; (· (repeat (first | exact Picks.nil | (apply Picks.cons; (· (repeat (first | exact Pick.here | apply Pick.there)))) | apply Picks.empty))))
  intro _ _
  refine op_conv rfl rfl (by simp only [kLo, kHi]; omega) ?_
  refine op_assign rfl rfl ?_
  refine ops_nil ?_
  refine fin_code ?_
  refine run_seq ?_
  refine run_region rfl ?_
  refine op_move rfl rfl ?_
  (refine op_shlE rfl rfl rfl (by omega) (by assumption) ?_)
  refine op_assign rfl rfl ?_
  refine ops_nil ?_
  refine fin_code ?_
  refine run_ret ?_
  refine fin_ret1 rfl rfl ?_
  intro w' g
  exact hR _ _ (post_of g () trivial rfl (by (apply le_of_picks; (repeat (first | exact Picks.nil | (apply Picks.cons; (· (repeat (first | exact Pick.here | apply Pick.there)))) | apply Picks.empty)))))
def xsB (q : Nat) (r : UInt64) : Hp := [⟨q, .cells #[.int .u64 r.toNat] 126 (0, 0)⟩]
set_option maxRecDepth 100000 in
set_option maxHeartbeats 8000000 in
theorem xnext_any (w : World) (q : Nat) (r : UInt64) (hw : At w ([xsB q r] : List Hp).flatten) : Calls Tryd.prog 61 #[.pointer (some ⟨q, 0, none⟩)] w (Post w ([xsB q r] : List Hp).flatten (fun _ : Unit => .int .u64 (Sort.xorNext r).toNat) (fun _ => ([xsB q (Sort.xorNext r)] : List Hp).flatten) (fun _ => True)) := by
  refine enter [xsB q r] Tryd.func61 rfl rfl hw (Le.refl _) ?_
  intro R hR
  unfold Sort.xorNext at hR
  dsimp only [xsB] at hR ⊢
  have s1 := u64_shl13 r
  have x1 := u64_xor r (r <<< 13)
  generalize r <<< 13 = r' at *
  generalize r ^^^ r' = r1 at *
  have s2 := u64_shr7 r1
  have x2 := u64_xor r1 (r1 >>> 7)
  generalize r1 >>> 7 = r1' at *
  generalize r1 ^^^ r1' = r2 at *
  have s3 := u64_shl17 r2
  have x3 := u64_xor r2 (r2 <<< 17)
  generalize r2 <<< 17 = r2' at *
  generalize r2 ^^^ r2' = r3 at *
  refine run_seq ?_
  refine run_region rfl ?_
  refine op_assign rfl rfl ?_
  refine ops_nil ?_
  refine fin_code ?_
  refine run_seq ?_
  refine run_drawS [] (by kernel_rfl) ?_
  refine dr_stab 0 rfl rfl (Val.s (val_move rfl)) (by decide +kernel) rfl rfl ?_
  refine dr_stab 1 rfl rfl (Val.s (val_nilCheck rfl)) (by decide +kernel) rfl rfl ?_
  refine dr_stab 3 rfl rfl (Val.s (val_move rfl)) (by decide +kernel) rfl rfl ?_
  refine dr_stab 4 rfl rfl (Val.s (val_nilCheck rfl)) (by decide +kernel) rfl rfl ?_
  (apply dr_read 5; (· exact rfl); (· exact rfl); (· (first | (apply val_load; (· exact rfl); (· apply cell_of_has; (· (repeat (first | exact Has.here | apply Has.there))); (· first | exact rfl | exact nats_get _ _ _ (by omega)))) | fail)); (· decide +kernel); (· exact rfl); (· exact rfl))
  refine dr_stab 6 rfl rfl (Val.s (val_shlE rfl rfl (by omega) (by assumption))) (by decide +kernel) rfl rfl ?_
  (apply dr_read 2; (· exact rfl); (· exact rfl); (· (first | (apply val_load; (· exact rfl); (· apply cell_of_has; (· (repeat (first | exact Has.here | apply Has.there))); (· first | exact rfl | exact nats_get _ _ _ (by omega)))) | fail)); (· decide +kernel); (· exact rfl); (· exact rfl))
  refine dr_stab 7 rfl rfl (Val.s (val_bitsE rfl rfl rfl (by assumption))) (by decide +kernel) rfl rfl ?_
  refine dr_stab 8 rfl rfl (Val.s (val_nilCheck rfl)) (by decide +kernel) rfl rfl ?_
  (refine dr_one 9 rfl (by decide +kernel) (by (apply le_of_picks; (repeat (first | exact Picks.nil | (apply Picks.cons; (· (repeat (first | exact Pick.here | apply Pick.there)))) | apply Picks.empty)))) ?_)
  (apply op_store; (· exact rfl); (· exact rfl); (· exact rfl); (· (repeat (first | exact Swap.here | apply Swap.there))); (· first | decide | (simp; done) | (simp; omega) | assumption))
  refine ops_nil ?_
  refine fin_draw ?_
  (refine dr_done (by decide +kernel) (by (apply le_of_picks; (repeat (first | exact Picks.nil | (apply Picks.cons; (· (repeat (first | exact Pick.here | apply Pick.there)))) | apply Picks.empty)))) ?_)
  refine fin_code ?_
  refine run_seq ?_
  refine run_drawS [] (by kernel_rfl) ?_
  refine dr_stab 0 rfl rfl (Val.s (val_move rfl)) (by decide +kernel) rfl rfl ?_
  refine dr_stab 1 rfl rfl (Val.s (val_nilCheck rfl)) (by decide +kernel) rfl rfl ?_
  refine dr_stab 3 rfl rfl (Val.s (val_move rfl)) (by decide +kernel) rfl rfl ?_
  refine dr_stab 4 rfl rfl (Val.s (val_nilCheck rfl)) (by decide +kernel) rfl rfl ?_
  (apply dr_read 5; (· exact rfl); (· exact rfl); (· (first | (apply val_load; (· exact rfl); (· apply cell_of_has; (· (repeat (first | exact Has.here | apply Has.there))); (· first | exact rfl | exact nats_get _ _ _ (by omega)))) | fail)); (· decide +kernel); (· exact rfl); (· exact rfl))
  refine dr_stab 6 rfl rfl (Val.s (val_shrE rfl rfl (by omega) (by assumption))) (by decide +kernel) rfl rfl ?_
  (apply dr_read 2; (· exact rfl); (· exact rfl); (· (first | (apply val_load; (· exact rfl); (· apply cell_of_has; (· (repeat (first | exact Has.here | apply Has.there))); (· first | exact rfl | exact nats_get _ _ _ (by omega)))) | fail)); (· decide +kernel); (· exact rfl); (· exact rfl))
  refine dr_stab 7 rfl rfl (Val.s (val_bitsE rfl rfl rfl (by assumption))) (by decide +kernel) rfl rfl ?_
  refine dr_stab 8 rfl rfl (Val.s (val_nilCheck rfl)) (by decide +kernel) rfl rfl ?_
  (refine dr_one 9 rfl (by decide +kernel) (by (apply le_of_picks; (repeat (first | exact Picks.nil | (apply Picks.cons; (· (repeat (first | exact Pick.here | apply Pick.there)))) | apply Picks.empty)))) ?_)
  (apply op_store; (· exact rfl); (· exact rfl); (· exact rfl); (· (repeat (first | exact Swap.here | apply Swap.there))); (· first | decide | (simp; done) | (simp; omega) | assumption))
  refine ops_nil ?_
  refine fin_draw ?_
  (refine dr_done (by decide +kernel) (by (apply le_of_picks; (repeat (first | exact Picks.nil | (apply Picks.cons; (· (repeat (first | exact Pick.here | apply Pick.there)))) | apply Picks.empty)))) ?_)
  refine fin_code ?_
  refine run_seq ?_
  refine run_drawS [] (by kernel_rfl) ?_
  refine dr_stab 0 rfl rfl (Val.s (val_move rfl)) (by decide +kernel) rfl rfl ?_
  refine dr_stab 1 rfl rfl (Val.s (val_nilCheck rfl)) (by decide +kernel) rfl rfl ?_
  refine dr_stab 3 rfl rfl (Val.s (val_move rfl)) (by decide +kernel) rfl rfl ?_
  refine dr_stab 4 rfl rfl (Val.s (val_nilCheck rfl)) (by decide +kernel) rfl rfl ?_
  (apply dr_read 5; (· exact rfl); (· exact rfl); (· (first | (apply val_load; (· exact rfl); (· apply cell_of_has; (· (repeat (first | exact Has.here | apply Has.there))); (· first | exact rfl | exact nats_get _ _ _ (by omega)))) | fail)); (· decide +kernel); (· exact rfl); (· exact rfl))
  refine dr_stab 6 rfl rfl (Val.s (val_shlE rfl rfl (by omega) (by assumption))) (by decide +kernel) rfl rfl ?_
  (apply dr_read 2; (· exact rfl); (· exact rfl); (· (first | (apply val_load; (· exact rfl); (· apply cell_of_has; (· (repeat (first | exact Has.here | apply Has.there))); (· first | exact rfl | exact nats_get _ _ _ (by omega)))) | fail)); (· decide +kernel); (· exact rfl); (· exact rfl))
  refine dr_stab 7 rfl rfl (Val.s (val_bitsE rfl rfl rfl (by assumption))) (by decide +kernel) rfl rfl ?_
  refine dr_stab 8 rfl rfl (Val.s (val_nilCheck rfl)) (by decide +kernel) rfl rfl ?_
  (refine dr_one 9 rfl (by decide +kernel) (by (apply le_of_picks; (repeat (first | exact Picks.nil | (apply Picks.cons; (· (repeat (first | exact Pick.here | apply Pick.there)))) | apply Picks.empty)))) ?_)
  (apply op_store; (· exact rfl); (· exact rfl); (· exact rfl); (· (repeat (first | exact Swap.here | apply Swap.there))); (· first | decide | (simp; done) | (simp; omega) | assumption))
  refine ops_nil ?_
  refine fin_draw ?_
  (refine dr_done (by decide +kernel) (by (apply le_of_picks; (repeat (first | exact Picks.nil | (apply Picks.cons; (· (repeat (first | exact Pick.here | apply Pick.there)))) | apply Picks.empty)))) ?_)
  refine fin_code ?_
  refine run_seq ?_
  refine run_region rfl ?_
  refine op_move rfl rfl ?_
  refine op_nilCheck rfl rfl ?_
  (apply op_load; (· exact rfl); (· exact rfl); (· apply cell_of_has; (· (repeat (first | exact Has.here | apply Has.there))); (· first | exact rfl | exact nats_get _ _ _ (by omega))))
  refine op_assign rfl rfl ?_
  refine ops_nil ?_
  refine fin_code ?_
  refine run_ret ?_
  refine fin_ret1 rfl rfl ?_
  intro w' g
  exact hR _ _ (post_of g () trivial rfl (by (apply le_of_picks; (repeat (first | exact Picks.nil | (apply Picks.cons; (· (repeat (first | exact Pick.here | apply Pick.there)))) | apply Picks.empty)))))
end Go.Proofs.Eng
