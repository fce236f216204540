/- A part of the proof: what functions of the program do, step by step. -/
import Derived.Test.YtnomlnfdmoecoaaDoorH3
set_option linter.unusedVariables false
set_option linter.unusedSimpArgs false
namespace Go.Proofs.Eng
open Go.RowKit
theorem op_storeX {C : Ctx} {ks : List Kont} {E : Env} {Ls Ls' : List Hp} {ops : Array Oper} {rest : List Oper} {ty : Nat} {pos : String} {af : Array Edge} {x y : Operand} {g o t : Nat} {cs cs' : Array Value} {v : Value} {lt : Nat} [TOne C.P lt] (e : cs.setIfInBounds o v = cs') (hx : ev E x = some (.pointer (some ⟨g, o, none⟩))) (hy : ev E y = some v) (h1 : v.oneCell' = true)
    (hs : Swap Ls [⟨g, .cells cs t (0, 0)⟩] [⟨g, .cells cs' t (0, 0)⟩] Ls') (ho : o < cs.size) (k : Ops C ops rest ks E Ls') : Ops C ops (⟨none, .store lt x y, ty, pos, af, none⟩ :: rest) ks E Ls := by
  subst e
  exact op_store hx hy h1 hs ho k
section
variable {C : Ctx} {E : Env} {ty : Nat} {pos : String} {af : Array Edge} {dd : Option Nat} {gg : Option (Nat × Bool)}
theorem op_copyN {ks : List Kont} {Ls Ls' : List Hp} {ops : Array Oper} {rest : List Oper} {d : Nat} {x y : Operand} {t t' e bytes : Nat} {z : Value} [c : TSlice C.P t e 1 bytes z] {g o dLen dCap sLen sCap bt : Nat} {ad : Addr} {cs cs' : Array Value} {vs : List Value} (n : Nat)
    (hl : vs.length = n) (hn : Nat.blt d C.fn.ntmps = true) (hx : ev E x = some (.slice (some ⟨g, o, none⟩) dLen dCap)) (hy : ev E y = some (.slice (some ad) sLen sCap)) (hm : n = Nat.min sLen dLen)
    (hsrc : ∀ j v, vs[j]? = some v → Cell C Ls (ad.add j) v) (h1 : ∀ v ∈ vs, v.oneCell' = true) (ho : o + n ≤ cs.size)
    (he : (cs.toList.take o ++ vs ++ cs.toList.drop (o + n)).toArray = cs')
    (hs : Swap Ls [⟨g, .cells cs bt (0, 0)⟩] [⟨g, .cells cs' bt (0, 0)⟩] Ls')
    (k : Ops C ops rest ks ((d, .int .i64 n) :: E) Ls') : Ops C ops (⟨some d, .call { callee := .builtin .copy, args := #[x, y], argTypes := #[t, t'] }, ty, pos, af, none⟩ :: rest) ks E Ls := by
  subst hl
  exact op_copy hn hx hy hm hsrc h1 ho he hs k
theorem op_sliceHN {ks : List Kont} {Ls : List Hp} {ops : Array Oper} {rest : List Oper} {d : Nat} {x y : Operand} {t e size bytes : Nat} {z : Value} [c : TSlice C.P t e size bytes z] {A : Option Addr} {len cap : Nat} {ik : IntKind} {i : Int} (n : Nat)
    (hn : Nat.blt d C.fn.ntmps = true) (hx : ev E x = some (.slice A len cap)) (hy : ev E y = some (.int ik i)) (hi : i = n) (hb : n ≤ cap)
    (k : Ops C ops rest ks ((d, .slice A n cap) :: E) Ls) : Ops C ops (⟨some d, .slice t x none (some y) none, ty, pos, af, none⟩ :: rest) ks E Ls := by
  subst hi
  exact op_sliceH hn hx hy (by omega) (by rw [Int.toNat_natCast]; exact k)
theorem u8_one (l : List Int) : ∀ v ∈ u8V l, v.oneCell' = true := by
  intro v hv
  obtain ⟨a, _, rfl⟩ := List.mem_map.1 hv
  rfl
theorem u8_old {Ls : List Hp} {g o : Nat} {pb : List Int} (hp : ∀ (j : Nat) (v : Int), pb[j]? = some v → C.w0.cell? ⟨g, o + j, none⟩ = some (.int .u8 v)) (hg : g ∉ ids C.L0) (m : Nat) :
    ∀ (j : Nat) (v : Value), (u8V (pb.take m))[j]? = some v → Cell C Ls ((⟨g, o, none⟩ : Addr).add j) v := by
  intro j v hv
  simp only [u8V, List.getElem?_map, Option.map_eq_some_iff] at hv
  obtain ⟨a, ha, rfl⟩ := hv
  rw [add_addr]
  refine cell_of_old (hp j a ?_) hg
  rw [List.getElem?_take] at ha
  split at ha
  · exact ha
  · cases ha
/-- The end of an array in memory, as a slice. -/
theorem val_slicePL {x y : Operand} {t n e size : Nat} [c : TArr C.P t n e size] {g o : Nat} {ik : IntKind} {l : Int} (l' : Nat)
    (hx : ev E x = some (.pointer (some ⟨g, o, none⟩))) (hy : ev E y = some (.int ik l)) (hl : l = l') (hb : l' < n) :
    Val C E ⟨dd, .slice t x (some y) none none, ty, pos, af, gg⟩ (.slice (some ⟨g, o + l' * size, none⟩) (n - l') (n - l')) := ⟨fun a f w => by
  subst hl
  have h2 := c.h2
  cases hi : C.P.info? e with
  | none => simp [hi] at h2
  | some ii =>
    simp [hi] at h2
    have h3 : (l' : Int) ≤ n := by omega
    have h5 : ¬ n = l' := by omega
    simp [execOp, f.ev hx, f.ev hy, Instr.sliceAt, Instr.sureAddr, Instr.sliceBounds, Instr.sliceBound, asIntOf, underlying, c.h1, sizeOf, typeInfo, hi, h2, h3, h5, add_addr]
    intro h6
    exact absurd h6 (by omega)⟩
/-- An array in memory, as a slice. -/
theorem val_slicePN {x : Operand} {t n e size : Nat} [c : TArr C.P t n e size] {g o : Nat} (hn : 0 < n)
    (hx : ev E x = some (.pointer (some ⟨g, o, none⟩))) :
    Val C E ⟨dd, .slice t x none none none, ty, pos, af, gg⟩ (.slice (some ⟨g, o, none⟩) n n) := ⟨fun a f w => by
  have h2 := c.h2
  cases hi : C.P.info? e with
  | none => simp [hi] at h2
  | some ii =>
    simp [hi] at h2
    have h5 : ¬ n = 0 := by omega
    simp [execOp, f.ev hx, Instr.sliceAt, Instr.sureAddr, Instr.sliceBounds, Instr.sliceBound, asIntOf, underlying, c.h1, sizeOf, typeInfo, hi, h2, h5, add_addr]⟩
/-- The head of an array in memory, as a slice. -/
theorem val_slicePH {x y : Operand} {t n e size : Nat} [c : TArr C.P t n e size] {g o : Nat} {ik : IntKind} {h : Int} (h' : Nat) (hn : 0 < n)
    (hx : ev E x = some (.pointer (some ⟨g, o, none⟩))) (hy : ev E y = some (.int ik h)) (hh : h = h') (hb : h' ≤ n) :
    Val C E ⟨dd, .slice t x none (some y) none, ty, pos, af, gg⟩ (.slice (some ⟨g, o, none⟩) h' n) := ⟨fun a f w => by
  subst hh
  have h2 := c.h2
  cases hi : C.P.info? e with
  | none => simp [hi] at h2
  | some ii =>
    simp [hi] at h2
    have h3 : (h' : Int) ≤ n := by omega
    have h5 : ¬ n = 0 := by omega
    simp [execOp, f.ev hx, f.ev hy, Instr.sliceAt, Instr.sureAddr, Instr.sliceBounds, Instr.sliceBound, asIntOf, underlying, c.h1, sizeOf, typeInfo, hi, h2, h3, h5, add_addr]
    intro h6
    exact absurd h6 (by omega)⟩
end
theorem andNot63N (l : Nat) (h : l < 2 ^ 62) : l &&& 18446744073709551552 = l / 64 * 64 := by
  rw [show l / 64 * 64 = (l >>> 6) <<< 6 by rw [Nat.shiftLeft_eq, Nat.shiftRight_eq_div_pow], show 18446744073709551552 = (2 ^ 58 - 1) <<< 6 by decide]
  refine Nat.eq_of_testBit_eq fun i => ?_
  rw [Nat.testBit_and, Nat.testBit_shiftLeft, Nat.testBit_shiftLeft, Nat.testBit_shiftRight, Nat.testBit_two_pow_sub_one]
  by_cases h6 : 6 ≤ i
  · rw [show 6 + (i - 6) = i by omega]
    by_cases h7 : i - 6 < 58
    · simp [h6, h7]
    · have : l.testBit i = false := Nat.testBit_lt_two_pow (Nat.lt_of_lt_of_le h (Nat.pow_le_pow_right (by decide) (by omega)))
      simp [this]
  · simp [h6]
theorem andNot63 (l : Nat) (h : l < 2 ^ 62) : bitop .andNot .i64 (l : Int) 63 = ((l / 64 * 64 : Nat) : Int) := by
  have e : (BitVec.ofInt 64 (l : Int) &&& ~~~BitVec.ofInt 64 63).toNat = l / 64 * 64 := by
    rw [BitVec.toNat_and, BitVec.ofInt_natCast, BitVec.toNat_ofNat, Nat.mod_eq_of_lt (Nat.lt_trans h (by decide)), ← andNot63N l h]
    rfl
  show IntKind.i64.wrap ((BitVec.ofInt 64 (l : Int) &&& ~~~BitVec.ofInt 64 63).toNat : Int) = _
  rw [e]
  exact wrap_in (by simp only [kLo]; omega) (by simp only [kHi]; omega)
theorem wr2_ok (K : Nat → Int) (p : Dg × List Int) (h : p.1.x.length = 64) : (wr2 K p).1.x.length = 64 ∧ (wr2 K p).2.length < 64 := by
  unfold wr2
  split
  · next h2 => exact ⟨h, h2⟩
  · next h2 =>
    refine ⟨h, ?_⟩
    rw [List.length_drop]
    omega
set_option maxRecDepth 100000 in
set_option maxHeartbeats 8000000 in
theorem write_any (w : World) (q g o cap : Nat) (K : Nat → Int) (kv : List Value) (d : Dg) (pb : List Int) (hd : DgOk d) (hlen : pb.length ≤ 60000) (hcap : pb.length ≤ cap) (hln : d.ln + pb.length ≤ 1000000) (B : Nat) (hBw : B ≤ w.heap.size) (hBq : B ≤ q)
    (hK : RdB w B 1 kv) (hkv : ∀ i, i < 64 → kv[i]? = some (.int .u32 (K i))) (hgq : g ≠ q)
    (hp : ∀ (j : Nat) (v : Int), pb[j]? = some v → w.cell? ⟨g, o + j, none⟩ = some (.int .u8 v))
    (hw : At w ([[⟨q, .cells (dgV d).toArray 135 (0, 0)⟩]] : List Hp).flatten) :
    Calls Tryd.prog 90 #[.pointer (some ⟨q, 0, none⟩), .slice (some ⟨g, o, none⟩) pb.length cap] w (Post w ([[⟨q, .cells (dgV d).toArray 135 (0, 0)⟩]] : List Hp).flatten (fun _ : Unit => .tuple #[.int .i64 pb.length, .nilIface]) (fun _ => ([[⟨q, .cells (dgV (wr K d pb)).toArray 135 (0, 0)⟩]] : List Hp).flatten) (fun _ => True)) := by
  refine enter [[⟨q, .cells (dgV d).toArray 135 (0, 0)⟩]] Tryd.func90 rfl rfl hw (Le.refl _) ?_
  intro R hR
  obtain ⟨hx, hn, hl⟩ := hd
  have hL0 : ∀ k ∈ ids ([[⟨q, .cells (dgV d).toArray 135 (0, 0)⟩]] : List Hp).flatten, B ≤ k := by
    intro k hk
    simp [ids] at hk
    subst hk
    exact hBq
  have hgn := dg_get_nx d hx
  have hgl := dg_get_ln d hx
  have hsz : ∀ {n : Nat}, n < 75 → n < (dgV d).toArray.size := fun {n} h => by rw [dg_len d hx]; exact h
  have hsl : (dgV d).toArray.setIfInBounds 73 (.int .u64 ((d.ln : Int) + (pb.length : Nat))) = (dgV ⟨d.s, d.x, d.nx, d.ln + pb.length⟩).toArray := by
    have h := dg_set_ln d hx (d.ln + pb.length)
    rw [Int.natCast_add] at h
    exact h
  have hgn1 : aget (dgV ⟨d.s, d.x, d.nx, d.ln + pb.length⟩).toArray 72 = some (.int .i64 (d.nx : Nat)) := dg_get_nx _ hx
  refine run_seq ?_
  refine run_region rfl ?_
  refine op_assign rfl rfl ?_
  refine op_assign rfl rfl ?_
  refine ops_nil ?_
  refine fin_code ?_
  refine run_seq ?_
  refine run_region rfl ?_
  refine op_move rfl rfl ?_
  refine op_len rfl rfl ?_
  refine op_assign rfl rfl ?_
  refine ops_nil ?_
  refine fin_code ?_
  refine run_seq ?_
  refine run_region rfl ?_
  refine op_move rfl rfl ?_
  refine op_nilCheck rfl rfl ?_
  refine op_fieldAddr rfl rfl ?_
  (apply op_load; (· exact rfl); (· exact rfl); (· apply cell_of_has; (· (repeat (first | exact Has.here | apply Has.there))); (· first | exact rfl | exact hgn | exact hgl | exact hgn1 | exact hgn2 | exact hgn3)))
  refine op_move rfl rfl ?_
  refine op_conv rfl rfl (by simp only [kLo, kHi]; omega) ?_
  refine op_add rfl rfl rfl (by simp only [kLo, kHi]; omega) ?_
  refine op_nilCheck rfl rfl ?_
  refine op_fieldAddr rfl rfl ?_
  (refine op_storeX hsl rfl rfl rfl (by (repeat (first | exact Swap.here | apply Swap.there))) (hsz (by decide)) ?_)
  refine ops_nil ?_
  refine fin_code ?_
  refine run_seq ?_
  refine run_seq ?_
  refine run_region rfl ?_
  refine op_move rfl rfl ?_
  refine op_nilCheck rfl rfl ?_
  refine op_fieldAddr rfl rfl ?_
  (apply op_load; (· exact rfl); (· exact rfl); (· apply cell_of_has; (· (repeat (first | exact Has.here | apply Has.there))); (· first | exact rfl | exact hgn | exact hgl | exact hgn1 | exact hgn2 | exact hgn3)))
  refine ops_join1 (α := (Dg × List Int) × Nat × Nat) (fun x => [(0, .pointer (some ⟨q, 0, none⟩)), (1, .slice (some ⟨g, x.2.1, none⟩) x.1.2.length x.2.2), (4, .int .i64 pb.length), (5, .nilIface)]) (fun x => [[⟨q, .cells (dgV x.1.1).toArray 135 (0, 0)⟩]])
    (fun x => x.1 = wr1 K ⟨d.s, d.x, d.nx, d.ln + pb.length⟩ pb ∧ x.1.2.length ≤ x.2.2 ∧ ∀ (j : Nat) (v : Int), x.1.2[j]? = some v → w.cell? ⟨g, x.2.1 + j, none⟩ = some (.int .u8 v)) ?_ ?_
  rotate_left 1
  · intro J
    rcases Nat.eq_zero_or_pos d.nx with h0 | h0
    · have J1 := J ((⟨d.s, d.x, d.nx, d.ln + pb.length⟩, pb), o, cap) ⟨by simp [wr1, h0], hcap, hp⟩
      refine op_cmp_f rfl rfl rfl rfl (by first | (simp only [cmpP]; done) | (simp only [cmpP]; omega)) ?_
      refine ops_nil ?_
      refine fin_code ?_
      refine run_cond_f rfl ?_
      refine run_skip ?_
      (apply J1)
      · (repeat (first | exact Sub.nil _ | (refine Sub.cons rfl ?_)))
      · (apply le_of_picks; (repeat (first | exact Picks.nil | (apply Picks.cons; (· (repeat (first | exact Pick.here | apply Pick.there)))) | apply Picks.empty)))
    · refine op_cmp_t rfl rfl rfl rfl (by first | (simp only [cmpP]; done) | (simp only [cmpP]; omega)) ?_
      refine ops_nil ?_
      refine fin_code ?_
      refine run_cond_t rfl ?_
      refine run_seq ?_
      obtain ⟨n, hne⟩ : ∃ n, n = min pb.length (64 - d.nx) := ⟨_, rfl⟩
      have hnl : (pb.take n).length = n := by simp; omega
      have hnl2 : (u8V (pb.take n)).length = n := by rw [u8V_len, hnl]
      have hnm : n = Nat.min pb.length (64 - d.nx) := hne
      have hsrc : ∀ (Ls : List Hp) (j : Nat) (v : Value), (u8V (pb.take n))[j]? = some v → Cell ⟨Tryd.prog, Tryd.f90, R, w, ([[⟨q, .cells (dgV d).toArray 135 (0, 0)⟩]] : List Hp).flatten⟩ Ls ((⟨g, o, none⟩ : Addr).add j) v := fun Ls => u8_old (C := ⟨Tryd.prog, Tryd.f90, R, w, ([[⟨q, .cells (dgV d).toArray 135 (0, 0)⟩]] : List Hp).flatten⟩) hp (by simpa [ids] using hgq) n
      have ho1 : 0 + 8 + d.nx * 1 + n ≤ (dgV ⟨d.s, d.x, d.nx, d.ln + pb.length⟩).toArray.size := by rw [dg_len ⟨d.s, d.x, d.nx, d.ln + pb.length⟩ hx]; omega
      obtain ⟨x1, hx1⟩ : ∃ x1, x1 = d.x.take d.nx ++ pb.take n ++ d.x.drop (d.nx + n) := ⟨_, rfl⟩
      have hx1l : x1.length = 64 := by rw [hx1]; simp; omega
      have hcp : ((dgV ⟨d.s, d.x, d.nx, d.ln + pb.length⟩).toArray.toList.take (0 + 8 + d.nx * 1) ++ u8V (pb.take n) ++ (dgV ⟨d.s, d.x, d.nx, d.ln + pb.length⟩).toArray.toList.drop (0 + 8 + d.nx * 1 + n)).toArray = (dgV ⟨d.s, x1, d.nx, d.ln + pb.length⟩).toArray := by
        have h := dg_copy ⟨d.s, d.x, d.nx, d.ln + pb.length⟩ hx d.nx (pb.take n) (by omega)
        rw [hnl2, hnl] at h
        rw [show 0 + 8 + d.nx * 1 = 8 + d.nx by omega, hx1]
        exact h
      have hgn2 : aget (dgV ⟨d.s, x1, d.nx, d.ln + pb.length⟩).toArray 72 = some (.int .i64 (d.nx : Nat)) := dg_get_nx _ hx1l
      have hgn3 : aget (dgV ⟨d.s, x1, d.nx + n, d.ln + pb.length⟩).toArray 72 = some (.int .i64 ((d.nx : Int) + (n : Nat))) := by
        have h := dg_get_nx ⟨d.s, x1, d.nx + n, d.ln + pb.length⟩ hx1l
        rw [Int.natCast_add] at h
        exact h
      have hsz2 : True → 72 < (dgV ⟨d.s, x1, d.nx, d.ln + pb.length⟩).toArray.size := fun _ => by rw [dg_len ⟨d.s, x1, d.nx, d.ln + pb.length⟩ hx1l]; decide
      have hst : (dgV ⟨d.s, x1, d.nx, d.ln + pb.length⟩).toArray.setIfInBounds 72 (.int .i64 ((d.nx : Int) + (n : Nat))) = (dgV ⟨d.s, x1, d.nx + n, d.ln + pb.length⟩).toArray := by
        have h := dg_set_nx ⟨d.s, x1, d.nx, d.ln + pb.length⟩ hx1l (d.nx + n)
        rw [Int.natCast_add] at h
        exact h
      refine run_drawS [] (by kernel_rfl) ?_
      refine dr_stab 0 rfl rfl (Val.s (val_move rfl)) (by decide +kernel) rfl rfl ?_
      refine dr_stab 1 rfl rfl (Val.s (val_nilCheck rfl)) (by decide +kernel) rfl rfl ?_
      refine dr_stab 2 rfl rfl (Val.s (val_fieldAddr rfl)) (by decide +kernel) rfl rfl ?_
      refine dr_stab 3 rfl rfl (Val.s (val_move rfl)) (by decide +kernel) rfl rfl ?_
      refine dr_stab 4 rfl rfl (Val.s (val_nilCheck rfl)) (by decide +kernel) rfl rfl ?_
      refine dr_stab 5 rfl rfl (Val.s (val_fieldAddr rfl)) (by decide +kernel) rfl rfl ?_
      (apply dr_read 6; (· exact rfl); (· exact rfl); (· (first | (apply val_load; (· exact rfl); (· apply cell_of_has; (· (repeat (first | exact Has.here | apply Has.there))); (· first | exact rfl | exact hgn | exact hgl | exact hgn1 | exact hgn2 | exact hgn3))) | fail)); (· decide +kernel); (· exact rfl); (· exact rfl))
      (apply dr_stab 7; (· exact rfl); (· exact rfl); (· apply Val.s; first | first | exact val_slicePL _ rfl rfl rfl hn); (· decide +kernel); (· exact rfl); (· exact rfl))
      refine dr_stab 8 rfl rfl (Val.s (val_move rfl)) (by decide +kernel) rfl rfl ?_
      refine dr_one 9 rfl (by decide +kernel) (by (apply le_of_picks; (repeat (first | exact Picks.nil | (apply Picks.cons; (· (repeat (first | exact Pick.here | apply Pick.there)))) | apply Picks.empty)))) ?_
      refine op_copyN n hnl2 rfl rfl rfl hnm (hsrc _) (u8_one _) ho1 hcp (by (repeat (first | exact Swap.here | apply Swap.there))) ?_
      refine ops_nil ?_
      refine fin_draw ?_
      refine dr_stab 10 rfl rfl (Val.s (val_assign rfl)) (by decide +kernel) rfl rfl ?_
      (refine dr_done (by decide +kernel) (by (apply le_of_picks; (repeat (first | exact Picks.nil | (apply Picks.cons; (· (repeat (first | exact Pick.here | apply Pick.there)))) | apply Picks.empty)))) ?_)
      refine fin_code ?_
      refine run_seq ?_
      refine run_region rfl ?_
      refine op_move rfl rfl ?_
      refine op_nilCheck rfl rfl ?_
      refine op_fieldAddr rfl rfl ?_
      (apply op_load; (· exact rfl); (· exact rfl); (· apply cell_of_has; (· (repeat (first | exact Has.here | apply Has.there))); (· first | exact rfl | exact hgn | exact hgl | exact hgn1 | exact hgn2 | exact hgn3)))
      refine op_move rfl rfl ?_
      refine op_add rfl rfl rfl (by simp only [kLo, kHi]; omega) ?_
      refine op_nilCheck rfl rfl ?_
      refine op_fieldAddr rfl rfl ?_
      (refine op_storeX hst rfl rfl rfl (by (repeat (first | exact Swap.here | apply Swap.there))) (hsz2 trivial) ?_)
      refine ops_nil ?_
      refine fin_code ?_
      refine run_seq ?_
      refine run_seq ?_
      refine run_region rfl ?_
      refine op_move rfl rfl ?_
      refine op_nilCheck rfl rfl ?_
      refine op_fieldAddr rfl rfl ?_
      (apply op_load; (· exact rfl); (· exact rfl); (· apply cell_of_has; (· (repeat (first | exact Has.here | apply Has.there))); (· first | exact rfl | exact hgn | exact hgl | exact hgn1 | exact hgn2 | exact hgn3)))
      have hAd : ∀ (j : Nat) (v : Int), (pb.drop n)[j]? = some v → w.cell? ⟨g, (if cap = n then o else o + n * 1) + j, none⟩ = some (.int .u8 v) := by
        intro j v hv
        rw [List.getElem?_drop] at hv
        have hlt := (List.getElem?_eq_some_iff.1 hv).1
        rw [if_neg (by omega), show o + n * 1 + j = o + (n + j) by omega]
        exact hp _ _ hv
      have hsl2 : Value.slice (some (if cap = n then ⟨g, o, none⟩ else ⟨g, o + n * 1, none⟩)) (pb.length - n) (cap - n) = .slice (some ⟨g, if cap = n then o else o + n * 1, none⟩) (pb.drop n).length (cap - n) := by
        rw [List.length_drop]
        split <;> rfl
      by_cases h64 : d.nx + n = 64
      · have hw1 : ((⟨blks K 1 x1 d.s, x1, 0, d.ln + pb.length⟩ : Dg), pb.drop n) = wr1 K ⟨d.s, d.x, d.nx, d.ln + pb.length⟩ pb := by
          unfold wr1
          dsimp only
          rw [if_neg (by omega), ← hne, ← hx1, if_pos h64]
        have J1 := J ((⟨blks K 1 x1 d.s, x1, 0, d.ln + pb.length⟩, pb.drop n), (if cap = n then o else o + n * 1), cap - n) ⟨hw1, by show (pb.drop n).length ≤ cap - n; rw [List.length_drop]; omega, hAd⟩
        have hst3 : (s8V (blks K 1 x1 d.s) ++ dgT ⟨d.s, x1, d.nx + n, d.ln + pb.length⟩).toArray.setIfInBounds 72 (.int .i64 0) = (dgV ⟨blks K 1 x1 d.s, x1, 0, d.ln + pb.length⟩).toArray := dg_set_nx ⟨blks K 1 x1 d.s, x1, d.nx + n, d.ln + pb.length⟩ hx1l 0
        have hsz3 : True → 72 < (s8V (blks K 1 x1 d.s) ++ dgT ⟨d.s, x1, d.nx + n, d.ln + pb.length⟩).toArray.size := fun _ => by
          have h := dg_len ⟨blks K 1 x1 d.s, x1, d.nx + n, d.ln + pb.length⟩ hx1l
          have h2 : (s8V (blks K 1 x1 d.s) ++ dgT ⟨d.s, x1, d.nx + n, d.ln + pb.length⟩).toArray.size = 75 := h
          omega
        have hin : ∀ (j : Nat) (v : Int), x1[j]? = some v → aget (s8V d.s ++ dgT ⟨d.s, x1, d.nx + n, d.ln + pb.length⟩).toArray (0 + 8 + j) = some (.int .u8 v) := by
          intro j v hv
          have hlt := (List.getElem?_eq_some_iff.1 hv).1
          rw [aget_eq, List.getElem?_toArray, List.getElem?_append_right (by show 8 ≤ 0 + 8 + j; omega), show 0 + 8 + j - (s8V d.s).length = j from (by show 0 + 8 + j - 8 = j; omega)]
          simp only [dgT]
          rw [List.getElem?_append_left (by rw [u8V_len]; exact hlt)]
          simp [u8V, hv]
        refine op_cmp_t rfl rfl rfl rfl (by first | (simp only [cmpP]; done) | (simp only [cmpP]; omega)) ?_
        refine ops_nil ?_
        refine fin_code ?_
        refine run_cond_t rfl ?_
        refine run_seq ?_
        refine run_region rfl ?_
        refine op_move rfl rfl ?_
        refine op_move rfl rfl ?_
        refine op_nilCheck rfl rfl ?_
        refine op_fieldAddr rfl rfl ?_
        (refine op_val rfl (val_slicePN (by decide) rfl) ?_)
        ((first | (apply op_call; (· exact rfl)) | apply op_call0); (· exact rfl)); (case' hc => (refine fun w hG hw => blk_any w q q (0 + 8) 1 64 K kv x1 d.s (dgT ⟨d.s, x1, d.nx + n, d.ln + pb.length⟩) (by omega) (by decide) (by decide) B ?_ hBq ?_ hkv ?_ hw)); (case hp => (repeat (first | exact Picks.nil | (apply Picks.cons; (· (repeat (first | exact Pick.here | apply Pick.there)))) | apply Picks.empty)))
        · exact Nat.le_trans hBw hG.size
        · exact RdB.nowD hK hG hL0 hBw
        · exact .inr ⟨rfl, hin⟩
        intro _ _
        refine ops_nil ?_
        refine fin_code ?_
        refine run_region rfl ?_
        refine op_move rfl rfl ?_
        refine op_nilCheck rfl rfl ?_
        refine op_fieldAddr rfl rfl ?_
        (refine op_storeX hst3 rfl rfl rfl (by (repeat (first | exact Swap.here | apply Swap.there))) (hsz3 trivial) ?_)
        refine ops_nil ?_
        refine fin_code ?_
        refine run_region rfl ?_
        refine op_move rfl rfl ?_
        refine op_move rfl rfl ?_
        (refine op_sliceLowO n rfl rfl rfl rfl (by omega) hsl2 ?_)
        refine op_assign rfl rfl ?_
        refine ops_nil ?_
        (apply J1)
        · (repeat (first | exact Sub.nil _ | (refine Sub.cons rfl ?_)))
        · (apply le_of_picks; (repeat (first | exact Picks.nil | (apply Picks.cons; (· (repeat (first | exact Pick.here | apply Pick.there)))) | apply Picks.empty)))
      · have hw1 : ((⟨d.s, x1, d.nx + n, d.ln + pb.length⟩ : Dg), pb.drop n) = wr1 K ⟨d.s, d.x, d.nx, d.ln + pb.length⟩ pb := by
          unfold wr1
          dsimp only
          rw [if_neg (by omega), if_neg (by omega), ← hne, ← hx1]
        have J1 := J ((⟨d.s, x1, d.nx + n, d.ln + pb.length⟩, pb.drop n), (if cap = n then o else o + n * 1), cap - n) ⟨hw1, by show (pb.drop n).length ≤ cap - n; rw [List.length_drop]; omega, hAd⟩
        refine op_cmp_f rfl rfl rfl rfl (by first | (simp only [cmpP]; done) | (simp only [cmpP]; omega)) ?_
        refine ops_nil ?_
        refine fin_code ?_
        refine run_cond_f rfl ?_
        refine run_skip ?_
        refine fin_code ?_
        refine run_region rfl ?_
        refine op_move rfl rfl ?_
        refine op_move rfl rfl ?_
        (refine op_sliceLowO n rfl rfl rfl rfl (by omega) hsl2 ?_)
        refine op_assign rfl rfl ?_
        refine ops_nil ?_
        (apply J1)
        · (repeat (first | exact Sub.nil _ | (refine Sub.cons rfl ?_)))
        · (apply le_of_picks; (repeat (first | exact Picks.nil | (apply Picks.cons; (· (repeat (first | exact Pick.here | apply Pick.there)))) | apply Picks.empty)))
  rintro ⟨⟨d1, r⟩, o1, cap1⟩ ⟨h1, h2, h3⟩
  dsimp only at h1 h2 h3 ⊢
  obtain ⟨a1, a2, a3, a4, a5⟩ := wr1_ok K ⟨d.s, d.x, d.nx, d.ln + pb.length⟩ pb hx hn (by dsimp only; omega)
  rw [← h1] at a1 a2 a3 a4 a5
  dsimp only at a1 a2 a3 a4 a5
  clear hsl hgn hgl hgn1 hsz
  refine fin_code ?_
  refine run_seq ?_
  refine run_seq ?_
  refine run_region rfl ?_
  refine op_move rfl rfl ?_
  refine op_len rfl rfl ?_
  refine ops_join1 (α := (Dg × List Int) × Nat × Nat) (fun x => [(0, .pointer (some ⟨q, 0, none⟩)), (1, .slice (some ⟨g, x.2.1, none⟩) x.1.2.length x.2.2), (4, .int .i64 pb.length), (5, .nilIface)]) (fun x => [[⟨q, .cells (dgV x.1.1).toArray 135 (0, 0)⟩]])
    (fun x => x.1 = wr2 K (d1, r) ∧ x.1.2.length ≤ x.2.2 ∧ ∀ (j : Nat) (v : Int), x.1.2[j]? = some v → w.cell? ⟨g, x.2.1 + j, none⟩ = some (.int .u8 v)) ?_ ?_
  rotate_left 1
  · intro J
    by_cases hr : r.length < 64
    · have J1 := J ((d1, r), o1, cap1) ⟨by unfold wr2; rw [if_pos hr], h2, h3⟩
      refine op_cmp_f rfl rfl rfl rfl (by first | (simp only [cmpP]; done) | (simp only [cmpP]; omega)) ?_
      refine ops_nil ?_
      refine fin_code ?_
      refine run_cond_f rfl ?_
      refine run_skip ?_
      (apply J1)
      · (repeat (first | exact Sub.nil _ | (refine Sub.cons rfl ?_)))
      · (apply le_of_picks; (repeat (first | exact Picks.nil | (apply Picks.cons; (· (repeat (first | exact Pick.here | apply Pick.there)))) | apply Picks.empty)))
    · obtain ⟨n, hne⟩ : ∃ n, n = r.length / 64 * 64 := ⟨_, rfl⟩
      have hl62 : r.length < 2 ^ 62 := by omega
      have hsh : r.length / 64 * 64 ≤ cap1 := by omega
      have hsl2 : Value.slice (some (if cap1 = n then ⟨g, o1, none⟩ else ⟨g, o1 + n * 1, none⟩)) (r.length - n) (cap1 - n) = .slice (some ⟨g, if cap1 = n then o1 else o1 + n * 1, none⟩) (r.drop n).length (cap1 - n) := by
        rw [List.length_drop]
        split <;> rfl
      have hw2 : ((⟨blks K (r.length / 64) (r.take n) d1.s, d1.x, d1.nx, d1.ln⟩ : Dg), r.drop n) = wr2 K (d1, r) := by
        unfold wr2
        dsimp only
        rw [if_neg hr, hne]
      have hAd : ∀ (j : Nat) (v : Int), (r.drop n)[j]? = some v → w.cell? ⟨g, (if cap1 = n then o1 else o1 + n * 1) + j, none⟩ = some (.int .u8 v) := by
        intro j v hv
        rw [List.getElem?_drop] at hv
        have hlt := (List.getElem?_eq_some_iff.1 hv).1
        rw [if_neg (by omega), show o1 + n * 1 + j = o1 + (n + j) by omega]
        exact h3 _ _ hv
      have J1 := J ((⟨blks K (r.length / 64) (r.take n) d1.s, d1.x, d1.nx, d1.ln⟩, r.drop n), (if cap1 = n then o1 else o1 + n * 1), cap1 - n) ⟨hw2, by show (r.drop n).length ≤ cap1 - n; rw [List.length_drop]; omega, hAd⟩
      refine op_cmp_t rfl rfl rfl rfl (by first | (simp only [cmpP]; done) | (simp only [cmpP]; omega)) ?_
      refine ops_nil ?_
      refine fin_code ?_
      refine run_cond_t rfl ?_
      refine run_seq ?_
      refine run_region rfl ?_
      refine op_move rfl rfl ?_
      refine op_len rfl rfl ?_
      (refine op_bitsE rfl rfl rfl rfl (andNot63 _ hl62) ?_)
      refine op_assign rfl rfl ?_
      refine ops_nil ?_
      refine fin_code ?_
      refine run_seq ?_
      refine run_block ?_
      refine run_loop (α := Unit) (fun _ => [(0, .pointer (some ⟨q, 0, none⟩)), (1, .slice (some ⟨g, o1, none⟩) r.length cap1), (4, .int .i64 pb.length), (5, .nilIface), (7, .int .i64 ((r.length / 64 * 64 : Nat) : Int))]) (fun _ => [[⟨q, .cells (dgV d1).toArray 135 (0, 0)⟩]]) (fun _ => True) (fun _ => 0) () trivial ?_ ?_ ?_
      · (repeat (first | exact Sub.nil _ | (refine Sub.cons rfl ?_)))
      · (apply le_of_picks; (repeat (first | exact Picks.nil | (apply Picks.cons; (· (repeat (first | exact Pick.here | apply Pick.there)))) | apply Picks.empty)))
      intro _ _
      refine run_seq ?_
      refine run_seq ?_
      refine run_region rfl ?_
      refine op_move rfl rfl ?_
      refine op_cmp_f rfl rfl rfl rfl (by first | (simp only [cmpP]; done) | (simp only [cmpP]; omega)) ?_
      refine ops_nil ?_
      refine fin_code ?_
      refine run_cond_f rfl ?_
      refine run_exit ?_
      refine fin_exit_code ?_
      refine fin_exit_inv ?_
      refine fin_exit_here ?_
      refine fin_code ?_
      refine run_seq ?_
      refine run_region rfl ?_
      refine op_move rfl rfl ?_
      refine op_move rfl rfl ?_
      refine op_move rfl rfl ?_
      (refine op_sliceHN (r.length / 64 * 64) rfl rfl rfl rfl hsh ?_)
      ((first | (apply op_call; (· exact rfl)) | apply op_call0); (· exact rfl)); (case' hc => (refine fun w hG hw => blk_any w q g o1 (r.length / 64) cap1 K kv (r.take (r.length / 64 * 64)) d1.s (dgT d1) (by rw [List.length_take]; omega) (by omega) hsh B ?_ hBq ?_ hkv ?_ hw)); (case hp => (repeat (first | exact Picks.nil | (apply Picks.cons; (· (repeat (first | exact Pick.here | apply Pick.there)))) | apply Picks.empty)))
      · exact Nat.le_trans hBw hG.size
      · exact RdB.nowD hK hG hL0 hBw
      · refine .inl ⟨hgq, fun j v hv => cell_now hG (h3 j v ?_) (by simpa [ids] using hgq)⟩
        rw [List.getElem?_take] at hv
        split at hv
        · exact hv
        · cases hv
      intro _ _
      rw [← hne]
      refine ops_nil ?_
      refine fin_code ?_
      refine run_region rfl ?_
      refine op_move rfl rfl ?_
      refine op_move rfl rfl ?_
      (refine op_sliceLowO n rfl rfl rfl rfl (by omega) hsl2 ?_)
      refine op_assign rfl rfl ?_
      refine ops_nil ?_
      (apply J1)
      · (repeat (first | exact Sub.nil _ | (refine Sub.cons rfl ?_)))
      · (apply le_of_picks; (repeat (first | exact Picks.nil | (apply Picks.cons; (· (repeat (first | exact Pick.here | apply Pick.there)))) | apply Picks.empty)))
  rintro ⟨⟨d2, r2⟩, o2, cap2⟩ ⟨k1, k2, k3⟩
  dsimp only at k1 k2 k3 ⊢
  obtain ⟨b1, b2⟩ := wr2_ok K (d1, r) a1
  rw [← k1] at b1 b2
  dsimp only at b1 b2
  have hfin : wr K d pb = wr3 (d2, r2) := by
    unfold wr
    rw [k1, h1]
  have hgoal : ∀ w', Goes w ([[⟨q, .cells (dgV d).toArray 135 (0, 0)⟩]] : List Hp).flatten w' ([[⟨q, .cells (dgV (wr3 (d2, r2))).toArray 135 (0, 0)⟩]] : List Hp).flatten → R (.returned (.tuple #[.int .i64 pb.length, .nilIface])) w' := by
    intro w' g'
    rw [← hfin] at g'
    exact hR _ _ (post_of g' () trivial rfl (Le.refl _))
  by_cases hr : r2.length = 0
  · refine fin_code ?_
    refine run_seq ?_
    refine run_seq ?_
    refine run_region rfl ?_
    refine op_move rfl rfl ?_
    refine op_len rfl rfl ?_
    refine op_cmp_f rfl rfl rfl rfl (by first | (simp only [cmpP]; done) | (simp only [cmpP]; omega)) ?_
    refine ops_nil ?_
    refine fin_code ?_
    refine run_cond_f rfl ?_
    refine run_skip ?_
    refine fin_code ?_
    refine run_ret ?_
    refine fin_ret2 rfl rfl rfl ?_
    intro w' g'
    refine hgoal w' (g'.le ?_)
    rw [show wr3 (d2, r2) = d2 by unfold wr3; rw [if_pos hr]]
    (apply le_of_picks; (repeat (first | exact Picks.nil | (apply Picks.cons; (· (repeat (first | exact Pick.here | apply Pick.there)))) | apply Picks.empty)))
  · obtain ⟨n, hne⟩ : ∃ n, n = r2.length := ⟨_, rfl⟩
    have hnl2 : (u8V r2).length = n := by rw [u8V_len, hne]
    have hnm : n = Nat.min r2.length 64 := by rw [hne]; exact (Nat.min_eq_left (by omega)).symm
    have hsrc : ∀ (Ls : List Hp) (j : Nat) (v : Value), (u8V r2)[j]? = some v → Cell ⟨Tryd.prog, Tryd.f90, R, w, ([[⟨q, .cells (dgV d).toArray 135 (0, 0)⟩]] : List Hp).flatten⟩ Ls ((⟨g, o2, none⟩ : Addr).add j) v := fun Ls => by
      have h := u8_old (C := ⟨Tryd.prog, Tryd.f90, R, w, ([[⟨q, .cells (dgV d).toArray 135 (0, 0)⟩]] : List Hp).flatten⟩) (Ls := Ls) k3 (by simpa [ids] using hgq) r2.length
      rw [List.take_length] at h
      exact h
    have ho1 : 0 + 8 + n ≤ (dgV d2).toArray.size := by rw [dg_len d2 b1]; omega
    have hcp : ((dgV d2).toArray.toList.take (0 + 8) ++ u8V r2 ++ (dgV d2).toArray.toList.drop (0 + 8 + n)).toArray = (dgV ⟨d2.s, r2 ++ d2.x.drop r2.length, d2.nx, d2.ln⟩).toArray := by
      have h := dg_copy d2 b1 0 r2 (by omega)
      rw [hnl2] at h
      simpa using h
    have hx3 : (r2 ++ d2.x.drop r2.length).length = 64 := by simp; omega
    have hsz2 : True → 72 < (dgV ⟨d2.s, r2 ++ d2.x.drop r2.length, d2.nx, d2.ln⟩).toArray.size := fun _ => by rw [dg_len _ hx3]; decide
    have hst : (dgV ⟨d2.s, r2 ++ d2.x.drop r2.length, d2.nx, d2.ln⟩).toArray.setIfInBounds 72 (.int .i64 (n : Nat)) = (dgV ⟨d2.s, r2 ++ d2.x.drop r2.length, n, d2.ln⟩).toArray := dg_set_nx _ hx3 n
    refine fin_code ?_
    refine run_seq ?_
    refine run_seq ?_
    refine run_region rfl ?_
    refine op_move rfl rfl ?_
    refine op_len rfl rfl ?_
    refine op_cmp_t rfl rfl rfl rfl (by first | (simp only [cmpP]; done) | (simp only [cmpP]; omega)) ?_
    refine ops_nil ?_
    refine fin_code ?_
    refine run_cond_t rfl ?_
    refine run_region rfl ?_
    refine op_move rfl rfl ?_
    refine op_move rfl rfl ?_
    refine op_nilCheck rfl rfl ?_
    refine op_fieldAddr rfl rfl ?_
    (refine op_val rfl (val_slicePN (by decide) rfl) ?_)
    refine op_move rfl rfl ?_
    (refine op_copyN n hnl2 rfl rfl rfl hnm (hsrc _) (u8_one _) ho1 hcp (by (repeat (first | exact Swap.here | apply Swap.there))) ?_)
    refine op_nilCheck rfl rfl ?_
    refine op_fieldAddr rfl rfl ?_
    (refine op_storeX hst rfl rfl rfl (by (repeat (first | exact Swap.here | apply Swap.there))) (hsz2 trivial) ?_)
    refine ops_nil ?_
    refine fin_code ?_
    refine run_ret ?_
    refine fin_ret2 rfl rfl rfl ?_
    intro w' g'
    refine hgoal w' (g'.le ?_)
    rw [show wr3 (d2, r2) = ⟨d2.s, r2 ++ d2.x.drop r2.length, n, d2.ln⟩ by unfold wr3; rw [if_neg hr, hne]]
    (apply le_of_picks; (repeat (first | exact Picks.nil | (apply Picks.cons; (· (repeat (first | exact Pick.here | apply Pick.there)))) | apply Picks.empty)))
end Go.Proofs.Eng
