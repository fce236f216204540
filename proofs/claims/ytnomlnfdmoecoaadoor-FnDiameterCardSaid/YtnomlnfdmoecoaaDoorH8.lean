/- A part of the proof: what functions of the program do, step by step. -/
import Derived.Test.YtnomlnfdmoecoaaDoorH7
import Derived.Test.YtnomlnfdmoecoaaDoorNe
set_option linter.unusedVariables false
set_option linter.unusedSimpArgs false
namespace Go.Proofs.Eng
open Go.RowKit
section
variable {C : Ctx} {E : Env} {ty : Nat} {pos : String} {af : Array Edge} {dd : Option Nat} {gg : Option (Nat × Bool)}
theorem val_makeFunc {fn : Fn} {first captured : Array Operand} {vs cs : List Value} (hx : evs E first.toList = some vs) (hc : evs E captured.toList = some cs) : Val C E ⟨dd, .makeFunc fn first captured, ty, pos, af, gg⟩ (.func fn vs.toArray cs.toArray) := ⟨fun a f w => by
  have e : first.map a.eval = vs.toArray := by
    apply Array.ext'
    simp [f.evs hx]
  have e' : captured.map a.eval = cs.toArray := by
    apply Array.ext'
    simp [f.evs hc]
  simp [execOp, e, e', Instr.makeFunc]⟩
theorem run_nilAhead {P : Program} {w : World} {T f n : Nat} {name : String} {v : Value} [c : TMeth P T name f] (hv : v ≠ .pointer none) : (nilAhead (n + 1) T v name).run P w = .ok (some false) w := by
  have h := c.h
  unfold nilAhead
  cases hi : P.info? T with
  | none => simp [hi] at h
  | some i =>
    cases hu : P.underlying T with
    | none => simp [hi, hu] at h
    | some u =>
      simp only [hi, hu] at h
      cases hm : i.methods.find? (·.name == name) with
      | none => simp [hm] at h
      | some m =>
        simp only [hm, Bool.and_eq_true] at h
        obtain ⟨hp, hf⟩ := h
        have hp' : m.path.toList = [] := by simpa using hp
        cases hfn : m.func with
        | none => simp [hfn] at hf
        | some gp =>
          obtain ⟨g, pr⟩ := gp
          rw [hfn] at hf
          cases pr with
          | true =>
            simp [typeInfo, hi, hm, hp', followBlind, hfn]
          | false =>
            cases u <;> simp at hf
            all_goals simp [typeInfo, hi, hm, hp', followBlind, hfn, underlying, hu]
theorem val_nilMeth {x : Operand} {T f : Nat} {name : String} {p : Addr} {cap : Array Value} [c : TMeth C.P T name f] (hx : ev E x = some (.func (.method name) #[.iface T (.pointer (some p))] cap)) : Val C E ⟨dd, .nilCheck x, ty, pos, af, gg⟩ (.func (.method name) #[.iface T (.pointer (some p))] cap) := ⟨fun a ft w => by
  have e : ∀ w, (nilAhead (C.P.types.size + Made.depth) T (.pointer (some p)) name).run C.P w = .ok (some false) w := fun w => by
    rw [show C.P.types.size + Made.depth = (C.P.types.size + (Made.depth - 1)) + 1 by simp [Made.depth]]
    exact run_nilAhead (by simp)
  simp [execOp, ft.ev hx, run_program, e]⟩
/-- append into a known block in which there is room. -/
theorem op_appendIn {Ls Ls' : List Hp} {ks : List Kont} {ops : Array Oper} {rest : List Oper} {d : Nat} {x y : Operand} {t t' e bytes : Nat} {z : Value} [c : TSlice C.P t e 1 bytes z] {g o n cap bt m cp : Nat} {ad : Addr} {cs cs' : Array Value} {vs : List Value}
    (hn : Nat.blt d C.fn.ntmps = true) (hx : ev E x = some (.slice (some ⟨g, o, none⟩) n cap)) (hy : ev E y = some (.slice (some ad) m cp)) (hl : vs.length = m)
    (hsrc : ∀ j v, vs[j]? = some v → Cell C Ls (ad.add j) v) (h1 : ∀ v ∈ vs, v.oneCell' = true) (hroom : n + m ≤ cap) (ho : o + n + m ≤ cs.size)
    (he : (cs.toList.take (o + n) ++ vs ++ cs.toList.drop (o + n + m)).toArray = cs') (ht' : t' = t)
    (hs : Swap Ls [⟨g, .cells cs bt (0, 0)⟩] [⟨g, .cells cs' bt (0, 0)⟩] Ls')
    (k : Ops C ops rest ks ((d, .slice (some ⟨g, o, none⟩) (n + m) cap) :: E) Ls') : Ops C ops (⟨some d, .call { callee := .builtin .append, args := #[x, y], argTypes := #[t, t'] }, ty, pos, af, none⟩ :: rest) ks E Ls := by
  subst he ht' hl
  refine ⟨fun a w f gs => ?_⟩
  refine wpList_plain rfl fun K hK => ?_
  obtain ⟨R, p1, p2⟩ := hs.perm
  have gs' := gs.le (L' := [⟨g, .cells cs bt (0, 0)⟩] ++ R) (.of_perm p1)
  have hh := gs'.now.here ⟨g, .cells cs bt (0, 0)⟩ (by simp)
  obtain ⟨i, hi, hz0, hz1, hz2⟩ := infoParts c.h2
  have hfc := run_firstCells_some (P := C.P) w i.size vs.length ad vs.length cp vs (by rw [hz1, Nat.mul_one]) (fun j v hv => hsrc j v hv w gs)
  have hst := run_storeCells_at (P := C.P) g (o + n) bt vs 0 cs w hh (by simpa using ho) h1
  have hfc1 : (Builtin.firstCells 1 vs.length (.slice (some ad) vs.length cp)).run C.P w = .ok vs.toArray w := by rw [← hz1]; exact hfc
  have hrun : (Builtin.append_ #[t', t'] ty #[.slice (some ⟨g, o, none⟩) n cap, .slice (some ad) vs.length cp]).run C.P w = .ok (.slice (some ⟨g, o, none⟩) (n + vs.length) cap) (w.setRow g (cs.toList.take (o + n) ++ vs ++ cs.toList.drop (o + n + vs.length)).toArray) := by
    simp only [Nat.add_zero] at hst
    simp [Builtin.append_, run_underlying c.h1, sizeOf, typeInfo, hi, Builtin.lenOf, hroom, hfc1, Addr.add_lit, hst, hz1]
  unfold Oper.wp
  have : (execOp a.eval ⟨some d, .call { callee := .builtin .append, args := #[x, y], argTypes := #[t', t'] }, ty, pos, af, none⟩).run C.P w = .ok (.value (.slice (some ⟨g, o, none⟩) (n + vs.length) cap)) (w.setRow g (cs.toList.take (o + n) ++ vs ++ cs.toList.drop (o + n + vs.length)).toArray) := by
    simp only [execOp, resolve, invoke, builtin, Sem.run_bind, Sem.run_pure, Result.andThen_ok, List.map_toArray, List.map_cons, List.map_nil, f.ev hx, f.ev hy, hrun]
  rw [this]
  exact hK _ _ (k.out _ _ (f.put _ (Nat.lt_of_succ_le (by simpa [Nat.blt] using hn))) ((gs'.frame (goes_setRow (vs := (cs.toList.take (o + n) ++ vs ++ cs.toList.drop (o + n + vs.length)).toArray) hh)).le (.of_perm p2.symm)))
end
theorem dg_one (d : Dg) : ∀ v ∈ (dgV d).toArray.toList, v.oneCell' = true := by
  intro v hv
  simp only [dgV, dgT, s8V, List.cons_append, List.nil_append, List.mem_cons, List.mem_append, List.not_mem_nil, or_false] at hv
  rcases hv with rfl | rfl | rfl | rfl | rfl | rfl | rfl | rfl | hv | rfl | rfl | rfl
  all_goals first | rfl | exact u8_one _ _ hv
set_option maxRecDepth 100000 in
theorem fnew_any (w : World) (B : Nat) (hB : B ≤ w.heap.size) :
    Calls Tryd.prog 58 #[] w (Post w ([] : List Hp).flatten (fun q : Nat => .pointer (some ⟨q, 0, none⟩)) (fun q => ([[⟨q, .cells (dgV dg0).toArray 135 (0, 0)⟩]] : List Hp).flatten) (fun q => B ≤ q)) := by
  refine enter [] Tryd.func58 rfl rfl (At.nil w) (Le.refl _) ?_
  intro R hR
  refine run_seq ?_
  refine run_region rfl ?_
  refine op_assign rfl rfl ?_
  refine ops_nil ?_
  refine fin_code ?_
  refine run_seq ?_
  refine run_region rfl ?_
  refine op_allocE dgz.toArray rfl rfl ?_
  intro q hq
  refine op_assign rfl rfl ?_
  refine ops_nil ?_
  refine fin_code ?_
  refine run_seq ?_
  refine run_region rfl ?_
  refine op_move rfl rfl ?_
  ((first | (apply op_call; (· exact rfl)) | apply op_call0); (· exact rfl); rotate_left 1; (· exact fun w hG hw => reset_any w q hw); rotate_right 1; (· (repeat (first | exact Picks.nil | (apply Picks.cons; (· (repeat (first | exact Pick.here | apply Pick.there)))) | apply Picks.empty))))
  intro _ _
  refine ops_nil ?_
  refine fin_code ?_
  refine run_seq ?_
  refine run_region rfl ?_
  refine op_move rfl rfl ?_
  refine op_assign rfl rfl ?_
  refine ops_nil ?_
  refine fin_code ?_
  refine run_ret ?_
  refine fin_ret1 rfl rfl ?_
  intro w' g'
  exact hR _ _ (post_of g' q (Nat.le_trans hB hq) rfl (by (apply le_of_picks; (repeat (first | exact Picks.nil | (apply Picks.cons; (· (repeat (first | exact Pick.here | apply Pick.there)))) | apply Picks.empty)))))
set_option maxRecDepth 100000 in
theorem new_any (w0 : World) (B : Nat) (hB : B ≤ w0.heap.size) :
    Calls Tryd.prog 46 #[] w0 (Post w0 ([] : List Hp).flatten (fun q : Nat => .iface 123 (.pointer (some ⟨q, 0, none⟩))) (fun q => ([[⟨q, .cells (dgV dg0).toArray 135 (0, 0)⟩]] : List Hp).flatten) (fun q => B ≤ q)) := by
  refine enter [] Tryd.func46 rfl rfl (At.nil w0) (Le.refl _) ?_
  intro R hR
  refine run_seq ?_
  refine run_region rfl ?_
  refine op_assign rfl rfl ?_
  refine ops_nil ?_
  refine fin_code ?_
  refine run_seq ?_
  refine run_cond_f rfl ?_
  refine run_skip ?_
  refine fin_code ?_
  refine run_seq ?_
  refine run_region rfl ?_
  ((first | (apply op_call; (· exact rfl)) | apply op_call0); (· exact rfl); rotate_left 1; (· exact fun w hG hw => fnew_any w w0.heap.size hG.size); rotate_right 1; (· (repeat (first | exact Picks.nil | (apply Picks.cons; (· (repeat (first | exact Pick.here | apply Pick.there)))) | apply Picks.empty))))
  intro q hq
  (refine op_val rfl (val_iface rfl) ?_)
  refine op_assign rfl rfl ?_
  refine ops_nil ?_
  refine fin_code ?_
  refine run_ret ?_
  refine fin_ret1 rfl rfl ?_
  intro w' g'
  exact hR _ _ (post_of g' q (Nat.le_trans hB hq) rfl (by (apply le_of_picks; (repeat (first | exact Picks.nil | (apply Picks.cons; (· (repeat (first | exact Pick.here | apply Pick.there)))) | apply Picks.empty)))))
set_option maxRecDepth 100000 in
set_option maxHeartbeats 4000000 in
theorem sum_any (w : World) (q gs T : Nat) (K : Nat → Int) (kv : List Value) (d : Dg) (hd : DgOk d) (hln : d.ln ≤ 900000) (B : Nat) (hBw : B ≤ w.heap.size)
    (hK : RdB w B 1 kv) (hkv : ∀ i, i < 64 → kv[i]? = some (.int .u32 (K i)))
    (hBq : B ≤ q) (hBs : B ≤ gs) (hw : At w ([[⟨q, .cells (dgV d).toArray 135 (0, 0)⟩], [⟨gs, .cells (u8V (List.replicate 32 0)).toArray T (0, 0)⟩]] : List Hp).flatten) :
    Calls Tryd.prog 89 #[.pointer (some ⟨q, 0, none⟩), .slice (some ⟨gs, 0, none⟩) 0 32] w (Post w ([[⟨q, .cells (dgV d).toArray 135 (0, 0)⟩], [⟨gs, .cells (u8V (List.replicate 32 0)).toArray T (0, 0)⟩]] : List Hp).flatten (fun _ : Unit => .slice (some ⟨gs, 0, none⟩) 32 32)
      (fun _ => ([[⟨q, .cells (dgV d).toArray 135 (0, 0)⟩], [⟨gs, .cells (u8V (digL (wr K d (padL d.ln)).s)).toArray T (0, 0)⟩]] : List Hp).flatten) (fun _ => True)) := by
  refine enter [[⟨q, .cells (dgV d).toArray 135 (0, 0)⟩], [⟨gs, .cells (u8V (List.replicate 32 0)).toArray T (0, 0)⟩]] Tryd.func89 rfl rfl hw (Le.refl _) ?_
  intro R hR
  have hL0 : ∀ k ∈ ids ([[⟨q, .cells (dgV d).toArray 135 (0, 0)⟩], [⟨gs, .cells (u8V (List.replicate 32 0)).toArray T (0, 0)⟩]] : List Hp).flatten, B ≤ k := by
    intro k hk
    simp [ids] at hk
    rcases hk with rfl | rfl
    · exact hBq
    · exact hBs
  refine run_seq ?_
  refine run_region rfl ?_
  refine op_assign rfl rfl ?_
  refine ops_nil ?_
  refine fin_code ?_
  refine run_seq ?_
  refine run_region rfl ?_
  ((first | (apply op_call; (· exact rfl)) | apply op_call0); (· exact rfl); rotate_left 1; (· exact fun w hG hw => recApp_any w); rotate_right 1; (· (repeat (first | exact Picks.nil | (apply Picks.cons; (· (repeat (first | exact Pick.here | apply Pick.there)))) | apply Picks.empty))))
  intro _ _
  refine ops_nil ?_
  refine fin_code ?_
  refine run_seq ?_
  refine run_region rfl ?_
  refine op_move rfl rfl ?_
  refine op_nilCheck rfl rfl ?_
  (apply op_loadAll; (· exact rfl); (· exact rfl); (· (repeat (first | exact Has.here | apply Has.there))); (· exact dg_len d hd.1))
  refine op_alloc rfl ?_
  intro q2 hq2
  (apply op_storeAll; (· exact rfl); (· exact rfl); (· exact dg_len d hd.1); (· exact dg_one d); (· (repeat (first | exact Swap.here | apply Swap.there))); (· exact rfl))
  refine ops_nil ?_
  refine fin_code ?_
  refine run_seq ?_
  refine run_region rfl ?_
  have hB2 : B ≤ q2 := Nat.le_trans hBw hq2
  ((first | (apply op_call; (· exact rfl)) | apply op_call0); (· exact rfl)); (case' hc => (refine fun w hG hw => chk_any w q2 K kv d hd hln B ?_ hB2 ?_ hkv hw)); (case hp => (repeat (first | exact Picks.nil | (apply Picks.cons; (· (repeat (first | exact Pick.here | apply Pick.there)))) | apply Picks.empty)))
  · exact Nat.le_trans hBw hG.size
  · exact RdB.nowD hK hG hL0 hBw
  intro _ _
  have hDok := wr_ok K d (padL d.ln) hd
  generalize wr K d (padL d.ln) = D at *
  have hgf := dg_get_fl D hDok.1
  have hdl0 := digL_len D.s
  generalize digL D.s = dl at *
  have hdlA : (u8V dl).toArray.size = 32 := by rw [u8V_size, hdl0]
  skip
  refine op_alloc rfl ?_
  intro g6 hg6
  (apply op_storeAll; (· exact rfl); (· exact rfl); (· exact hdlA); (· exact u8_oneA dl); (· (repeat (first | exact Swap.here | apply Swap.there))); (· exact rfl))
  refine ops_nil ?_
  refine fin_code ?_
  refine run_seq ?_
  refine run_seq ?_
  refine run_region rfl ?_
  refine op_fieldAddr rfl rfl ?_
  (apply op_load; (· exact rfl); (· exact rfl); (· apply cell_of_has; (· (repeat (first | exact Has.here | apply Has.there))); (· first | exact rfl | exact hgf)))
  refine ops_nil ?_
  refine fin_code ?_
  refine run_cond_f rfl ?_
  refine run_skip ?_
  refine fin_code ?_
  refine run_seq ?_
  refine run_region rfl ?_
  refine op_move rfl rfl ?_
  (refine op_val rfl (val_slicePN (by decide) rfl) ?_)
  have hap : ((u8V (List.replicate 32 0)).toArray.toList.take (0 + 0) ++ u8V (dl) ++ (u8V (List.replicate 32 0)).toArray.toList.drop (0 + 0 + 32)).toArray = (u8V (dl)).toArray := by simp [u8V]
  have hul : (u8V (dl)).length = 32 := by rw [u8V_len, hdl0]
  refine op_appendIn (vs := u8V dl) (cs' := (u8V dl).toArray) rfl rfl rfl hul ?_ (u8_one dl) (by decide) ?_ hap rfl (by (repeat (first | exact Swap.here | apply Swap.there))) ?_
  · exact fun j v hv => by (rw [add_addr]; refine cell_of_has (by (repeat (first | exact Has.here | apply Has.there))) ?_; rw [aget_eq, Nat.zero_add, List.getElem?_toArray]; exact hv)
  · decide
  refine op_assign rfl rfl ?_
  refine ops_nil ?_
  refine fin_code ?_
  refine run_ret ?_
  refine fin_ret1 rfl rfl ?_
  intro w' g'
  exact hR _ _ (post_of g' () trivial rfl (by (apply le_of_picks; (repeat (first | exact Picks.nil | (apply Picks.cons; (· (repeat (first | exact Pick.here | apply Pick.there)))) | apply Picks.empty)))))
/-- The hash of some bytes. -/
def shaF (K : Nat → Int) (pb : List Int) : List Int := digL (wr K (wr K dg0 pb) (padL (wr K dg0 pb).ln)).s
theorem shaF_len (K : Nat → Int) (pb : List Int) : (shaF K pb).length = 32 := digL_len _
theorem dg0_ok : DgOk dg0 := ⟨rfl, by decide, rfl⟩
set_option maxRecDepth 100000 in
set_option maxHeartbeats 4000000 in
theorem sha_any (w : World) (g o n cap : Nat) (K : Nat → Int) (kv : List Value) (pb : List Int) (hn : pb.length = n) (hlen : pb.length ≤ 60000) (hcap : pb.length ≤ cap) (B : Nat) (hBw : B ≤ w.heap.size)
    (hK : RdB w B 1 kv) (hkv : ∀ i, i < 64 → kv[i]? = some (.int .u32 (K i))) (hg : g < w.heap.size)
    (hp : ∀ (j : Nat) (v : Int), pb[j]? = some v → w.cell? ⟨g, o + j, none⟩ = some (.int .u8 v)) :
    Calls Tryd.prog 39 #[.slice (some ⟨g, o, none⟩) n cap] w (Post w ([] : List Hp).flatten (fun _ : Unit => .agg (u8V (shaF K pb)).toArray) (fun _ => ([] : List Hp).flatten) (fun _ => True)) := by
  refine enter [] Tryd.func39 rfl rfl (At.nil w) (Le.refl _) ?_
  intro R hR
  refine run_seq ?_
  refine run_region rfl ?_
  refine op_alloc rfl ?_
  intro ga hga
  refine ops_nil ?_
  refine fin_code ?_
  refine run_seq ?_
  refine run_cond_f rfl ?_
  refine run_skip ?_
  refine fin_code ?_
  refine run_seq ?_
  refine run_region rfl ?_
  have hgq : ∀ q, w.heap.size ≤ q → g ≠ q := fun q h => by omega
  obtain ⟨W, hW⟩ : ∃ W, W = w := ⟨_, rfl⟩
  ((first | (apply op_call; (· exact rfl)) | apply op_call0); (· exact rfl); rotate_left 1; (· exact fun w hG hw => new_any w W.heap.size (by rw [hW]; exact hG.size)); rotate_right 1; (· (repeat (first | exact Picks.nil | (apply Picks.cons; (· (repeat (first | exact Pick.here | apply Pick.there)))) | apply Picks.empty))))
  intro q hq
  rw [hW] at hq
  refine op_assign rfl rfl ?_
  refine ops_nil ?_
  refine fin_code ?_
  refine run_seq ?_
  refine run_region rfl ?_
  refine op_move rfl rfl ?_
  refine op_move rfl rfl ?_
  ((first | (apply op_invE 123 90; (· infer_instance); (· infer_instance); (· exact rfl)) | (apply op_inv0E 123 90; (· infer_instance); (· infer_instance))); (· exact rfl); (· exact rfl)); (case' hc => (refine fun w hG hw => write_anyN w q g o cap n K kv dg0 pb hn dg0_ok hlen hcap (by show 0 + pb.length ≤ 1000000; omega) B ?_ (Nat.le_trans hBw hq) ?_ hkv (hgq q hq) ?_ hw)); (case hp => (repeat (first | exact Picks.nil | (apply Picks.cons; (· (repeat (first | exact Pick.here | apply Pick.there)))) | apply Picks.empty)))
  · exact Nat.le_trans hBw hG.size
  · exact RdB.nowD hK hG (by simp [ids]) hBw
  · exact fun j v hv => cell_now hG (hp j v hv) (by simp [ids])
  intro _ _
  have hDok := wr_ok K dg0 pb dg0_ok
  have hDln := wr_ln K dg0 pb
  have hsh : shaF K pb = digL (wr K (wr K dg0 pb) (padL (wr K dg0 pb).ln)).s := rfl
  rw [hsh] at hR
  generalize wr K dg0 pb = D at *
  have hDl : D.ln ≤ 900000 := by rw [hDln]; show 0 + pb.length ≤ 900000; omega
  refine ops_nil ?_
  refine fin_code ?_
  refine run_seq ?_
  refine run_region rfl ?_
  refine op_alloc rfl ?_
  intro gs hgs
  refine ops_nil ?_
  refine fin_code ?_
  refine run_seq ?_
  refine run_drawS [] (by kernel_rfl) ?_
  refine dr_stab 0 rfl rfl (Val.s (val_move rfl)) (by decide +kernel) rfl rfl ?_
  (apply dr_stab 1; (· exact rfl); (· exact rfl); (· apply Val.s; first | first | exact val_slicePH 0 (by decide) rfl rfl rfl (by decide)); (· decide +kernel); (· exact rfl); (· exact rfl))
  refine dr_stab 2 rfl rfl (Val.s (val_makeFunc rfl rfl)) (by decide +kernel) rfl rfl ?_
  refine dr_stab 3 rfl rfl (Val.s (val_nilMeth rfl)) (by decide +kernel) rfl rfl ?_
  refine dr_stab 4 rfl rfl (Val.s (val_move rfl)) (by decide +kernel) rfl rfl ?_
  (refine dr_one 5 rfl (by decide +kernel) (by (apply le_of_picks; (repeat (first | exact Picks.nil | (apply Picks.cons; (· (repeat (first | exact Pick.here | apply Pick.there)))) | apply Picks.empty)))) ?_)
  -- CALL op 5
  ((first | (apply op_invE 123 89; (· infer_instance); (· infer_instance); (· exact rfl)) | (apply op_inv0E 123 89; (· infer_instance); (· infer_instance))); (· exact rfl); (· exact rfl)); (case' hc => (refine fun w hG hw => sum_any w q gs 83 K kv D hDok hDl B ?_ ?_ hkv (Nat.le_trans hBw hq) (Nat.le_trans hBw hgs) hw)); (case hp => (repeat (first | exact Picks.nil | (apply Picks.cons; (· (repeat (first | exact Pick.here | apply Pick.there)))) | apply Picks.empty)))
  · exact Nat.le_trans hBw hG.size
  · exact RdB.nowD hK hG (by simp [ids]) hBw
  intro _ _
  have hdl0 := digL_len (wr K D (padL D.ln)).s
  generalize digL (wr K D (padL D.ln)).s = dl at *
  have hdlA : (u8V dl).toArray.size = 32 := by rw [u8V_size, hdl0]
  refine ops_nil ?_
  refine fin_draw ?_
  (refine dr_done (by decide +kernel) (by (apply le_of_picks; (repeat (first | exact Picks.nil | (apply Picks.cons; (· (repeat (first | exact Pick.here | apply Pick.there)))) | apply Picks.empty)))) ?_)
  refine fin_code ?_
  refine run_seq ?_
  refine run_region rfl ?_
  (apply op_loadAll; (· exact rfl); (· exact rfl); (· (repeat (first | exact Has.here | apply Has.there))); (· exact hdlA))
  (apply op_storeAll; (· exact rfl); (· exact rfl); (· exact hdlA); (· exact u8_oneA dl); (· (repeat (first | exact Swap.here | apply Swap.there))); (· exact rfl))
  refine ops_nil ?_
  refine fin_code ?_
  refine run_ret ?_
  refine fin_retC rfl rfl (by (repeat (first | exact Has.here | apply Has.there))) hdlA ?_
  intro w' g'
  exact hR _ _ (post_of g' () trivial rfl (by (apply le_of_picks; (repeat (first | exact Picks.nil | (apply Picks.cons; (· (repeat (first | exact Pick.here | apply Pick.there)))) | apply Picks.empty)))))
end Go.Proofs.Eng
