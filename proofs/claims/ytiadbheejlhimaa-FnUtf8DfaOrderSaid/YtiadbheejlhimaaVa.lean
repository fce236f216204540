/- A part of the proof: what functions of the program do, step by step. -/
import Derived.Test.YtiadbheejlhimaaV9
set_option linter.unusedVariables false
set_option linter.unusedSimpArgs false
namespace Go.Proofs.Eng
open Go.RowKit
section
variable {C : Ctx} {E : Env} {ty : Nat} {pos : String} {af : Array Edge} {dd : Option Nat} {gg : Option (Nat × Bool)}
theorem val_makeFunc {fn : Fn} {first captured : Array Operand} {vs cs : List Value} (hx : evs E first.toList = some vs) (hc : evs E captured.toList = some cs) : Val C E ⟨dd, .makeFunc fn first captured, ty, pos, af, gg⟩ (.func fn vs.toArray cs.toArray) := ⟨fun a f w => by
  have e : first.map a.eval = vs.toArray := by
    apply Array.ext'
    simp [f.evs hx]
  have e' : captured.map a.eval = cs.toArray := by
    apply Array.ext'
    simp [f.evs hc]
  simp [execOp, e, e', Instr.makeFunc]⟩
theorem run_nilAhead {P : Program} {w : World} {T f n : Nat} {name : String} {v : Value} [c : TMeth P T name f] (hv : v ≠ .pointer none) : (nilAhead (n + 1) T v name).run P w = .ok (some false) w := by
  have h := c.h
  unfold nilAhead
  cases hi : P.info? T with
  | none => simp [hi] at h
  | some i =>
    cases hu : P.underlying T with
    | none => simp [hi, hu] at h
    | some u =>
      simp only [hi, hu] at h
      cases hm : i.methods.find? (·.name == name) with
      | none => simp [hm] at h
      | some m =>
        simp only [hm, Bool.and_eq_true] at h
        obtain ⟨hp, hf⟩ := h
        have hp' : m.path.toList = [] := by simpa using hp
        cases hfn : m.func with
        | none => simp [hfn] at hf
        | some gp =>
          obtain ⟨g, pr⟩ := gp
          rw [hfn] at hf
          cases pr with
          | true =>
            simp [typeInfo, hi, hm, hp', followBlind, hfn]
          | false =>
            cases u <;> simp at hf
            all_goals simp [typeInfo, hi, hm, hp', followBlind, hfn, underlying, hu]
theorem val_nilMeth {x : Operand} {T f : Nat} {name : String} {p : Addr} {cap : Array Value} [c : TMeth C.P T name f] (hx : ev E x = some (.func (.method name) #[.iface T (.pointer (some p))] cap)) : Val C E ⟨dd, .nilCheck x, ty, pos, af, gg⟩ (.func (.method name) #[.iface T (.pointer (some p))] cap) := ⟨fun a ft w => by
  have e : ∀ w, (nilAhead (C.P.types.size + Made.depth) T (.pointer (some p)) name).run C.P w = .ok (some false) w := fun w => by
    rw [show C.P.types.size + Made.depth = (C.P.types.size + (Made.depth - 1)) + 1 by simp [Made.depth]]
    exact run_nilAhead (by simp)
  simp [execOp, ft.ev hx, run_program, e]⟩
end
/-- The states that the automaton passes. -/
def Bd.trail (b : Bd) : Nat → List Nat → List Nat
  | s, [] => [s]
  | s, c :: cs => s :: b.trail (b.tr s c) cs
theorem trail_len (b : Bd) : ∀ (cs : List Nat) (s : Nat), (b.trail s cs).length = cs.length + 1
  | [], s => rfl
  | c :: cs, s => by rw [Bd.trail, List.length_cons, trail_len b cs, List.length_cons]
theorem trail_zero (b : Bd) (cs : List Nat) (s : Nat) : (b.trail s cs).getD 0 0 = s := by cases cs <;> rfl
theorem trail_succ (b : Bd) : ∀ (cs : List Nat) (s i : Nat), i < cs.length → (b.trail s cs).getD (i + 1) 0 = b.tr ((b.trail s cs).getD i 0) (cs.getD i 0)
  | [], s, i, h => by simp at h
  | c :: cs, s, 0, h => by
    rw [Bd.trail, List.getD_cons_succ, trail_zero]
    rfl
  | c :: cs, s, i + 1, h => by
    rw [Bd.trail, List.getD_cons_succ, List.getD_cons_succ, List.getD_cons_succ]
    exact trail_succ b cs _ i (by simpa using h)
theorem trail_lt {b : Bd} (hw : Wt b) (hl : b.fl.length = b.n * 256) : ∀ (cs : List Nat) (s : Nat), (∀ c ∈ cs, c < 256) → s < b.n → ∀ i, i ≤ cs.length → (b.trail s cs).getD i 0 < b.n
  | cs, s, hc, hs, 0, _ => by rw [trail_zero]; exact hs
  | [], s, hc, hs, i + 1, h => by simp at h
  | c :: cs, s, hc, hs, i + 1, h => by
    rw [Bd.trail, List.getD_cons_succ]
    refine trail_lt hw hl cs _ (fun x hx => hc x (.tail _ hx)) (hw.tr ?_) i (by simpa using h)
    have := hc c (.head _)
    omega
/-- The bytes of a text. -/
def bts (t : ByteArray) : List Nat := t.data.toList.map (·.toNat)
theorem bts_len (t : ByteArray) : (bts t).length = t.size := by simp [bts]
theorem bts_lt (t : ByteArray) : ∀ c ∈ bts t, c < 256 := by
  intro c hc
  obtain ⟨x, _, rfl⟩ := List.mem_map.1 hc
  exact x.toNat_lt
theorem bts_get {t : ByteArray} {i : Nat} (h : i < t.size) : ∃ x : UInt8, t.data[((i : Nat) : Int).toNat]? = some x ∧ x.toNat = (bts t).getD i 0 := by
  have h' : i < t.data.size := h
  refine ⟨t.data[i], ?_, ?_⟩
  · rw [Int.toNat_natCast, Array.getElem?_eq_getElem h']
  · rw [bts, List.getD_eq_getElem?_getD, List.getElem?_map, Array.getElem?_toList, Array.getElem?_eq_getElem h']
    rfl
theorem take_map_succ {α : Type} {l : List Nat} {i : Nat} (h : i < l.length) (f : Nat → α) : (l.take (i + 1)).map f = (l.take i).map f ++ [f (l.getD i 0)] := by
  rw [List.take_add_one, List.getElem?_eq_getElem h, List.map_append, List.getD_eq_getElem?_getD, List.getElem?_eq_getElem h]
  rfl
section
variable {b : Bd} {dq : Nat}
set_option maxRecDepth 100000 in
set_option maxHeartbeats 4000000 in
theorem path_any (w : World) (t : ByteArray) (h : DfaR w b dq) (hwt : Wt b) (ht : t.size ≤ 1000000) : Calls Try.prog 26 #[.iface 66 (.pointer (some ⟨dq, 0, none⟩)), .string t] w
    (Post w ([] : List Hp).flatten (fun x : (Value × Hp) × (Value × Hp) × (Value × Hp) => .tuple #[x.1.1, x.2.1.1, x.2.2.1]) (fun x => ([x.1.2, x.2.1.2, x.2.2.2]).flatten)
      (fun x => Own 4 1 x.1.1 (t.size + 1) ((b.trail b.init (bts t)).map (fun s => .bool (b.di s).1)) x.1.2 ∧ Own 4 1 x.2.1.1 (t.size + 1) ((b.trail b.init (bts t)).map (fun s => .bool (decide (0 < s)))) x.2.1.2 ∧ Own 4 1 x.2.2.1 (t.size + 1) ((b.trail b.init (bts t)).map (fun s => .bool false)) x.2.2.2)) := by
  refine enter [] Try.func26 rfl rfl (At.nil w) (Le.refl _) ?_
  intro R hR
  have htl := trail_len b (bts t) b.init
  rw [bts_len] at htl
  have hlt := trail_lt hwt h.fln (bts t) b.init (bts_lt t) h.ini
  rw [bts_len] at hlt
  have hz := trail_zero b (bts t) b.init
  have hsu := trail_succ b (bts t) b.init
  rw [bts_len] at hsu
  generalize b.trail b.init (bts t) = T at *
  have hfew := h.few
  refine run_seq ?_
  refine run_region rfl ?_
  refine op_assign rfl rfl ?_
  refine op_assign rfl rfl ?_
  refine op_assign rfl rfl ?_
  refine ops_nil ?_
  refine fin_code ?_
  refine run_seq ?_
  refine run_region rfl ?_
  refine op_move rfl rfl ?_
  ((first | (apply op_invE 66 27; (· infer_instance); (· infer_instance); (· exact rfl)) | (apply op_inv0E 66 27; (· infer_instance); (· infer_instance))); (· exact rfl); (· exact rfl)); (case' hc => (refine fun w hG hw => start_any (b := b) w ?_)); (case hp => (repeat (first | exact Picks.nil | (apply Picks.cons; (· (repeat (first | exact Pick.here | apply Pick.there)))) | apply Picks.empty)))
  · exact h.now hG
  intro _ _
  refine op_assign rfl rfl ?_
  refine ops_nil ?_
  refine fin_code ?_
  refine run_seq ?_
  refine run_region rfl ?_
  refine op_assign rfl rfl ?_
  refine ops_nil ?_
  refine fin_code ?_
  refine run_block ?_
  refine run_loop (α := Nat × (Value × Hp) × (Value × Hp) × (Value × Hp)) (fun x => [(0, .iface 66 (.pointer (some ⟨dq, 0, none⟩))), (1, .string t), (4, x.2.1.1), (5, x.2.2.1.1), (6, x.2.2.2.1), (7, .int .i64 (T.getD x.1 0 : Nat)), (8, .int .i64 (x.1 : Nat))]) (fun x => [x.2.1.2, x.2.2.1.2, x.2.2.2.2])
    (fun x => x.1 ≤ t.size ∧ Own 4 1 x.2.1.1 x.1 ((T.take x.1).map (fun s => .bool (b.di s).1)) x.2.1.2 ∧ Own 4 1 x.2.2.1.1 x.1 ((T.take x.1).map (fun s => .bool (decide (0 < s)))) x.2.2.1.2 ∧ Own 4 1 x.2.2.2.1 x.1 ((T.take x.1).map (fun s => .bool false)) x.2.2.2.2)
    (fun x => t.size - x.1) (0, (.slice none 0 0, []), (.slice none 0 0, []), (.slice none 0 0, [])) ⟨Nat.zero_le _, by simpa using Own.nil 4 1, by simpa using Own.nil 4 1, by simpa using Own.nil 4 1⟩ (by rw [hz]; (repeat (first | exact Sub.nil _ | (refine Sub.cons rfl ?_)))) (by (apply le_of_picks; (repeat (first | exact Picks.nil | (apply Picks.cons; (· (repeat (first | exact Pick.here | apply Pick.there)))) | apply Picks.empty)))) ?_
  rintro ⟨i, ⟨v1, l1⟩, ⟨v2, l2⟩, ⟨v3, l3⟩⟩ ⟨hi, ho1, ho2, ho3⟩
  dsimp only at hi ho1 ho2 ho3 ⊢
  have hs := hlt i hi
  have e1 := take_map_succ (l := T) (i := i) (by omega) (fun s => Value.bool (b.di s).1)
  have e2 := take_map_succ (l := T) (i := i) (by omega) (fun s => Value.bool (decide (0 < s)))
  have e3 := take_map_succ (l := T) (i := i) (by omega) (fun s => Value.bool false)
  generalize hsi : T.getD i 0 = s at *
  refine run_seq ?_
  refine run_block ?_
  refine run_seq ?_
  refine run_region rfl ?_
  refine op_move rfl rfl ?_
  refine op_move rfl rfl ?_
  refine op_move rfl rfl ?_
  ((first | (apply op_invE 66 107; (· infer_instance); (· infer_instance); (· exact rfl)) | (apply op_inv0E 66 107; (· infer_instance); (· infer_instance))); (· exact rfl); (· exact rfl)); (case' hc => (refine fun w hG hw => ismatch_any (b := b) w s ?_ hs)); (case hp => (repeat (first | exact Picks.nil | (apply Picks.cons; (· (repeat (first | exact Pick.here | apply Pick.there)))) | apply Picks.empty)))
  · exact h.now hG
  intro _ _
  (refine op_slice1 rfl rfl (by first | rfl | simp [Value.cells]) (by decide) ?_; intro _ _)
  (apply op_append1; (· exact rfl); (· exact rfl); (· exact rfl); (· exact ho1); (· (repeat (first | exact Pick.here | apply Pick.there))); (· (repeat (first | exact Has.here | apply Has.there))); (· exact rfl); (· first | exact onesC rfl | (intro u hu; simp [Value.cells] at hu; rcases hu with rfl | rfl | rfl | rfl | rfl | rfl <;> rfl) | (intro u hu; simp [Value.cells] at hu; rcases hu with rfl | rfl | rfl <;> rfl) | (intro u hu; simp [Value.cells] at hu; rcases hu with rfl | rfl <;> rfl) | (intro u hu; simp [Value.cells] at hu; subst hu; rfl)); (· omega); (· omega); (· exact rfl))
  intro v1' l1' ho1'
  refine op_move rfl rfl ?_
  refine op_move rfl rfl ?_
  refine op_move rfl rfl ?_
  ((first | (apply op_invE 66 106; (· infer_instance); (· infer_instance); (· exact rfl)) | (apply op_inv0E 66 106; (· infer_instance); (· infer_instance))); (· exact rfl); (· exact rfl)); (case' hc => (refine fun w hG hw => canmatch_any (b := b) w s ?_ hs)); (case hp => (repeat (first | exact Picks.nil | (apply Picks.cons; (· (repeat (first | exact Pick.here | apply Pick.there)))) | apply Picks.empty)))
  · exact h.now hG
  intro _ _
  (refine op_slice1 rfl rfl (by first | rfl | simp [Value.cells]) (by decide) ?_; intro _ _)
  (apply op_append1; (· exact rfl); (· exact rfl); (· exact rfl); (· exact ho2); (· (repeat (first | exact Pick.here | apply Pick.there))); (· (repeat (first | exact Has.here | apply Has.there))); (· exact rfl); (· first | exact onesC rfl | (intro u hu; simp [Value.cells] at hu; rcases hu with rfl | rfl | rfl | rfl | rfl | rfl <;> rfl) | (intro u hu; simp [Value.cells] at hu; rcases hu with rfl | rfl | rfl <;> rfl) | (intro u hu; simp [Value.cells] at hu; rcases hu with rfl | rfl <;> rfl) | (intro u hu; simp [Value.cells] at hu; subst hu; rfl)); (· omega); (· omega); (· exact rfl))
  intro v2' l2' ho2'
  refine op_move rfl rfl ?_
  refine op_move rfl rfl ?_
  refine op_move rfl rfl ?_
  ((first | (apply op_invE 66 108; (· infer_instance); (· infer_instance); (· exact rfl)) | (apply op_inv0E 66 108; (· infer_instance); (· infer_instance))); (· exact rfl); (· exact rfl); rotate_left 1; (· exact fun w hG hw => always_any w s); rotate_right 1; (· (repeat (first | exact Picks.nil | (apply Picks.cons; (· (repeat (first | exact Pick.here | apply Pick.there)))) | apply Picks.empty))))
  intro _ _
  (refine op_slice1 rfl rfl (by first | rfl | simp [Value.cells]) (by decide) ?_; intro _ _)
  (apply op_append1; (· exact rfl); (· exact rfl); (· exact rfl); (· exact ho3); (· (repeat (first | exact Pick.here | apply Pick.there))); (· (repeat (first | exact Has.here | apply Has.there))); (· exact rfl); (· first | exact onesC rfl | (intro u hu; simp [Value.cells] at hu; rcases hu with rfl | rfl | rfl | rfl | rfl | rfl <;> rfl) | (intro u hu; simp [Value.cells] at hu; rcases hu with rfl | rfl | rfl <;> rfl) | (intro u hu; simp [Value.cells] at hu; rcases hu with rfl | rfl <;> rfl) | (intro u hu; simp [Value.cells] at hu; subst hu; rfl)); (· omega); (· omega); (· exact rfl))
  intro v3' l3' ho3'
  have ho1'' : Own 4 1 v1' (i + 1) ((T.take (i + 1)).map (fun s => .bool (b.di s).1)) l1' := by rw [e1]; exact ho1'
  have ho2'' : Own 4 1 v2' (i + 1) ((T.take (i + 1)).map (fun s => .bool (decide (0 < s)))) l2' := by rw [e2]; exact ho2'
  have ho3'' : Own 4 1 v3' (i + 1) ((T.take (i + 1)).map (fun s => .bool false)) l3' := by rw [e3]; exact ho3'
  by_cases hend : i = t.size
  · subst hend
    rw [List.take_of_length_le (by omega)] at ho1'' ho2'' ho3''
    refine op_assign rfl rfl ?_
    refine op_assign rfl rfl ?_
    refine op_assign rfl rfl ?_
    refine ops_nil ?_
    refine fin_code ?_
    refine run_seq ?_
    refine run_seq ?_
    refine run_region rfl ?_
    refine op_move rfl rfl ?_
    refine op_move rfl rfl ?_
    (refine op_val rfl (val_slen rfl) ?_)
    refine op_cmp_t rfl rfl rfl rfl (by first | (simp only [cmpP]; done) | (simp only [cmpP]; omega)) ?_
    refine ops_nil ?_
    refine fin_code ?_
    refine run_cond_t rfl ?_
    refine run_seq ?_
    refine run_region rfl ?_
    refine op_move rfl rfl ?_
    refine op_move rfl rfl ?_
    refine op_move rfl rfl ?_
    refine op_assign rfl rfl ?_
    refine op_assign rfl rfl ?_
    refine op_assign rfl rfl ?_
    refine ops_nil ?_
    refine fin_code ?_
    refine run_ret ?_
    refine fin_ret_code ?_
    refine fin_ret_block ?_
    refine fin_ret_code ?_
    refine fin_ret_inv ?_
    refine fin_ret_block ?_
    refine fin_ret3 rfl rfl rfl rfl ?_
    intro w' g
    exact hR _ _ (post_of g ((v1', l1'), (v2', l2'), (v3', l3')) ⟨ho1'', ho2'', ho3''⟩ rfl (by (apply le_of_picks; (repeat (first | exact Picks.nil | (apply Picks.cons; (· (repeat (first | exact Pick.here | apply Pick.there)))) | apply Picks.empty)))))
  · obtain ⟨x, hx, hxn⟩ := bts_get (t := t) (i := i) (by omega)
    have hc := bts_lt t ((bts t).getD i 0) (by
      rw [List.getD_eq_getElem?_getD, List.getElem?_eq_getElem (by rw [bts_len]; omega)]
      exact List.getElem_mem _)
    have hsu' := hsu i (by omega)
    have hs' := hlt (i + 1) (by omega)
    rw [hsi, ← hxn] at hsu'
    rw [← hxn] at hc
    rw [hsu'] at hs'
    refine op_assign rfl rfl ?_
    refine op_assign rfl rfl ?_
    refine op_assign rfl rfl ?_
    refine ops_nil ?_
    refine fin_code ?_
    refine run_seq ?_
    refine run_seq ?_
    refine run_region rfl ?_
    refine op_move rfl rfl ?_
    refine op_move rfl rfl ?_
    (refine op_val rfl (val_slen rfl) ?_)
    refine op_cmp_f rfl rfl rfl rfl (by first | (simp only [cmpP]; done) | (simp only [cmpP]; omega)) ?_
    refine ops_nil ?_
    refine fin_code ?_
    refine run_cond_f rfl ?_
    refine run_skip ?_
    refine fin_code ?_
    refine run_drawS [] (by kernel_rfl) ?_
    refine dr_stab 0 rfl rfl (Val.s (val_move rfl)) (by decide +kernel) rfl rfl ?_
    refine dr_stab 1 rfl rfl (Val.s (val_move rfl)) (by decide +kernel) rfl rfl ?_
    refine dr_stab 2 rfl rfl (Val.s (val_move rfl)) (by decide +kernel) rfl rfl ?_
    refine dr_stab 3 rfl rfl (Val.s (val_move rfl)) (by decide +kernel) rfl rfl ?_
    refine dr_stab 4 rfl rfl (Val.s (val_sindex rfl rfl (by omega) (by assumption))) (by decide +kernel) rfl rfl ?_
    refine dr_stab 5 rfl rfl (Val.s (val_makeFunc rfl rfl)) (by decide +kernel) rfl rfl ?_
    refine dr_stab 6 rfl rfl (Val.s (val_nilMeth rfl)) (by decide +kernel) rfl rfl ?_
    refine dr_stab 7 rfl rfl (Val.s (val_move rfl)) (by decide +kernel) rfl rfl ?_
    (refine dr_one 8 rfl (by decide +kernel) (by (apply le_of_picks; (repeat (first | exact Picks.nil | (apply Picks.cons; (· (repeat (first | exact Pick.here | apply Pick.there)))) | apply Picks.empty)))) ?_)
    -- CALL op 8
    ((first | (apply op_invE 66 29; (· infer_instance); (· infer_instance); (· exact rfl)) | (apply op_inv0E 66 29; (· infer_instance); (· infer_instance))); (· exact rfl); (· exact rfl)); (case' hc => (refine fun w hG hw => accept_any (b := b) w s x.toNat ?_ hs hc (by omega))); (case hp => (repeat (first | exact Picks.nil | (apply Picks.cons; (· (repeat (first | exact Pick.here | apply Pick.there)))) | apply Picks.empty)))
    · exact h.now hG
    intro _ _
    refine ops_nil ?_
    refine fin_draw ?_
    refine dr_stab 9 rfl rfl (Val.s (val_assign rfl)) (by decide +kernel) rfl rfl ?_
    (refine dr_done (by decide +kernel) (by (apply le_of_picks; (repeat (first | exact Picks.nil | (apply Picks.cons; (· (repeat (first | exact Pick.here | apply Pick.there)))) | apply Picks.empty)))) ?_)
    refine fin_block ?_
    refine fin_code ?_
    refine run_region rfl ?_
    refine op_move rfl rfl ?_
    refine op_add rfl rfl rfl (by simp only [kLo, kHi]; omega) ?_
    refine op_assign rfl rfl ?_
    refine ops_nil ?_
    refine fin_round (i + 1, (v1', l1'), (v2', l2'), (v3', l3')) (by dsimp only; omega) (by rw [hsu']; (repeat (first | exact Sub.nil _ | (refine Sub.cons rfl ?_)))) (by (apply le_of_picks; (repeat (first | exact Picks.nil | (apply Picks.cons; (· (repeat (first | exact Pick.here | apply Pick.there)))) | apply Picks.empty)))) ⟨by dsimp only; omega, ho1'', ho2'', ho3''⟩
end
end Go.Proofs.Eng
