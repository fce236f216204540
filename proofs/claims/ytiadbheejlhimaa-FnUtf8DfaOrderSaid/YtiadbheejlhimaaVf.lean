/- A part of the proof: what functions of the program do, step by step. -/
import Derived.Test.YtiadbheejlhimaaVe
set_option linter.unusedVariables false
set_option linter.unusedSimpArgs false
namespace Go.Proofs.Eng
open Go.RowKit
theorem fin_ret4 {C : Ctx} {E : Env} {Ls : List Hp} {t u s r : Tmp} {v v2 v3 v4 : Value} (hres : C.fn.results = #[.tmp t, .tmp u, .tmp s, .tmp r]) (hv : E.find t = some v) (hv2 : E.find u = some v2) (hv3 : E.find s = some v3) (hv4 : E.find r = some v4) (h : ∀ w, Goes C.w0 C.L0 w Ls.flatten → C.R (.returned (.tuple #[v, v2, v3, v4])) w) : Fin C .ret [] E Ls := by
  refine ⟨fun a w f g => ?_⟩
  exact ⟨f.d, .tuple #[v, v2, v3, v4], by simp [results, hres, ← f.getD hv, ← f.getD hv2, ← f.getD hv3, ← f.getD hv4], h w g⟩
set_option maxRecDepth 100000 in
set_option maxHeartbeats 8000000 in
theorem utf8_any (w : World) (A : Option Addr) (n c start : Nat) (t : ByteArray) (l : List LStM) (hl : l.length = n) (hn : n ≤ 13) (hst : start < n) (ht : t.size ≤ 1000000) (hr : Rd w w.heap.size A (l.flatMap lstV)) (hin : ∀ i (h : i < l.length), LOk n l[i].st ∧ Rd w w.heap.size l[i].A (l[i].st.arcs.flatMap larV)) :
    Calls Try.prog 12 #[.slice A n c, .int .i64 start, .string t] w (Post w ([] : List Hp).flatten (fun x : (Value × Hp) × (Value × Hp) × (Value × Hp) => .tuple #[x.1.1, x.2.1.1, x.2.2.1, .bool true]) (fun x => ([x.1.2, x.2.1.2, x.2.2.2]).flatten)
      (fun x => Own 5 1 x.1.1 (t.size + 1) (((builtOf (l.map (·.st)) start).trail (builtOf (l.map (·.st)) start).init (bts t)).map (fun s => .int .u8 (((builtOf (l.map (·.st)) start).di s).2 : Nat))) x.1.2
        ∧ Own 4 1 x.2.1.1 (t.size + 1) (((builtOf (l.map (·.st)) start).trail (builtOf (l.map (·.st)) start).init (bts t)).map (fun s => .bool ((builtOf (l.map (·.st)) start).di s).1)) x.2.1.2
        ∧ Own 4 1 x.2.2.1 (t.size + 1) (((builtOf (l.map (·.st)) start).trail (builtOf (l.map (·.st)) start).init (bts t)).map (fun s => .bool (decide (0 < s)))) x.2.2.2)) := by
  refine enter [] Try.func12 rfl rfl (At.nil w) (Le.refl _) ?_
  intro R hR
  refine run_seq ?_
  refine run_region rfl ?_
  refine op_assign rfl rfl ?_
  refine op_assign rfl rfl ?_
  refine op_assign rfl rfl ?_
  refine op_assign rfl rfl ?_
  refine ops_nil ?_
  refine fin_code ?_
  refine run_seq ?_
  refine run_region rfl ?_
  refine op_move rfl rfl ?_
  refine op_move rfl rfl ?_
  ((first | (apply op_call; (· exact rfl)) | apply op_call0); (· exact rfl)); (case' hc => (refine fun w hG hw => build25_any w _ n c start l hl hn hst ?_ ?_)); (case hp => (repeat (first | exact Picks.nil | (apply Picks.cons; (· (repeat (first | exact Pick.here | apply Pick.there)))) | apply Picks.empty)))
  · exact hr.now hG
  · exact fun i h => ⟨(hin i h).1, (hin i h).2.now hG⟩
  generalize builtOf (l.map (·.st)) start = b at *
  rintro ⟨dq, m⟩ ⟨hok, hI, hini⟩
  dsimp only at hok hI hini ⊢
  have htl := trail_len b (bts t) b.init
  rw [bts_len] at htl
  have hlt := trail_lt hI.wt hI.fl (bts t) b.init (bts_lt t) hini
  rw [bts_len] at hlt
  have hz := trail_zero b (bts t) b.init
  have hsu := trail_succ b (bts t) b.init
  rw [bts_len] at hsu
  have P0 := fun w h => path_any (b := b) (dq := dq) w t h hI.wt ht
  generalize b.trail b.init (bts t) = T at *
  have hfew := hok.few
  dsimp only [dfH]
  refine op_move rfl rfl ?_
  refine op_extract rfl rfl rfl ?_
  refine op_extract rfl rfl rfl ?_
  refine op_assign rfl rfl ?_
  refine op_assign rfl rfl ?_
  refine ops_nil ?_
  refine fin_code ?_
  refine run_seq ?_
  refine run_seq ?_
  refine run_region rfl ?_
  refine op_move rfl rfl ?_
  refine op_not rfl rfl ?_
  refine ops_nil ?_
  refine fin_code ?_
  refine run_cond_f rfl ?_
  refine run_skip ?_
  refine fin_code ?_
  refine run_seq ?_
  refine run_region rfl ?_
  refine op_move rfl rfl ?_
  (refine op_val rfl (val_iface rfl) ?_)
  refine op_move rfl rfl ?_
  ((first | (apply op_call; (· exact rfl)) | apply op_call0); (· exact rfl)); (case' hc => (refine fun w hG hw => P0 w ?_)); (case hp => (repeat (first | exact Picks.nil | (apply Picks.cons; (· (repeat (first | exact Pick.here | apply Pick.there)))) | apply Picks.empty)))
  · exact DfaR.of hok hini (hG.now.le (by dsimp only [dfH]; (apply le_of_picks; (repeat (first | exact Picks.nil | (apply Picks.cons; (· (repeat (first | exact Pick.here | apply Pick.there)))) | apply Picks.empty)))))
  rintro ⟨⟨v1, l1⟩, ⟨v2, l2⟩, ⟨v3, l3⟩⟩ ⟨ho1, ho2, ho3⟩
  dsimp only at ho1 ho2 ho3 ⊢
  refine op_move rfl rfl ?_
  refine op_extract rfl rfl rfl ?_
  refine op_extract rfl rfl rfl ?_
  refine op_extract rfl rfl rfl ?_
  refine op_assign rfl rfl ?_
  refine op_assign rfl rfl ?_
  refine ops_nil ?_
  refine fin_code ?_
  refine run_seq ?_
  refine run_region rfl ?_
  refine op_move rfl rfl ?_
  ((first | (apply op_call; (· exact rfl)) | apply op_call0); (· exact rfl)); (case' hc => (refine fun w hG hw => start_any (b := b) w ?_)); (case hp => (repeat (first | exact Picks.nil | (apply Picks.cons; (· (repeat (first | exact Pick.here | apply Pick.there)))) | apply Picks.empty)))
  · exact DfaR.of hok hini (hG.now.le (by dsimp only [dfH]; (apply le_of_picks; (repeat (first | exact Picks.nil | (apply Picks.cons; (· (repeat (first | exact Pick.here | apply Pick.there)))) | apply Picks.empty)))))
  intro _ _
  refine op_assign rfl rfl ?_
  refine ops_nil ?_
  refine fin_code ?_
  refine run_seq ?_
  refine run_region rfl ?_
  refine op_move rfl rfl ?_
  refine op_move rfl rfl ?_
  ((first | (apply op_call; (· exact rfl)) | apply op_call0); (· exact rfl)); (case' hc => (refine fun w hG hw => edit_any (b := b) w b.init ?_ hini)); (case hp => (repeat (first | exact Picks.nil | (apply Picks.cons; (· (repeat (first | exact Pick.here | apply Pick.there)))) | apply Picks.empty)))
  · exact DfaR.of hok hini (hG.now.le (by dsimp only [dfH]; (apply le_of_picks; (repeat (first | exact Picks.nil | (apply Picks.cons; (· (repeat (first | exact Pick.here | apply Pick.there)))) | apply Picks.empty)))))
  intro _ _
  (refine op_slice1 rfl rfl (by first | rfl | simp [Value.cells]) (by decide) ?_; intro _ _)
  refine op_assign rfl rfl ?_
  refine ops_nil ?_
  refine fin_code ?_
  refine run_seq ?_
  refine run_seq ?_
  refine run_region rfl ?_
  refine op_move rfl rfl ?_
  (refine op_val rfl (val_slen rfl) ?_)
  refine op_move rfl rfl ?_
  refine ops_nil ?_
  refine fin_code ?_
  refine run_block ?_
  rename_i gd _
  refine run_loop (α := Nat × Value × Hp) (fun x => [(2, .string t), (6, x.2.1), (7, v1), (8, v2), (10, .pointer (some ⟨dq, 0, none⟩)), (11, .int .i64 (T.getD x.1 0 : Nat)), (36, .int .i64 t.size), (37, .int .i64 (x.1 : Nat))]) (fun x => [x.2.2, l1, l2, [⟨dq, .cells #[m.vt, m.vd, .int .i64 b.init, .int .u8 0] 105 (0, 0)⟩], m.ld, m.lt])
    (fun x => x.1 ≤ t.size ∧ Own 5 1 x.2.1 (x.1 + 1) ((T.take (x.1 + 1)).map (fun s => .int .u8 ((b.di s).2 : Nat))) x.2.2) (fun x => t.size - x.1)
    (0, .slice (some ⟨gd, 0, none⟩) 1 1, [⟨gd, .cells #[.int .u8 ((b.di b.init).2 : Nat)] 5 (0, 0)⟩]) ⟨Nat.zero_le _, ?_⟩ (by rw [hz]; (repeat (first | exact Sub.nil _ | (refine Sub.cons rfl ?_)))) (by (apply le_of_picks; (repeat (first | exact Picks.nil | (apply Picks.cons; (· (repeat (first | exact Pick.here | apply Pick.there)))) | apply Picks.empty)))) ?_
  · have e := take_map_succ (l := T) (i := 0) (by omega) (fun s => Value.int .u8 ((b.di s).2 : Nat))
    rw [hz] at e
    dsimp only
    rw [e]
    exact Own.lit rfl (by simp only [maxLen]; omega)
  rintro ⟨i, v, lv⟩ ⟨hi, ho⟩
  dsimp only at hi ho ⊢
  have hs := hlt i hi
  by_cases hend : i < t.size
  · obtain ⟨x, hx, hxn⟩ := bts_get (t := t) (i := i) hend
    have hc := bts_lt t ((bts t).getD i 0) (by
      rw [List.getD_eq_getElem?_getD, List.getElem?_eq_getElem (by rw [bts_len]; omega)]
      exact List.getElem_mem _)
    have hsu' := hsu i hend
    have hs' := hlt (i + 1) (by omega)
    have e1 := take_map_succ (l := T) (i := i + 1) (by omega) (fun s => Value.int .u8 ((b.di s).2 : Nat))
    generalize hsi : T.getD i 0 = s at *
    rw [← hxn] at hsu' hc
    rw [hsu'] at hs' e1
    refine run_seq ?_
    refine run_region rfl ?_
    refine op_cmp_t rfl rfl rfl rfl (by first | (simp only [cmpP]; done) | (simp only [cmpP]; omega)) ?_
    refine ops_nil ?_
    refine fin_code ?_
    refine run_seq ?_
    refine run_cond_t rfl ?_
    refine run_skip ?_
    refine fin_code ?_
    refine run_seq ?_
    refine run_block ?_
    refine run_seq ?_
    refine run_region rfl ?_
    refine op_move rfl rfl ?_
    refine op_assign rfl rfl ?_
    refine ops_nil ?_
    refine fin_code ?_
    refine run_seq ?_
    refine run_region rfl ?_
    refine op_move rfl rfl ?_
    refine op_move rfl rfl ?_
    refine op_move rfl rfl ?_
    refine op_move rfl rfl ?_
    (refine op_val rfl (val_sindex rfl rfl (by omega) (by assumption)) ?_)
    ((first | (apply op_call; (· exact rfl)) | apply op_call0); (· exact rfl)); (case' hc => (refine fun w hG hw => accept_any (b := b) w s x.toNat ?_ hs hc (by omega))); (case hp => (repeat (first | exact Picks.nil | (apply Picks.cons; (· (repeat (first | exact Pick.here | apply Pick.there)))) | apply Picks.empty)))
    · exact DfaR.of hok hini (hG.now.le (by dsimp only [dfH]; (apply le_of_picks; (repeat (first | exact Picks.nil | (apply Picks.cons; (· (repeat (first | exact Pick.here | apply Pick.there)))) | apply Picks.empty)))))
    intro _ _
    refine op_assign rfl rfl ?_
    refine ops_nil ?_
    refine fin_code ?_
    refine run_region rfl ?_
    refine op_move rfl rfl ?_
    refine op_move rfl rfl ?_
    refine op_move rfl rfl ?_
    ((first | (apply op_call; (· exact rfl)) | apply op_call0); (· exact rfl)); (case' hc => (refine fun w hG hw => edit_any (b := b) w (b.tr s x.toNat) ?_ hs')); (case hp => (repeat (first | exact Picks.nil | (apply Picks.cons; (· (repeat (first | exact Pick.here | apply Pick.there)))) | apply Picks.empty)))
    · exact DfaR.of hok hini (hG.now.le (by dsimp only [dfH]; (apply le_of_picks; (repeat (first | exact Picks.nil | (apply Picks.cons; (· (repeat (first | exact Pick.here | apply Pick.there)))) | apply Picks.empty)))))
    intro _ _
    (refine op_slice1 rfl rfl (by first | rfl | simp [Value.cells]) (by decide) ?_; intro _ _)
    (apply op_append1; (· exact rfl); (· exact rfl); (· exact rfl); (· exact ho); (· (repeat (first | exact Pick.here | apply Pick.there))); (· (repeat (first | exact Has.here | apply Has.there))); (· exact rfl); (· first | exact onesC rfl | (intro u hu; simp [Value.cells] at hu; rcases hu with rfl | rfl | rfl | rfl | rfl | rfl <;> rfl) | (intro u hu; simp [Value.cells] at hu; rcases hu with rfl | rfl | rfl <;> rfl) | (intro u hu; simp [Value.cells] at hu; rcases hu with rfl | rfl <;> rfl) | (intro u hu; simp [Value.cells] at hu; subst hu; rfl)); (· omega); (· omega); (· exact rfl))
    intro v' l' ho'
    refine op_assign rfl rfl ?_
    refine ops_nil ?_
    refine fin_block ?_
    refine fin_code ?_
    refine run_region rfl ?_
    refine op_add rfl rfl rfl (by simp only [kLo, kHi]; omega) ?_
    refine op_move rfl rfl ?_
    refine ops_nil ?_
    refine fin_round (i + 1, v', l') (by dsimp only; omega) (by rw [hsu']; (repeat (first | exact Sub.nil _ | (refine Sub.cons rfl ?_)))) (by (apply le_of_picks; (repeat (first | exact Picks.nil | (apply Picks.cons; (· (repeat (first | exact Pick.here | apply Pick.there)))) | apply Picks.empty)))) ⟨by dsimp only; omega, by dsimp only; rw [e1]; exact ho'⟩
  · obtain rfl : i = t.size := by omega
    rw [List.take_of_length_le (by omega)] at ho
    refine run_seq ?_
    refine run_region rfl ?_
    refine op_cmp_f rfl rfl rfl rfl (by first | (simp only [cmpP]; done) | (simp only [cmpP]; omega)) ?_
    refine ops_nil ?_
    refine fin_code ?_
    refine run_seq ?_
    refine run_cond_f rfl ?_
    refine run_exit ?_
    refine fin_exit_code ?_
    refine fin_exit_inv ?_
    refine fin_exit_here ?_
    refine fin_code ?_
    refine run_seq ?_
    refine run_region rfl ?_
    refine op_move rfl rfl ?_
    refine op_move rfl rfl ?_
    refine op_move rfl rfl ?_
    refine op_assign rfl rfl ?_
    refine op_assign rfl rfl ?_
    refine op_assign rfl rfl ?_
    refine op_assign rfl rfl ?_
    refine ops_nil ?_
    refine fin_code ?_
    refine run_ret ?_
    refine fin_ret4 rfl rfl rfl rfl rfl ?_
    intro w' g
    exact hR _ _ (post_of g ((v, lv), (v1, l1), (v2, l2)) ⟨ho, ho1, ho2⟩ rfl (by (apply le_of_picks; (repeat (first | exact Picks.nil | (apply Picks.cons; (· (repeat (first | exact Pick.here | apply Pick.there)))) | apply Picks.empty)))))
end Go.Proofs.Eng
