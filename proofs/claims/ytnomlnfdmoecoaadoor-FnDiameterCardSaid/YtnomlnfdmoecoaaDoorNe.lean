/- A part of the proof: what functions of the program do, step by step. -/
import Derived.Test.YtnomlnfdmoecoaaDoorNd
set_option linter.unusedVariables false
set_option linter.unusedSimpArgs false
namespace Go.Proofs.Eng
open Go.RowKit
theorem op_boxE {C : Ctx} {ks : List Kont} {E : Env} {Ls : List Hp} {ops : Array Oper} {rest : List Oper} {ty : Nat} {pos : String} {af : Array Edge} {d : Nat} {x : Operand} {v : Value} {cs : Array Value} (hn : Nat.blt d C.fn.ntmps = true) (hx : ev E x = some v) {el : Nat} (hc : v.cells = cs)
    (k : ∀ g, C.w0.heap.size ≤ g → Ops C ops rest ks ((d, .pointer (some ⟨g, 0, none⟩)) :: E) ([⟨g, .cells cs el (0, 0)⟩] :: Ls)) : Ops C ops (⟨some d, .box el x, ty, pos, af, none⟩ :: rest) ks E Ls := by
  subst hc
  exact op_box hn hx k
theorem clear_any (w : World) (q n c : Nat) (A : Option Addr) (hw : At w ([msB q (.slice A n c)] : List Hp).flatten) :
    Calls Tryd.prog 33 #[.pointer (some ⟨q, 0, none⟩)] w (Post w ([msB q (.slice A n c)] : List Hp).flatten (fun _ : Unit => .tuple #[]) (fun _ => ([msB q (.slice A 0 c)] : List Hp).flatten) (fun _ => True)) := by
  refine enter [msB q (.slice A n c)] Tryd.func33 rfl rfl hw (Le.refl _) ?_
  intro R hR
  dsimp only [msB] at hR ⊢
  refine run_region rfl ?_
  refine op_move rfl rfl ?_
  refine op_move rfl rfl ?_
  refine op_nilCheck rfl rfl ?_
  refine op_fieldAddr rfl rfl ?_
  (apply op_load; (· exact rfl); (· exact rfl); (· apply cell_of_has; (· (repeat (first | exact Has.here | apply Has.there))); (· first | exact rfl | exact hcc)))
  (refine op_sliceH rfl rfl rfl (by omega) ?_)
  refine op_nilCheck rfl rfl ?_
  refine op_fieldAddr rfl rfl ?_
  (apply op_store; (· exact rfl); (· exact rfl); (· exact rfl); (· (repeat (first | exact Swap.here | apply Swap.there))); (· first | decide | (simp; done) | (simp; omega) | assumption))
  refine ops_nil ?_
  refine fin_ret0 (.inr rfl) rfl ?_
  intro w' g
  exact hR _ _ (post_of g () trivial rfl (by (apply le_of_picks; (repeat (first | exact Picks.nil | (apply Picks.cons; (· (repeat (first | exact Pick.here | apply Pick.there)))) | apply Picks.empty)))))
theorem diam_any (w : World) (p md : Nat) (dam : Bool) (hmd : md ≤ 100) (hw : At w ([laB p md dam] : List Hp).flatten) :
    Calls Tryd.prog 26 #[.pointer (some ⟨p, 0, none⟩)] w (Post w ([laB p md dam] : List Hp).flatten (fun _ : Unit => .int .u8 (2 * (md : Int) + 1)) (fun _ => ([laB p md dam] : List Hp).flatten) (fun _ => True)) := by
  refine enter [laB p md dam] Tryd.func26 rfl rfl hw (Le.refl _) ?_
  intro R hR
  dsimp only [laB] at hR ⊢
  refine run_seq ?_
  refine run_region rfl ?_
  refine op_assign rfl rfl ?_
  refine ops_nil ?_
  refine fin_code ?_
  refine run_seq ?_
  refine run_region rfl ?_
  refine op_move rfl rfl ?_
  refine op_nilCheck rfl rfl ?_
  refine op_fieldAddr rfl rfl ?_
  (apply op_load; (· exact rfl); (· exact rfl); (· apply cell_of_has; (· (repeat (first | exact Has.here | apply Has.there))); (· first | exact rfl | exact hcc)))
  (refine op_mul rfl rfl rfl (by simp only [kLo, kHi]; omega) ?_)
  refine op_add rfl rfl rfl (by simp only [kLo, kHi]; omega) ?_
  refine op_assign rfl rfl ?_
  refine ops_nil ?_
  refine fin_code ?_
  refine run_ret ?_
  refine fin_ret1 rfl rfl ?_
  intro w' g
  exact hR _ _ (post_of g () trivial rfl (by (apply le_of_picks; (repeat (first | exact Picks.nil | (apply Picks.cons; (· (repeat (first | exact Pick.here | apply Pick.there)))) | apply Picks.empty)))))
theorem newMS_any (w : World) : Calls Tryd.prog 23 #[] w (Post w ([] : List Hp).flatten (fun x : Nat × Option Addr × Nat × Hp => .pointer (some ⟨x.1, 0, none⟩)) (fun x => ([msB x.1 (.slice x.2.1 0 x.2.2.1), x.2.2.2] : List Hp).flatten) (fun x => Own 87 3 (.slice x.2.1 0 x.2.2.1) 0 [] x.2.2.2)) := by
  refine enter [] Tryd.func23 rfl rfl (At.nil w) (Le.refl _) ?_
  intro R hR
  refine run_seq ?_
  refine run_region rfl ?_
  refine op_assign rfl rfl ?_
  refine ops_nil ?_
  refine fin_code ?_
  refine run_seq ?_
  refine run_region rfl ?_
  refine op_makeR 0 0 rfl rfl rfl rfl rfl (Nat.le_refl _) (by omega) (by omega) ?_
  intro g _
  refine op_build rfl rfl rfl (by first | (intro v hv; simp at hv; done) | (intro v hv; simp at hv; rcases hv with rfl | rfl | rfl | rfl | rfl | rfl | rfl <;> rfl) | (intro v hv; simp at hv; rcases hv with rfl | rfl | rfl | rfl | rfl | rfl <;> rfl) | (intro v hv; simp at hv; rcases hv with rfl | rfl | rfl | rfl | rfl <;> rfl) | (intro v hv; simp at hv; rcases hv with rfl | rfl | rfl | rfl <;> rfl) | (intro v hv; simp at hv; rcases hv with rfl | rfl | rfl <;> rfl) | (intro v hv; simp at hv; rcases hv with rfl | rfl <;> rfl) | (intro v hv; simp at hv; rcases hv with rfl; rfl)) rfl ?_
  refine op_boxE (cs := #[.slice (some ⟨g, 0, none⟩) 0 0]) rfl rfl (by simp [Value.cells]) ?_
  intro q _
  refine op_assign rfl rfl ?_
  refine ops_nil ?_
  refine fin_code ?_
  refine run_ret ?_
  refine fin_ret1 rfl rfl ?_
  intro w' g'
  exact hR _ _ (post_of g' (q, some ⟨g, 0, none⟩, 0, [⟨g, .cells #[] 87 (0, 0)⟩]) ⟨rfl, .inr ⟨g, 0, #[], rfl, rfl, Nat.le_refl _, Nat.zero_le _, rfl, rfl⟩⟩ rfl (by dsimp only [msB]; (apply le_of_picks; (repeat (first | exact Picks.nil | (apply Picks.cons; (· (repeat (first | exact Pick.here | apply Pick.there)))) | apply Picks.empty)))))
theorem newLev_any (w : World) (md : Nat) (dam : Bool) : Calls Tryd.prog 20 #[.int .u8 md, .bool dam] w (Post w ([] : List Hp).flatten (fun p : Nat => .pointer (some ⟨p, 0, none⟩)) (fun p => ([laB p md dam] : List Hp).flatten) (fun _ => True)) := by
  refine enter [] Tryd.func20 rfl rfl (At.nil w) (Le.refl _) ?_
  intro R hR
  refine run_seq ?_
  refine run_region rfl ?_
  refine op_assign rfl rfl ?_
  refine ops_nil ?_
  refine fin_code ?_
  refine run_seq ?_
  refine run_region rfl ?_
  refine op_move rfl rfl ?_
  refine op_move rfl rfl ?_
  refine op_build rfl rfl rfl (by first | (intro v hv; simp at hv; done) | (intro v hv; simp at hv; rcases hv with rfl | rfl | rfl | rfl | rfl | rfl | rfl <;> rfl) | (intro v hv; simp at hv; rcases hv with rfl | rfl | rfl | rfl | rfl | rfl <;> rfl) | (intro v hv; simp at hv; rcases hv with rfl | rfl | rfl | rfl | rfl <;> rfl) | (intro v hv; simp at hv; rcases hv with rfl | rfl | rfl | rfl <;> rfl) | (intro v hv; simp at hv; rcases hv with rfl | rfl | rfl <;> rfl) | (intro v hv; simp at hv; rcases hv with rfl | rfl <;> rfl) | (intro v hv; simp at hv; rcases hv with rfl; rfl)) rfl ?_
  refine op_boxE (cs := #[.int .u8 md, .bool dam]) rfl rfl (by simp [Value.cells]) ?_
  intro p _
  refine op_assign rfl rfl ?_
  refine ops_nil ?_
  refine fin_code ?_
  refine run_ret ?_
  refine fin_ret1 rfl rfl ?_
  intro w' g'
  exact hR _ _ (post_of g' p trivial rfl (by dsimp only [laB]; (apply le_of_picks; (repeat (first | exact Picks.nil | (apply Picks.cons; (· (repeat (first | exact Pick.here | apply Pick.there)))) | apply Picks.empty)))))
theorem zzNfa_any (w : World) (md : Nat) (dam : Bool) : Calls Tryd.prog 15 #[.int .u8 md, .bool dam] w (Post w ([] : List Hp).flatten (fun p : Nat => .pointer (some ⟨p, 0, none⟩)) (fun p => ([laB p md dam] : List Hp).flatten) (fun _ => True)) := by
  refine enter [] Tryd.func15 rfl rfl (At.nil w) (Le.refl _) ?_
  intro R hR
  refine run_seq ?_
  refine run_region rfl ?_
  refine op_assign rfl rfl ?_
  refine ops_nil ?_
  refine fin_code ?_
  refine run_seq ?_
  refine run_region rfl ?_
  refine op_move rfl rfl ?_
  refine op_move rfl rfl ?_
  ((first | (apply op_call; (· exact rfl)) | apply op_call0); (· exact rfl); rotate_left 1; (· exact fun w hG hw => newLev_any w md dam); rotate_right 1; (· (repeat (first | exact Picks.nil | (apply Picks.cons; (· (repeat (first | exact Pick.here | apply Pick.there)))) | apply Picks.empty))))
  intro p _
  dsimp only [laB]
  refine op_assign rfl rfl ?_
  refine ops_nil ?_
  refine fin_code ?_
  refine run_ret ?_
  refine fin_ret1 rfl rfl ?_
  intro w' g'
  exact hR _ _ (post_of g' p trivial rfl (by dsimp only [laB]; (apply le_of_picks; (repeat (first | exact Picks.nil | (apply Picks.cons; (· (repeat (first | exact Pick.here | apply Pick.there)))) | apply Picks.empty)))))
theorem lenS_any (w : World) (A : Option Addr) (n cap : Nat) : Calls Tryd.prog 84 #[.slice A n cap] w (Post w ([] : List Hp).flatten (fun _ : Unit => .int .i64 n) (fun _ => ([] : List Hp).flatten) (fun _ => True)) := by
  refine enter [] Tryd.func84 rfl rfl (At.nil w) (Le.refl _) ?_
  intro R hR
  refine run_seq ?_
  refine run_region rfl ?_
  refine op_assign rfl rfl ?_
  refine ops_nil ?_
  refine fin_code ?_
  refine run_seq ?_
  refine run_region rfl ?_
  refine op_move rfl rfl ?_
  refine op_len rfl rfl ?_
  refine op_assign rfl rfl ?_
  refine ops_nil ?_
  refine fin_code ?_
  refine run_ret ?_
  refine fin_ret1 rfl rfl ?_
  intro w' g
  exact hR _ _ (post_of g () trivial rfl (by (apply le_of_picks; (repeat (first | exact Picks.nil | (apply Picks.cons; (· (repeat (first | exact Pick.here | apply Pick.there)))) | apply Picks.empty)))))
theorem sortS_any (w : World) (A : Option Addr) (n cap : Nat) (hn : n ≤ 1) : Calls Tryd.prog 35 #[.iface 91 (.slice A n cap)] w (Post w ([] : List Hp).flatten (fun _ : Unit => .tuple #[]) (fun _ => ([] : List Hp).flatten) (fun _ => True)) := by
  refine enter [] Tryd.func35 rfl rfl (At.nil w) (Le.refl _) ?_
  intro R hR
  refine run_seq ?_
  refine run_region rfl ?_
  refine op_move rfl rfl ?_
  ((first | (apply op_invE 91 84; (· infer_instance); (· infer_instance); (· exact rfl)) | (apply op_inv0E 91 84; (· infer_instance); (· infer_instance))); (· exact rfl); (· exact rfl); rotate_left 1; (· exact fun w hG hw => lenS_any w A n cap); rotate_right 1; (· (repeat (first | exact Picks.nil | (apply Picks.cons; (· (repeat (first | exact Pick.here | apply Pick.there)))) | apply Picks.empty))))
  intro _ _
  refine op_assign rfl rfl ?_
  refine ops_nil ?_
  refine fin_code ?_
  refine run_seq ?_
  refine run_seq ?_
  refine run_region rfl ?_
  refine op_move rfl rfl ?_
  refine op_cmp_t rfl rfl rfl rfl (by first | (simp only [cmpP]; done) | (simp only [cmpP]; omega)) ?_
  refine ops_nil ?_
  refine fin_code ?_
  refine run_cond_t rfl ?_
  refine run_ret ?_
  refine fin_ret_code ?_
  refine fin_ret0 (.inl rfl) rfl ?_
  intro w' g
  exact hR _ _ (post_of g () trivial rfl (by (apply le_of_picks; (repeat (first | exact Picks.nil | (apply Picks.cons; (· (repeat (first | exact Pick.here | apply Pick.there)))) | apply Picks.empty)))))
theorem Own.asRow {v : Value} {l : List NS} {lv : Hp} (h : Own 87 3 v l.length (l.flatMap nsV) lv) (hn : 0 < l.length) : ∃ g cap sp, v = .slice (some ⟨g, 0, none⟩) l.length cap ∧ lv = rowH g sp l.toArray ∧ l.length ≤ cap ∧ cap ≤ maxLen ∧ l.length * 3 + sp.length = cap * 3 := by
  rcases h.2 with ⟨_, h0, _⟩ | ⟨g, cap, cur, rfl, rfl, h1, h2, h3, h4⟩
  · omega
  · refine ⟨g, cap, cur.toList.drop (l.length * 3), rfl, ?_, h1, h2, ?_⟩
    · unfold rowH
      have : cur = (l.flatMap nsV ++ cur.toList.drop (l.length * 3)).toArray := by
        apply Array.ext'
        rw [← h4]
        simp
      rw [← this]
    · rw [List.length_drop]
      have : l.length * 3 ≤ cap * 3 := Nat.mul_le_mul_right _ h1
      simp
      omega
theorem Own.ofRow {g cap : Nat} {sp : List Value} {d : Array NS} {n : Nat} (hd : d.size = n) (h1 : n ≤ cap) (h2 : cap ≤ maxLen) (h3 : n * 3 + sp.length = cap * 3) : Own 87 3 (.slice (some ⟨g, 0, none⟩) n cap) n (d.toList.flatMap nsV) (rowH g sp d) := by
  have hl := flat_len nsV 3 (fun _ => rfl) d.toList
  have hl2 : d.toList.length = n := by simpa using hd
  refine ⟨by rw [hl, hl2], .inr ⟨g, cap, _, rfl, rfl, h1, h2, ?_, ?_⟩⟩
  · rw [row_size g sp d, hd]; exact h3
  · rw [List.take_append_of_le_length (by rw [hl, hl2]; exact Nat.le_refl _), List.take_of_length_le (by rw [hl, hl2]; exact Nat.le_refl _)]
/-- A step of places. -/
def stepP (md : Nat) (dam : Bool) (scv : Nat) (l : List NS) : List NS := nsSort (transF md dam scv l)
theorem shr_eq (scv o : Nat) (h : scv < 18446744073709551616) : ((scv : Nat) : Int).fdiv (2 ^ (min ((o : Nat) : Int).toNat IntKind.u64.bits)) = ((scv / 2 ^ o : Nat) : Int) := by
  rw [Int.toNat_natCast, Int.fdiv_eq_ediv_of_nonneg _ (by exact Int.le_of_lt (Int.pow_pos (by omega)))]
  have e : scv / 2 ^ (min o IntKind.u64.bits) = scv / 2 ^ o := by
    by_cases ho : o ≤ 64
    · rw [show min o IntKind.u64.bits = o by simp [IntKind.bits]; omega]
    · rw [show min o IntKind.u64.bits = 64 by simp [IntKind.bits]; omega, Nat.div_eq_of_lt (by simpa using h)]
      have : 2 ^ 64 ≤ 2 ^ o := Nat.pow_le_pow_right (by omega) (by omega)
      rw [Nat.div_eq_of_lt (by omega)]
  rw [← e, Int.natCast_ediv, Int.natCast_pow]
  rfl
set_option maxRecDepth 100000 in
set_option maxHeartbeats 32000000 in
theorem trans_any (w : World) (p md : Nat) (dam : Bool) (c co q : Nat) (cc : Array Value) (v1 : Value) (hcc : aget cc co = some v1) (l : List NS) (lv1 : Hp) (A2 : Option Addr) (c2 : Nat) (lv2 : Hp) (scv N : Nat) (ho1 : Own 87 3 v1 l.length (l.flatMap nsV) lv1) (ho2 : Own 87 3 (.slice A2 0 c2) 0 [] lv2)
    (hl : ∀ s ∈ l, s.o + 2 + md ≤ N ∧ s.d ≤ md) (hN : N ≤ 3000) (hmd : md ≤ 8) (hlen : l.length ≤ 60000) (hx : scv < 18446744073709551616) (hw : At w ([laB p md dam, [⟨c, .cells cc 67 (0, 0)⟩], lv1, msB q (.slice A2 0 c2), lv2] : List Hp).flatten) :
    Calls Tryd.prog 28 #[.pointer (some ⟨p, 0, none⟩), .pointer (some ⟨c, co, none⟩), .pointer (some ⟨q, 0, none⟩), .int .u64 scv] w (Post w ([laB p md dam, [⟨c, .cells cc 67 (0, 0)⟩], lv1, msB q (.slice A2 0 c2), lv2] : List Hp).flatten (fun _ : Value × Hp => .tuple #[])
      (fun y => ([laB p md dam, [⟨c, .cells cc 67 (0, 0)⟩], lv1, msB q y.1, y.2] : List Hp).flatten) (fun y => Own 87 3 y.1 (stepP md dam scv l).length ((stepP md dam scv l).flatMap nsV) y.2 ∧ (∀ s ∈ stepP md dam scv l, Bn N md s) ∧ (stepP md dam scv l).Nodup)) := by
  refine enter [laB p md dam, [⟨c, .cells cc 67 (0, 0)⟩], lv1, msB q (.slice A2 0 c2), lv2] Tryd.func28 rfl rfl hw (Le.refl _) ?_
  intro R hR
  obtain ⟨A1, c1, rfl⟩ := ho1.isSlice
  have CL := fun w hw => clear_any w q 0 c2 A2 hw
  have DI := fun w hw => diam_any w p md dam (by omega) hw
  have ST := fun (w : World) (v : Value) (a : List NS) (lv : Hp) (s : NS) (x : Nat) h1 h2 h3 h4 h5 h6 hw => simpT_any w p md dam q v a lv s x N h1 h2 h3 h4 (by omega) hmd h5 h6 hw
  unfold stepP at hR
  have hsl : IntKind.u64.wrap (1 * 2 ^ (min (2 * (md : Int) + 1).toNat IntKind.u64.bits)) = ((2 ^ (2 * md + 1) : Nat) : Int) := by
    rw [show (2 * (md : Int) + 1).toNat = 2 * md + 1 by omega, show min (2 * md + 1) IntKind.u64.bits = 2 * md + 1 by simp [IntKind.bits]; omega, Int.one_mul]
    have : 2 ^ (2 * md + 1) ≤ 2 ^ 17 := Nat.pow_le_pow_right (by omega) (by omega)
    rw [show ((2 : Int) ^ (2 * md + 1)) = ((2 ^ (2 * md + 1) : Nat) : Int) by rw [Int.natCast_pow]; rfl]
    generalize 2 ^ (2 * md + 1) = P at *
    exact wrap_in (by simp only [kLo]; omega) (by simp only [kHi]; omega)
  have hP1 : 0 < 2 ^ (2 * md + 1) := Nat.pow_pos (by omega)
  have hP2 : 2 ^ (2 * md + 1) ≤ 2 ^ 17 := Nat.pow_le_pow_right (by omega) (by omega)
  have hmask : ∀ y : Nat, y < 18446744073709551616 → bitop .and .u64 (y : Int) (((2 ^ (2 * md + 1) : Nat) : Int) - 1) = ((y % 2 ^ (2 * md + 1) : Nat) : Int) := by
    intro y hy
    have h := u64_and (UInt64.ofNat y) (2 ^ (2 * md + 1) - 1) (by omega)
    rw [show (UInt64.ofNat y).toNat = y by rw [UInt64.toNat_ofNat']; omega, Nat.and_two_pow_sub_one_eq_mod] at h
    rw [← h]
    congr 1
    omega
  have hcv : ∀ o, cvN md scv o = scv / 2 ^ o % 2 ^ (2 * md + 1) := fun _ => rfl
  generalize 2 ^ (2 * md + 1) = P at *
  dsimp only [laB, msB] at CL DI ST ⊢
  refine run_seq ?_
  refine run_region rfl ?_
  refine op_move rfl rfl ?_
  ((first | (apply op_call; (· exact rfl)) | apply op_call0); (· exact rfl); rotate_left 1; (· exact fun w hG hw => CL w hw); rotate_right 1; (· (repeat (first | exact Picks.nil | (apply Picks.cons; (· (repeat (first | exact Pick.here | apply Pick.there)))) | apply Picks.empty))))
  intro _ _
  refine ops_nil ?_
  refine fin_code ?_
  refine run_seq ?_
  refine run_region rfl ?_
  refine op_move rfl rfl ?_
  ((first | (apply op_call; (· exact rfl)) | apply op_call0); (· exact rfl); rotate_left 1; (· exact fun w hG hw => DI w hw); rotate_right 1; (· (repeat (first | exact Picks.nil | (apply Picks.cons; (· (repeat (first | exact Pick.here | apply Pick.there)))) | apply Picks.empty))))
  intro _ _
  (refine op_shlE rfl rfl rfl (by omega) (by assumption) ?_)
  refine op_sub rfl rfl rfl (by simp only [kLo, kHi]; omega) ?_
  refine op_assign rfl rfl ?_
  refine ops_nil ?_
  refine fin_code ?_
  refine run_seq ?_
  refine run_seq ?_
  refine run_region rfl ?_
  refine op_move rfl rfl ?_
  refine op_nilCheck rfl rfl ?_
  refine op_fieldAddr rfl rfl ?_
  (apply op_load; (· exact rfl); (· exact rfl); (· apply cell_of_has; (· (repeat (first | exact Has.here | apply Has.there))); (· first | exact rfl | exact hcc)))
  refine op_len rfl rfl ?_
  refine op_move rfl rfl ?_
  refine ops_nil ?_
  refine fin_code ?_
  refine run_block ?_
  refine run_join1 (α := Value × Hp) (fun _ => [(0, .pointer (some ⟨p, 0, none⟩)), (2, .pointer (some ⟨q, 0, none⟩))]) (fun y => [[⟨p, .cells #[.int .u8 md, .bool dam] 82 (0, 0)⟩], [⟨c, .cells cc 67 (0, 0)⟩], lv1, [⟨q, .cells #[y.1] 67 (0, 0)⟩], y.2])
    (fun y => Own 87 3 y.1 (transF md dam scv l).length ((transF md dam scv l).flatMap nsV) y.2 ∧ (∀ s ∈ transF md dam scv l, Bn N md s) ∧ (transF md dam scv l).Nodup) ?_ ?_
  rotate_left 1
  · intro J
    refine run_loop (α := Nat × List NS × Value × Hp) (fun y => [(0, .pointer (some ⟨p, 0, none⟩)), (2, .pointer (some ⟨q, 0, none⟩)), (3, .int .u64 scv), (8, .int .u64 ((P : Int) - 1)), (21, .slice A1 l.length c1), (22, .int .i64 l.length), (23, .int .i64 (y.1 : Nat))]) (fun y => [[⟨p, .cells #[.int .u8 md, .bool dam] 82 (0, 0)⟩], [⟨c, .cells cc 67 (0, 0)⟩], lv1, [⟨q, .cells #[y.2.2.1] 67 (0, 0)⟩], y.2.2.2])
      (fun y => y.1 ≤ l.length ∧ y.2.1 = (l.take y.1).foldl (fun acc s => simpT md dam s (cvN md scv s.o) acc) [] ∧ Own 87 3 y.2.2.1 y.2.1.length (y.2.1.flatMap nsV) y.2.2.2 ∧ (∀ s ∈ y.2.1, Bn N md s) ∧ y.2.1.Nodup) (fun y => l.length - y.1)
      (0, [], .slice A2 0 c2, lv2) ⟨Nat.zero_le _, rfl, ho2, (fun s hs => by cases hs), List.nodup_nil⟩ (by (repeat (first | exact Sub.nil _ | (refine Sub.cons rfl ?_)))) (by (apply le_of_picks; (repeat (first | exact Picks.nil | (apply Picks.cons; (· (repeat (first | exact Pick.here | apply Pick.there)))) | apply Picks.empty)))) ?_
    rintro ⟨i, a, v, lv⟩ ⟨hi, ha, hov, hok, hnd⟩
    dsimp only at hi ha hov hok hnd ⊢
    by_cases hil : i < l.length
    · obtain ⟨g, cap, cur, hv, hl1, _, _, hz, hcur, _⟩ := ho1.openN (by omega)
      simp only [Value.slice.injEq] at hv
      obtain ⟨rfl, _, rfl⟩ := hv
      subst hl1
      have hsi := hl _ (List.getElem_mem hil)
      have hstep : (l.take (i + 1)).foldl (fun acc s => simpT md dam s (cvN md scv s.o) acc) [] = simpT md dam l[i] (cvN md scv l[i].o) a := by
        rw [List.take_succ_eq_append_getElem hil, List.foldl_append, ← ha]
        rfl
      have hbl := bn_len hnd hok
      have hbl2 : (N + 1) * (md + 1) * 2 ≤ 3001 * 9 * 2 := Nat.mul_le_mul_right _ (Nat.mul_le_mul (by omega) (by omega))
      have hsh := shr_eq scv l[i].o hx
      have hdiv : scv / 2 ^ l[i].o ≤ scv := Nat.div_le_self _ _
      have hcvi := hcv l[i].o
      have hnd' := simpT_nodup (md := md) (dam := dam) (s := l[i]) (x := cvN md scv l[i].o) hnd
      have hcvlt : cvN md scv l[i].o < 18446744073709551616 := by
        rw [hcvi]
        have := Nat.mod_lt (scv / 2 ^ l[i].o) hP1
        omega
      have ST1 := fun w hw => ST w v a lv l[i] (cvN md scv l[i].o) hov hok hsi.1 hsi.2 (by omega) hcvlt hw
      generalize simpT md dam l[i] (cvN md scv l[i].o) a = a' at *
      generalize cvN md scv l[i].o = cv at *
      generalize scv / 2 ^ l[i].o = y at *
      have hand := hmask y (by omega)
      rw [← hcvi] at hand
      refine run_seq ?_
      refine run_region rfl ?_
      refine op_cmp_t rfl rfl rfl rfl (by first | (simp only [cmpP]; done) | (simp only [cmpP]; omega)) ?_
      refine ops_nil ?_
      refine fin_code ?_
      refine run_seq ?_
      refine run_cond_t rfl ?_
      refine run_skip ?_
      refine fin_code ?_
      refine run_seq ?_
      refine run_block ?_
      refine run_seq ?_
      refine run_region rfl ?_
      refine op_index rfl rfl rfl (by omega) (by first | (rw [Int.toNat_natCast, Nat.mul_one, Nat.zero_add]) | (rw [Int.toNat_natCast, Nat.mul_one]) | (rw [Int.toNat_natCast, Nat.zero_add]) | (rw [Int.toNat_natCast]) | exact rfl) ?_
      (refine op_loadA (vs := nsV l[i]) rfl rfl rfl (fun k u hu => cell_of_has (by (repeat (first | exact Has.here | apply Has.there))) (hcur _ _ (flat_get nsV 3 (fun _ => rfl) l i hil k u hu))) ?_)
      (refine op_alloc rfl ?_; intro _ _)
      (apply op_storeAll; (· exact rfl); (· exact rfl); (· exact rfl); (· exact nsV_one _); (· (repeat (first | exact Swap.here | apply Swap.there))); (· exact rfl))
      refine ops_nil ?_
      refine fin_code ?_
      refine run_seq ?_
      refine run_region rfl ?_
      refine op_move rfl rfl ?_
      refine op_fieldAddr rfl rfl ?_
      (apply op_load; (· exact rfl); (· exact rfl); (· apply cell_of_has; (· (repeat (first | exact Has.here | apply Has.there))); (· first | exact rfl | exact hcc)))
      (refine op_shrE rfl rfl rfl (by omega) (by assumption) ?_)
      refine op_move rfl rfl ?_
      (refine op_bitsE rfl rfl rfl rfl (by assumption) ?_)
      refine op_assign rfl rfl ?_
      refine ops_nil ?_
      refine fin_code ?_
      refine run_region rfl ?_
      refine op_move rfl rfl ?_
      (apply op_loadAll; (· exact rfl); (· exact rfl); (· (repeat (first | exact Has.here | apply Has.there))); (· exact rfl))
      refine op_move rfl rfl ?_
      refine op_move rfl rfl ?_
      ((first | (apply op_call; (· exact rfl)) | apply op_call0); (· exact rfl); rotate_left 1; (· exact fun w hG hw => ST1 w hw); rotate_right 1; (· (repeat (first | exact Picks.nil | (apply Picks.cons; (· (repeat (first | exact Pick.here | apply Pick.there)))) | apply Picks.empty))))
      rintro ⟨v', lv'⟩ ⟨hov', hok', hln'⟩
      dsimp only at hov' ⊢
      refine ops_nil ?_
      refine fin_block ?_
      refine fin_code ?_
      refine run_region rfl ?_
      refine op_add rfl rfl rfl (by simp only [kLo, kHi]; omega) ?_
      refine op_move rfl rfl ?_
      refine ops_nil ?_
      refine fin_round (i + 1, a', v', lv') (by dsimp only; omega) (by (repeat (first | exact Sub.nil _ | (refine Sub.cons rfl ?_)))) (by (apply le_of_picks; (repeat (first | exact Picks.nil | (apply Picks.cons; (· (repeat (first | exact Pick.here | apply Pick.there)))) | apply Picks.empty)))) ⟨by dsimp only; omega, hstep.symm, hov', hok', hnd'⟩
    · obtain rfl : i = l.length := by omega
      rw [List.take_length] at ha
      have ea : transF md dam scv l = a := ha.symm
      rw [ea] at J
      have J1 := J (v, lv) ⟨hov, hok, hnd⟩
      refine run_seq ?_
      refine run_region rfl ?_
      refine op_cmp_f rfl rfl rfl rfl (by first | (simp only [cmpP]; done) | (simp only [cmpP]; omega)) ?_
      refine ops_nil ?_
      refine fin_code ?_
      refine run_seq ?_
      refine run_cond_f rfl ?_
      refine run_exit ?_
      refine fin_exit_code ?_
      refine fin_exit_inv ?_
      refine fin_exit_here ?_
      (apply J1)
      · (repeat (first | exact Sub.nil _ | (refine Sub.cons rfl ?_)))
      · (apply le_of_picks; (repeat (first | exact Picks.nil | (apply Picks.cons; (· (repeat (first | exact Pick.here | apply Pick.there)))) | apply Picks.empty)))
  rintro ⟨v, lv⟩ ⟨hov, hok, hnd⟩
  dsimp only at hov ⊢
  have hbl := bn_len hnd hok
  have hbl2 : (N + 1) * (md + 1) * 2 ≤ 3001 * 9 * 2 := Nat.mul_le_mul_right _ (Nat.mul_le_mul (by omega) (by omega))
  have hok' : ∀ s ∈ nsSort (transF md dam scv l), Bn N md s := fun s hs => hok s (nsSort_mem.1 hs)
  have hnd' := nsSort_nodup hnd
  generalize transF md dam scv l = a at *
  by_cases h1 : a.length ≤ 1
  · rw [nsSort_one h1] at hR
    obtain ⟨A3, c3, rfl⟩ := hov.isSlice
    refine fin_code ?_
    refine run_region rfl ?_
    refine op_move rfl rfl ?_
    refine op_nilCheck rfl rfl ?_
    refine op_fieldAddr rfl rfl ?_
    (apply op_load; (· exact rfl); (· exact rfl); (· apply cell_of_has; (· (repeat (first | exact Has.here | apply Has.there))); (· first | exact rfl | exact hcc)))
    (refine op_val rfl (val_iface rfl) ?_)
    ((first | (apply op_call; (· exact rfl)) | apply op_call0); (· exact rfl); rotate_left 1; (· exact fun w hG hw => sortS_any w A3 a.length c3 h1); rotate_right 1; (· (repeat (first | exact Picks.nil | (apply Picks.cons; (· (repeat (first | exact Pick.here | apply Pick.there)))) | apply Picks.empty))))
    intro _ _
    refine ops_nil ?_
    refine fin_ret0 (.inr rfl) rfl ?_
    intro w' g'
    exact hR _ _ (post_of g' (_, lv) ⟨hov, hok, hnd⟩ rfl (by dsimp only [laB, msB]; (apply le_of_picks; (repeat (first | exact Picks.nil | (apply Picks.cons; (· (repeat (first | exact Pick.here | apply Pick.there)))) | apply Picks.empty)))))
  · obtain ⟨g, cap, sp, rfl, rfl, k1, k2, k3⟩ := hov.asRow (by omega)
    refine fin_code ?_
    refine run_region rfl ?_
    refine op_move rfl rfl ?_
    refine op_nilCheck rfl rfl ?_
    refine op_fieldAddr rfl rfl ?_
    (apply op_load; (· exact rfl); (· exact rfl); (· apply cell_of_has; (· (repeat (first | exact Has.here | apply Has.there))); (· first | exact rfl | exact hcc)))
    (refine op_val rfl (val_iface rfl) ?_)
    ((first | (apply op_call; (· exact rfl)) | apply op_call0); (· exact rfl); rotate_left 1; (· exact fun w hG hw => sort_any (SD.row (g := g) (cap := cap) (sp := sp) (n := a.length) (by omega)) nsLt_swo (fun w => lenS_any w _ _ _) w a.toArray (by simp) hw); rotate_right 1; (· (repeat (first | exact Picks.nil | (apply Picks.cons; (· (repeat (first | exact Pick.here | apply Pick.there)))) | apply Picks.empty))))
    rintro d' ⟨hp, hs⟩
    have e : d'.toList = nsSort a := by
      have := nsSort_of (d := a.toArray) (d' := d') (by simpa using hp) (by simpa using hs)
      simpa using this
    have ho' : Own 87 3 (.slice (some ⟨g, 0, none⟩) a.length cap) (nsSort a).length ((nsSort a).flatMap nsV) (rowH g sp d') := by
      rw [nsSort_len, ← e]
      exact Own.ofRow (by have := congrArg List.length e; rw [nsSort_len] at this; simpa using this) k1 k2 k3
    refine ops_nil ?_
    refine fin_ret0 (.inr rfl) rfl ?_
    intro w' g'
    exact hR _ _ (post_of g' (_, rowH g sp d') ⟨ho', hok', hnd'⟩ rfl (by dsimp only [laB, msB]; (apply le_of_picks; (repeat (first | exact Picks.nil | (apply Picks.cons; (· (repeat (first | exact Pick.here | apply Pick.there)))) | apply Picks.empty)))))
end Go.Proofs.Eng
