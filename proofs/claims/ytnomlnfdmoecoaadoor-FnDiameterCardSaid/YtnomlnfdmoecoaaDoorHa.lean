/- A part of the proof: what functions of the program do, step by step. -/
import Derived.Test.YtnomlnfdmoecoaaDoorH9
set_option linter.unusedVariables false
set_option linter.unusedSimpArgs false
namespace Go.Proofs.Eng
open Go.RowKit
/-- The text of a set of places. -/
def bytesOf (l : List NS) : List Int := l.flatMap jsonB
theorem bytesOf_len (l : List NS) : (bytesOf l).length ≤ l.length * 100 := by
  induction l with
  | nil => simp [bytesOf]
  | cons s l ih =>
    have := jsonB_len s
    simp only [bytesOf, List.flatMap_cons, List.length_append, List.length_cons] at ih ⊢
    omega
theorem bytesOf_take (l : List NS) (i : Nat) (h : i < l.length) : bytesOf (l.take (i + 1)) = bytesOf (l.take i) ++ jsonB l[i] := by
  unfold bytesOf
  rw [List.take_succ_eq_append_getElem h, List.flatMap_append, List.flatMap_cons, List.flatMap_nil, List.append_nil]
/-- A row of places that can be read. -/
def NsAt (w : World) (A : Option Addr) (l : List NS) : Prop := l = [] ∨ ∃ g o, A = some ⟨g, o, none⟩ ∧ ∀ (j : Nat) v, (l.flatMap nsV)[j]? = some v → w.cell? ⟨g, o + j, none⟩ = some v
theorem json_anyV (w : World) (s : NS) (ho : s.o ≤ 4294967295) (hd : s.d ≤ 255) :
    Calls Tryd.prog 38 #[.agg (nsV s).toArray] w (Post w ([] : List Hp).flatten (fun x : Value × Hp => x.1) (fun x => ([x.2] : List Hp).flatten) (fun x => Own 5 1 x.1 (jsonB s).length (u8V (jsonB s)) x.2)) := json_any w s ho hd
def hashF (K : Nat → Int) (l : List NS) : List Int := shaF K (bytesOf l)
set_option maxRecDepth 100000 in
set_option maxHeartbeats 4000000 in
theorem hash_any (w : World) (p po : Nat) (A : Option Addr) (cap : Nat) (l : List NS) (K : Nat → Int) (kv : List Value) (B : Nat) (hBw : B ≤ w.heap.size)
    (hK : RdB w B 1 kv) (hkv : ∀ i, i < 64 → kv[i]? = some (.int .u32 (K i)))
    (hpc : w.cell? ⟨p, po, none⟩ = some (.slice A l.length cap)) (hl : l.length ≤ 500) (hall : ∀ s ∈ l, s.o ≤ 4294967295 ∧ s.d ≤ 255) (hrow : NsAt w A l) :
    Calls Tryd.prog 31 #[.pointer (some ⟨p, po, none⟩)] w (Post w ([] : List Hp).flatten (fun _ : Unit => .agg (u8V (hashF K l)).toArray) (fun _ => ([] : List Hp).flatten) (fun _ => True)) := by
  refine enter [] Tryd.func31 rfl rfl (At.nil w) (Le.refl _) ?_
  intro R hR
  refine run_seq ?_
  refine run_region rfl ?_
  refine op_alloc rfl ?_
  intro ga hga
  refine ops_nil ?_
  refine fin_code ?_
  refine run_seq ?_
  refine run_region rfl ?_
  (refine op_sliceN rfl rfl rfl (by first | (intro v hv; simp at hv; done) | (intro v hv; simp at hv; rcases hv with rfl | rfl | rfl | rfl | rfl | rfl | rfl <;> rfl) | (intro v hv; simp at hv; rcases hv with rfl | rfl | rfl | rfl | rfl | rfl <;> rfl) | (intro v hv; simp at hv; rcases hv with rfl | rfl | rfl | rfl | rfl <;> rfl) | (intro v hv; simp at hv; rcases hv with rfl | rfl | rfl | rfl <;> rfl) | (intro v hv; simp at hv; rcases hv with rfl | rfl | rfl <;> rfl) | (intro v hv; simp at hv; rcases hv with rfl | rfl <;> rfl) | (intro v hv; simp at hv; rcases hv with rfl; rfl)) rfl rfl (by decide) ?_; intro _ _)
  refine op_assign rfl rfl ?_
  refine ops_nil ?_
  refine fin_code ?_
  refine run_seq ?_
  refine run_seq ?_
  refine run_region rfl ?_
  refine op_move rfl rfl ?_
  refine op_nilCheck rfl rfl ?_
  refine op_fieldAddr rfl rfl ?_
  (apply op_load; (· exact rfl); (· exact rfl); (· exact cell_of_old hpc (by simp [ids])))
  refine op_len rfl rfl ?_
  refine op_move rfl rfl ?_
  refine ops_nil ?_
  refine fin_code ?_
  refine run_block ?_
  rename_i gb hgb
  refine run_loop (α := Value × Hp × Nat) (fun x => [(2, .pointer (some ⟨ga, 0, none⟩)), (3, x.1), (11, .slice A l.length cap), (12, .int .i64 (l.length : Nat)), (13, .int .i64 (x.2.2 : Nat))]) (fun x => [x.2.1, [⟨ga, .cells (u8V (List.replicate 32 0)).toArray 83 (0, 0)⟩]])
    (fun x => x.2.2 ≤ l.length ∧ Own 5 1 x.1 (bytesOf (l.take x.2.2)).length (u8V (bytesOf (l.take x.2.2))) x.2.1 ∧ ∃ g c, x.1 = .slice (some ⟨g, 0, none⟩) (bytesOf (l.take x.2.2)).length c) (fun x => l.length - x.2.2) (.slice (some ⟨gb, 0, none⟩) 0 0, [⟨gb, .cells #[] 5 (0, 0)⟩], 0) ⟨Nat.zero_le _, Own.empty, gb, 0, rfl⟩ ?_ ?_ ?_
  · (repeat (first | exact Sub.nil _ | (refine Sub.cons rfl ?_)))
  · (apply le_of_picks; (repeat (first | exact Picks.nil | (apply Picks.cons; (· (repeat (first | exact Pick.here | apply Pick.there)))) | apply Picks.empty)))
  rintro ⟨v, lb, i⟩ ⟨hi, ho, g, c, hv⟩
  dsimp only at hi ho hv ⊢
  by_cases hil : i < l.length
  · have hne : l ≠ [] := by intro e; simp [e] at hil
    obtain ⟨gr, gro, rfl, hc⟩ := hrow.resolve_left hne
    have hs := hall l[i] (List.getElem_mem hil)
    have hb1 := bytesOf_len (l.take i)
    have hb2 := jsonB_len l[i]
    have hlt : (l.take i).length ≤ 500 := by rw [List.length_take]; omega
    refine run_seq ?_
    refine run_region rfl ?_
    refine op_cmp_t rfl rfl rfl rfl (by first | (simp only [cmpP]; done) | (simp only [cmpP]; omega)) ?_
    refine ops_nil ?_
    refine fin_code ?_
    refine run_seq ?_
    refine run_cond_t rfl ?_
    refine run_skip ?_
    refine fin_code ?_
    refine run_seq ?_
    refine run_block ?_
    refine run_seq ?_
    refine run_region rfl ?_
    refine op_index rfl rfl rfl (by omega) (by first | (rw [Int.toNat_natCast, Nat.mul_one, Nat.zero_add]) | (rw [Int.toNat_natCast, Nat.mul_one]) | (rw [Int.toNat_natCast, Nat.zero_add]) | (rw [Int.toNat_natCast]) | exact rfl) ?_
    (refine op_loadA (vs := nsV l[i]) rfl rfl rfl (fun k u hu => by rw [Nat.add_assoc]; exact cell_of_old (hc _ _ (flat_get nsV 3 (fun _ => rfl) l i hil k u hu)) (by simp [ids])) ?_)
    (refine op_alloc rfl ?_; intro _ _)
    (apply op_storeAll; (· exact rfl); (· exact rfl); (· exact rfl); (· exact nsV_one _); (· (repeat (first | exact Swap.here | apply Swap.there))); (· exact rfl))
    refine ops_nil ?_
    refine fin_code ?_
    refine run_seq ?_
    refine run_region rfl ?_
    (apply op_loadAll; (· exact rfl); (· exact rfl); (· (repeat (first | exact Has.here | apply Has.there))); (· exact rfl))
    ((first | (apply op_call; (· exact rfl)) | apply op_call0); (· exact rfl); rotate_left 1; (· exact fun w hG hw => json_anyV w l[i] hs.1 hs.2); rotate_right 1; (· (repeat (first | exact Picks.nil | (apply Picks.cons; (· (repeat (first | exact Pick.here | apply Pick.there)))) | apply Picks.empty))))
    rintro ⟨v2, l2⟩ o2
    dsimp only at o2 ⊢
    refine op_assign rfl rfl ?_
    refine ops_nil ?_
    refine fin_code ?_
    refine run_region rfl ?_
    refine op_move rfl rfl ?_
    refine op_move rfl rfl ?_
    refine op_appendO rfl rfl rfl ho (by (repeat (first | exact Pick.here | apply Pick.there))) o2 (by (repeat (first | exact Pick.here | apply Pick.there))) hb2.1 (by omega) rfl ?_
    intro v3 l3 o3
    refine op_assign rfl rfl ?_
    refine ops_nil ?_
    refine fin_block ?_
    refine fin_code ?_
    refine run_region rfl ?_
    refine op_add rfl rfl rfl (by simp only [kLo, kHi]; omega) ?_
    refine op_move rfl rfl ?_
    refine ops_nil ?_
    have o4 : Own 5 1 v3 (bytesOf (l.take (i + 1))).length (u8V (bytesOf (l.take (i + 1)))) l3 := by
      rw [bytesOf_take l i hil, List.length_append, u8V_app]
      exact o3
    obtain ⟨g4, c4, sp4, e4, _⟩ := o4.open (by rw [bytesOf_take l i hil, List.length_append]; omega)
    refine fin_round (v3, l3, i + 1) (by dsimp only; omega) ?_ ?_ ⟨hil, o4, g4, c4, e4⟩
    · (repeat (first | exact Sub.nil _ | (refine Sub.cons rfl ?_)))
    · (apply le_of_picks; (repeat (first | exact Picks.nil | (apply Picks.cons; (· (repeat (first | exact Pick.here | apply Pick.there)))) | apply Picks.empty)))
  · have hie : i = l.length := by omega
    subst hie
    rw [List.take_length] at ho hv
    have hb1 := bytesOf_len l
    subst hv
    refine run_seq ?_
    refine run_region rfl ?_
    refine op_cmp_f rfl rfl rfl rfl (by first | (simp only [cmpP]; done) | (simp only [cmpP]; omega)) ?_
    refine ops_nil ?_
    refine fin_code ?_
    refine run_seq ?_
    refine run_cond_f rfl ?_
    refine run_exit ?_
    refine fin_exit_code ?_
    refine fin_exit_inv ?_
    refine fin_exit_here ?_
    refine fin_code ?_
    refine run_seq ?_
    refine run_region rfl ?_
    refine op_move rfl rfl ?_
    have hh : hashF K l = shaF K (bytesOf l) := rfl
    rw [hh] at hR
    ((first | (apply op_call; (· exact rfl)) | apply op_call0); (· exact rfl)); (case' hc => (refine fun w hG hw => sha_any w g 0 (bytesOf l).length c K kv (bytesOf l) rfl (by omega) ?_ B ?_ ?_ hkv ?_ ?_)); (case hp => (repeat (first | exact Picks.nil | (apply Picks.cons; (· (repeat (first | exact Pick.here | apply Pick.there)))) | apply Picks.empty)))
    · rcases ho.2 with ⟨h, _⟩ | ⟨g', c', cur, h, _, h1, _⟩
      · cases h
      · cases h
        exact h1
    · exact Nat.le_trans hBw hG.size
    · exact RdB.nowD hK hG (by simp [ids]) hBw
    · rcases ho.2 with ⟨h, _⟩ | ⟨g', c', cur, h, h0, h1, _⟩
      · cases h
      · cases h
        subst h0
        exact hG.now.lt (by simp [ids])
    · intro j v hv
      have hat : At w lb := At.item hG.now (by (repeat (first | exact Pick.here | apply Pick.there)))
      have hu : (u8V (bytesOf l))[j]? = some (.int .u8 v) := by simp [u8V, hv]
      rcases ho.rd hat with h | ⟨g', o', e, _, hc⟩
      · rw [h] at hu
        cases hu
      · cases e
        exact hc j _ hu
    intro _ _
    have hdl0 := shaF_len K (bytesOf l)
    generalize shaF K (bytesOf l) = dl at *
    have hdlA : (u8V dl).toArray.size = 32 := by rw [u8V_size, hdl0]
    (apply op_storeAll; (· exact rfl); (· exact rfl); (· exact hdlA); (· exact u8_oneA dl); (· (repeat (first | exact Swap.here | apply Swap.there))); (· exact rfl))
    refine ops_nil ?_
    refine fin_code ?_
    refine run_ret ?_
    refine fin_retC rfl rfl (by (repeat (first | exact Has.here | apply Has.there))) hdlA ?_
    intro w' g'
    exact hR _ _ (post_of g' () trivial rfl (by (apply le_of_picks; (repeat (first | exact Picks.nil | (apply Picks.cons; (· (repeat (first | exact Pick.here | apply Pick.there)))) | apply Picks.empty)))))
end Go.Proofs.Eng
