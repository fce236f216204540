/- A part of the proof: what functions of the program do, step by step. -/
import Derived.Test.YtiadbheejlhimaaV3
set_option linter.unusedVariables false
set_option linter.unusedSimpArgs false
namespace Go.Proofs.Eng
open Go.RowKit
/-- Each number in the index is that of a state that is there. -/
def Wf (b : Bd) : Prop := ∀ x ∈ b.idx, x = MAX32 ∨ x < b.n
theorem Bd.at_mem {b : Bd} {s : Nat} (h : s < b.idx.length) : b.at s ∈ b.idx := by simp [Bd.at, List.getD_eq_getElem?_getD, h]
theorem Wf.small {b : Bd} (h : Wf b) (hn : b.n ≤ 100000000) : ∀ x ∈ b.idx, x < 4294967296 := fun x hx => by
  rcases h x hx with h | h
  · rw [h]; decide
  · omega
theorem alloc_n (b : Bd) : b.alloc.n = b.n + 1 := rfl
theorem goa_yes {b : Bd} {s : Nat} (h : b.at s = MAX32) : (b.goa s).1 = b.n ∧ (b.goa s).2.n = b.n + 1 ∧ (b.goa s).2.idx = b.idx.set s b.n ∧ (b.goa s).2.max = b.max := by
  unfold Bd.goa
  rw [if_pos h]
  exact ⟨rfl, alloc_n b, rfl, rfl⟩
theorem goa_no {b : Bd} {s : Nat} (h : ¬ b.at s = MAX32) : b.goa s = (b.at s, b) := by
  unfold Bd.goa
  rw [if_neg h]
theorem goa_n (b : Bd) (s : Nat) : b.n ≤ (b.goa s).2.n ∧ (b.goa s).2.n ≤ b.n + 1 := by
  by_cases h : b.at s = MAX32
  · have := goa_yes h; omega
  · rw [goa_no h]; dsimp only; omega
theorem goa_idx (b : Bd) (s : Nat) : (b.goa s).2.idx.length = b.idx.length := by
  by_cases h : b.at s = MAX32
  · rw [(goa_yes h).2.2.1, List.length_set]
  · rw [goa_no h]
theorem goa_max (b : Bd) (s : Nat) : (b.goa s).2.max = b.max := by
  by_cases h : b.at s = MAX32
  · exact (goa_yes h).2.2.2
  · rw [goa_no h]
theorem goa_wf {b : Bd} {s : Nat} (h : Wf b) : Wf (b.goa s).2 := by
  by_cases hm : b.at s = MAX32
  · obtain ⟨_, h2, h3, _⟩ := goa_yes hm
    intro x hx
    rw [h2]
    rw [h3] at hx
    rcases List.mem_or_eq_of_mem_set hx with hx | hx
    · rcases h x hx with h | h
      · exact .inl h
      · exact .inr (by omega)
    · exact .inr (by omega)
  · rw [goa_no hm]; exact h
theorem goa_lt {b : Bd} {s : Nat} (h : Wf b) (hs : s < b.idx.length) : (b.goa s).1 < (b.goa s).2.n := by
  by_cases hm : b.at s = MAX32
  · obtain ⟨h1, h2, _⟩ := goa_yes hm
    omega
  · rw [goa_no hm]
    rcases h _ (Bd.at_mem hs) with h | h
    · exact absurd h hm
    · exact h
theorem n_fill (b : Bd) (o n v : Nat) : (b.fill o n v).n = b.n := rfl
theorem n_set (b : Bd) (f c t : Nat) : (b.set f c t).n = b.n := rfl
theorem wf_fill {b : Bd} {o n v : Nat} (h : Wf b) : Wf (b.fill o n v) := h
theorem BdOk.fill {b : Bd} {m : BdM} {g c o k x : Nat} {cur : Array Value} (h : BdOk b ⟨m.q, m.gi, m.vd, .slice (some ⟨g, 0, none⟩) b.n c, m.ld, [⟨g, .cells cur 121 (0, 0)⟩]⟩) (ho : o + k ≤ b.n * 256) :
    BdOk (b.fill o k x) ⟨m.q, m.gi, m.vd, .slice (some ⟨g, 0, none⟩) b.n c, m.ld, [⟨g, .cells (setR cur o k (v32 x)) 121 (0, 0)⟩]⟩ :=
  ⟨h.od, h.ot.setR ho, h.few, h.idl⟩
/-- The chain of states behind the default one. -/
def Bd.pre (b : Bd) (d did : Nat) : Nat → List Nat × Bd
  | 0 => ([did, did, did, did], b)
  | k + 1 => let x := b.pre d did k; let y := x.2.goa (d * 4 + (k + 1)); (x.1.set (k + 1) y.1, y.2.fill (y.1 * 256) 256 (x.1.getD k 0))
theorem pre_len (b : Bd) (d did : Nat) : ∀ k, (b.pre d did k).1.length = 4
  | 0 => rfl
  | k + 1 => by simp only [Bd.pre, List.length_set]; exact pre_len b d did k
theorem pre_idx (b : Bd) (d did : Nat) : ∀ k, (b.pre d did k).2.idx.length = b.idx.length
  | 0 => rfl
  | k + 1 => by
    have := pre_idx b d did k
    show ((b.pre d did k).2.goa (d * 4 + (k + 1))).2.idx.length = _
    rw [goa_idx, this]
theorem pre_max (b : Bd) (d did : Nat) : ∀ k, (b.pre d did k).2.max = b.max
  | 0 => rfl
  | k + 1 => by
    have := pre_max b d did k
    show ((b.pre d did k).2.goa (d * 4 + (k + 1))).2.max = _
    rw [goa_max, this]
theorem pre_n (b : Bd) (d did : Nat) : ∀ k, b.n ≤ (b.pre d did k).2.n ∧ (b.pre d did k).2.n ≤ b.n + k
  | 0 => ⟨Nat.le_refl _, Nat.le_refl _⟩
  | k + 1 => by
    have h1 := pre_n b d did k
    have h2 := goa_n (b.pre d did k).2 (d * 4 + (k + 1))
    show b.n ≤ ((b.pre d did k).2.goa (d * 4 + (k + 1))).2.n ∧ ((b.pre d did k).2.goa (d * 4 + (k + 1))).2.n ≤ _
    omega
theorem pre_wf {b : Bd} {d did : Nat} (h : Wf b) : ∀ k, Wf (b.pre d did k).2
  | 0 => h
  | k + 1 => wf_fill (goa_wf (pre_wf h k))
def Bd.setD (b : Bd) (i : Nat) (e : Bool × Nat) : Bd := { b with dist := b.dist.set i e }
theorem n_setD (b : Bd) (i : Nat) (e : Bool × Nat) : (b.setD i e).n = b.n := rfl
def Bd.addS (b : Bd) (s d : Nat) (e : Bool × Nat) : Nat × List Nat × Bd :=
  let x := b.goa (s * 4)
  let y := (x.2.setD x.1 e).goa (d * 4)
  let z := y.2.pre d y.1 3
  (x.1, z.1, (((z.2.fill (x.1 * 256) 192 (z.1.getD 0 0)).fill (x.1 * 256 + 192) 32 (z.1.getD 1 0)).fill (x.1 * 256 + 224) 16 (z.1.getD 2 0)).fill (x.1 * 256 + 240) 16 (z.1.getD 3 0))
def psB (gp : Nat) (ps : List Nat) : Blk := ⟨gp, .cells (ps.map v32).toArray 23 (0, 0)⟩
theorem ps_get {ps : List Nat} (hl : ps.length = 4) {k : Nat} (hk : k < 4) : aget (ps.map v32).toArray k = some (.int .u32 (ps.getD k 0 : Nat)) := by
  rw [aget_eq]
  simp [v32, List.getD_eq_getElem?_getD, show k < ps.length by omega]
set_option maxRecDepth 100000 in
set_option maxHeartbeats 8000000 in
theorem addState_any (w0 : World) (b : Bd) (m : BdM) (s d : Nat) (e : Bool × Nat) (hok : BdOk b m) (hwf : Wf b) (hn : b.n < 1000000) (hs : s * 4 < b.idx.length) (hd : d * 4 + 3 < b.idx.length) (hmx : s ≤ b.max) (hw : At w0 (bdH b m).flatten) :
    Calls Try.prog 54 #[.pointer (some ⟨m.q, 0, none⟩), .int .u32 s, .int .u32 d, dv e] w0 (Post w0 (bdH b m).flatten (fun x : BdM × Nat × Nat => .tuple #[.pointer (some ⟨x.2.1, 0, none⟩), .nilIface])
      (fun x => ([sbB x.2.1 m.q (b.addS s d e).1 x.2.2] :: [psB x.2.2 (b.addS s d e).2.1] :: bdH (b.addS s d e).2.2 x.1).flatten) (fun x => x.1.q = m.q ∧ x.1.gi = m.gi ∧ BdOk (b.addS s d e).2.2 x.1)) := by
  refine enter (bdH b m) Try.func54 rfl rfl hw (Le.refl _) ?_
  intro R hR
  have hidl := hok.idl
  unfold Bd.addS at hR
  obtain ⟨q, gi, vd, vt, ld, lt⟩ := m
  dsimp only [bdH, bdC] at hok hw hR ⊢
  refine run_seq ?_
  refine run_region rfl ?_
  refine op_assign rfl rfl ?_
  refine op_assign rfl rfl ?_
  refine ops_nil ?_
  refine fin_code ?_
  refine run_seq ?_
  refine run_seq ?_
  refine run_region rfl ?_
  refine op_move rfl rfl ?_
  refine op_move rfl rfl ?_
  refine op_nilCheck rfl rfl ?_
  refine op_fieldAddr rfl rfl ?_
  (apply op_load; (· exact rfl); (· exact rfl); (· apply cell_of_has; (· (repeat (first | exact Has.here | apply Has.there))); (· first | exact rfl | exact hget | exact hg0 | exact hg1 | exact hg2 | exact hg3)))
  refine op_cmp_f rfl rfl rfl rfl (by first | (simp only [cmpP]; done) | (simp only [cmpP]; omega)) ?_
  refine ops_nil ?_
  refine fin_code ?_
  refine run_cond_f rfl ?_
  refine run_skip ?_
  refine fin_code ?_
  refine run_seq ?_
  refine run_region rfl ?_
  refine op_move rfl rfl ?_
  refine op_move rfl rfl ?_
  ((first | (apply op_call; (· exact rfl)) | apply op_call0); (· exact rfl); rotate_left 1; (· exact fun w hG hw => orig_any w s (by omega)); rotate_right 1; (· (repeat (first | exact Picks.nil | (apply Picks.cons; (· (repeat (first | exact Pick.here | apply Pick.there)))) | apply Picks.empty))))
  intro _ _
  skip
  ((first | (apply op_call; (· exact rfl)) | apply op_call0); (· exact rfl); rotate_left 1; (· exact fun w hG hw => goa_any w b ⟨q, gi, vd, vt, ld, lt⟩ (s * 4) hok (by omega) hs (hwf.small (by omega)) hw); rotate_right 1; (· (repeat (first | exact Picks.nil | (apply Picks.cons; (· (repeat (first | exact Pick.here | apply Pick.there)))) | apply Picks.empty))))
  rintro ⟨q', gi', vd1, vt1, ld1, lt1⟩ ⟨hq, hgi, hok1⟩
  dsimp only at hq hgi
  subst hq hgi
  have hx1 := goa_lt hwf hs
  have hx2 := goa_n b (s * 4)
  have hx3 := goa_wf (s := s * 4) hwf
  have hx4 := goa_idx b (s * 4)
  generalize b.goa (s * 4) = x at hok1 hx1 hx2 hx3 hx4 hR
  obtain ⟨sid, b1⟩ := x
  dsimp only [bdH, bdC] at hok1 hx1 hx2 hx3 hx4 hR ⊢
  obtain ⟨gd, cd, curd, hv, hl, hdc, _, hds, _, _⟩ := hok1.od.openN (by omega)
  dsimp only at hv hl
  subst hv hl
  have hltd : sid < curd.size := by omega
  refine op_assign rfl rfl ?_
  refine ops_nil ?_
  refine fin_code ?_
  refine run_seq ?_
  refine run_region rfl ?_
  refine op_move rfl rfl ?_
  refine op_nilCheck rfl rfl ?_
  refine op_fieldAddr rfl rfl ?_
  (apply op_load; (· exact rfl); (· exact rfl); (· apply cell_of_has; (· (repeat (first | exact Has.here | apply Has.there))); (· first | exact rfl | exact hget | exact hg0 | exact hg1 | exact hg2 | exact hg3)))
  refine op_move rfl rfl ?_
  refine op_move rfl rfl ?_
  refine op_index rfl rfl rfl (by omega) (by first | (rw [Int.toNat_natCast, Nat.mul_one, Nat.zero_add]) | (rw [Int.toNat_natCast, Nat.mul_one]) | (rw [Int.toNat_natCast, Nat.zero_add]) | (rw [Int.toNat_natCast]) | exact rfl) ?_
  (apply op_store; (· exact rfl); (· exact rfl); (· exact rfl); (· (repeat (first | exact Swap.here | apply Swap.there))); (· first | decide | (simp; done) | (simp; omega) | assumption))
  refine ops_nil ?_
  refine fin_code ?_
  refine run_seq ?_
  refine run_region rfl ?_
  refine op_move rfl rfl ?_
  refine op_move rfl rfl ?_
  have hok2 : BdOk (b1.setD sid e) ⟨q', gi', .slice (some ⟨gd, 0, none⟩) b1.n cd, vt1, [⟨gd, .cells (curd.setIfInBounds sid (dv e)) 77 (0, 0)⟩], lt1⟩ := by
    have od2 := hok1.od.set (o := sid) (v := dv e)
    rw [← List.map_set] at od2
    exact ⟨od2, hok1.ot, hok1.few, hok1.idl⟩
  ((first | (apply op_call; (· exact rfl)) | apply op_call0); (· exact rfl); rotate_left 1; (· exact fun w hG hw => orig_any w d (by omega)); rotate_right 1; (· (repeat (first | exact Picks.nil | (apply Picks.cons; (· (repeat (first | exact Pick.here | apply Pick.there)))) | apply Picks.empty))))
  intro _ _
  skip
  ((first | (apply op_call; (· exact rfl)) | apply op_call0); (· exact rfl); rotate_left 1; (· exact fun w hG hw => goa_any w (b1.setD sid e) ⟨q', gi', .slice (some ⟨gd, 0, none⟩) b1.n cd, vt1, [⟨gd, .cells (curd.setIfInBounds sid (dv e)) 77 (0, 0)⟩], lt1⟩ (d * 4) hok2 (show b1.n < 10000000 by omega) (show d * 4 < b1.idx.length by omega) (hx3.small (by omega)) hw); rotate_right 1; (· (repeat (first | exact Picks.nil | (apply Picks.cons; (· (repeat (first | exact Pick.here | apply Pick.there)))) | apply Picks.empty))))
  rintro ⟨q2, gi2, vd2, vt2, ld2, lt2⟩ ⟨hq, hgi, hok3⟩
  dsimp only at hq hgi
  subst hq hgi
  have hy1 := goa_lt (b := b1.setD sid e) (s := d * 4) hx3 (show d * 4 < b1.idx.length by omega)
  have hy2 := goa_n (b1.setD sid e) (d * 4)
  have hy3 := goa_wf (b := b1.setD sid e) (s := d * 4) hx3
  have hy4 := goa_idx (b1.setD sid e) (d * 4)
  generalize (b1.setD sid e).goa (d * 4) = y at hok3 hy1 hy2 hy3 hy4 hR
  obtain ⟨did, b3⟩ := y
  have hy2' : b1.n ≤ b3.n ∧ b3.n ≤ b1.n + 1 := hy2
  have hy4' : b3.idx.length = b1.idx.length := hy4
  clear hy2 hy4
  dsimp only [bdH, bdC] at hok3 hy1 hy3 hR ⊢
  refine op_assign rfl rfl ?_
  refine ops_nil ?_
  refine fin_code ?_
  refine run_seq ?_
  refine run_region rfl ?_
  refine op_move rfl rfl ?_
  refine op_move rfl rfl ?_
  refine op_move rfl rfl ?_
  refine op_move rfl rfl ?_
  (refine op_sliceN rfl rfl rfl (by first | (intro v hv; simp at hv; done) | (intro v hv; simp at hv; rcases hv with rfl | rfl | rfl | rfl | rfl | rfl | rfl <;> rfl) | (intro v hv; simp at hv; rcases hv with rfl | rfl | rfl | rfl | rfl | rfl <;> rfl) | (intro v hv; simp at hv; rcases hv with rfl | rfl | rfl | rfl | rfl <;> rfl) | (intro v hv; simp at hv; rcases hv with rfl | rfl | rfl | rfl <;> rfl) | (intro v hv; simp at hv; rcases hv with rfl | rfl | rfl <;> rfl) | (intro v hv; simp at hv; rcases hv with rfl | rfl <;> rfl) | (intro v hv; simp at hv; rcases hv with rfl; rfl)) rfl rfl (by decide) ?_; intro _ _)
  refine op_assign rfl rfl ?_
  refine ops_nil ?_
  refine fin_code ?_
  refine run_seq ?_
  refine run_seq ?_
  refine run_region rfl ?_
  refine op_assign rfl rfl ?_
  refine ops_nil ?_
  refine fin_code ?_
  refine run_block ?_
  rename_i gp _
  refine run_loop (α := Nat × BdM) (fun x => [(0, .pointer (some ⟨q2, 0, none⟩)), (2, .int .u32 d), (10, .int .u32 sid), (12, .slice (some ⟨gp, 0, none⟩) 4 4), (13, .int .u8 (x.1 + 1 : Nat))]) (fun x => [psB gp (b3.pre d did x.1).1] :: bdH (b3.pre d did x.1).2 x.2)
    (fun x => x.1 ≤ 3 ∧ x.2.q = q2 ∧ x.2.gi = gi2 ∧ BdOk (b3.pre d did x.1).2 x.2) (fun x => 3 - x.1) (0, ⟨q2, gi2, vd2, vt2, ld2, lt2⟩) ⟨by omega, rfl, rfl, hok3⟩ (by (repeat (first | exact Sub.nil _ | (refine Sub.cons rfl ?_)))) (by dsimp only [bdH, bdC, psB, Bd.pre, List.map_cons, List.map_nil]; (apply le_of_picks; (repeat (first | exact Picks.nil | (apply Picks.cons; (· (repeat (first | exact Pick.here | apply Pick.there)))) | apply Picks.empty)))) ?_
  rintro ⟨k, m⟩ ⟨hk, hmq, hmgi, hokk⟩
  obtain ⟨q3, gi3, vd3, vt3, ld3, lt3⟩ := m
  dsimp only at hk hmq hmgi hokk ⊢
  subst hmq hmgi
  have hpn := pre_n b3 d did k
  have hpw := pre_wf (d := d) (did := did) hy3 k
  have hpi := pre_idx b3 d did k
  have hpl := pre_len b3 d did k
  by_cases hk3 : k < 3
  · have hpre : b3.pre d did (k + 1) = ((b3.pre d did k).1.set (k + 1) ((b3.pre d did k).2.goa (d * 4 + (k + 1))).1, ((b3.pre d did k).2.goa (d * 4 + (k + 1))).2.fill (((b3.pre d did k).2.goa (d * 4 + (k + 1))).1 * 256) 256 ((b3.pre d did k).1.getD k 0)) := rfl
    generalize b3.pre d did k = P at hpre hpn hpw hpi hpl hokk
    obtain ⟨ps, bk⟩ := P
    dsimp only at hpre hpn hpw hpi hpl hokk ⊢
    dsimp only [bdH, bdC, psB]
    refine run_seq ?_
    refine run_seq ?_
    refine run_region rfl ?_
    refine op_move rfl rfl ?_
    refine op_cmp_t rfl rfl rfl rfl (by first | (simp only [cmpP]; done) | (simp only [cmpP]; omega)) ?_
    refine ops_nil ?_
    refine fin_code ?_
    refine run_cond_t rfl ?_
    refine run_skip ?_
    refine fin_code ?_
    refine run_seq ?_
    refine run_block ?_
    refine run_seq ?_
    refine run_region rfl ?_
    refine op_move rfl rfl ?_
    refine op_move rfl rfl ?_
    ((first | (apply op_call; (· exact rfl)) | apply op_call0); (· exact rfl); rotate_left 1; (· exact fun w hG hw => pred_any w d (k + 1) (by omega) (by omega)); rotate_right 1; (· (repeat (first | exact Picks.nil | (apply Picks.cons; (· (repeat (first | exact Pick.here | apply Pick.there)))) | apply Picks.empty))))
    intro _ _
    refine op_assign rfl rfl ?_
    refine ops_nil ?_
    refine fin_code ?_
    refine run_seq ?_
    refine run_region rfl ?_
    refine op_move rfl rfl ?_
    refine op_move rfl rfl ?_
    ((first | (apply op_call; (· exact rfl)) | apply op_call0); (· exact rfl); rotate_left 1; (· exact fun w hG hw => goa_any w bk ⟨q3, gi3, vd3, vt3, ld3, lt3⟩ (d * 4 + (k + 1)) hokk (by omega) (by omega) (hpw.small (by omega)) hw); rotate_right 1; (· (repeat (first | exact Picks.nil | (apply Picks.cons; (· (repeat (first | exact Pick.here | apply Pick.there)))) | apply Picks.empty))))
    rintro ⟨q4, gi4, vd4, vt4, ld4, lt4⟩ ⟨hq, hgi, hok4⟩
    dsimp only at hq hgi
    subst hq hgi
    have hz1 := goa_lt (s := d * 4 + (k + 1)) hpw (by omega)
    have hz2 := goa_n bk (d * 4 + (k + 1))
    generalize bk.goa (d * 4 + (k + 1)) = z at hok4 hz1 hz2 hpre
    obtain ⟨pid, bk'⟩ := z
    dsimp only [bdH, bdC] at hok4 hz1 hz2 hpre ⊢
    obtain ⟨gt, ct, cur, hv, hl, hdc, _, hds, _, _⟩ := hok4.ot.openN (by omega)
    dsimp only at hv hl
    subst hv hl
    have hszp : k + 1 < ((ps.map v32).toArray).size := by simp; omega
    have hget : aget (((ps.map v32).toArray).setIfInBounds (k + 1) (.int .u32 pid)) (0 + (((k + 1 : Nat) : Int) - 1).toNat * 1) = some (.int .u32 (ps.getD k 0 : Nat)) := by
      rw [show 0 + (((k + 1 : Nat) : Int) - 1).toNat * 1 = k by omega, aget_eq, Array.getElem?_setIfInBounds_ne (by omega), ← aget_eq]
      exact ps_get hpl (by omega)
    have e1 : ((ps.map v32).toArray).setIfInBounds (k + 1) (.int .u32 pid) = ((ps.set (k + 1) pid).map v32).toArray := by simp [List.map_set, v32]
    refine op_assign rfl rfl ?_
    refine ops_nil ?_
    refine fin_code ?_
    refine run_seq ?_
    refine run_region rfl ?_
    refine op_move rfl rfl ?_
    refine op_move rfl rfl ?_
    refine op_move rfl rfl ?_
    refine op_index rfl rfl rfl (by omega) (by first | (rw [Int.toNat_natCast, Nat.mul_one, Nat.zero_add]) | (rw [Int.toNat_natCast, Nat.mul_one]) | (rw [Int.toNat_natCast, Nat.zero_add]) | (rw [Int.toNat_natCast]) | exact rfl) ?_
    (apply op_store; (· exact rfl); (· exact rfl); (· exact rfl); (· (repeat (first | exact Swap.here | apply Swap.there))); (· first | decide | (simp; done) | (simp; omega) | assumption))
    refine ops_nil ?_
    refine fin_code ?_
    refine run_seq ?_
    refine run_region rfl ?_
    refine op_move rfl rfl ?_
    refine op_move rfl rfl ?_
    refine op_sub rfl rfl rfl (by simp only [kLo, kHi]; omega) ?_
    refine op_index rfl rfl rfl (by omega) (by first | (rw [Int.toNat_natCast, Nat.mul_one, Nat.zero_add]) | (rw [Int.toNat_natCast, Nat.mul_one]) | (rw [Int.toNat_natCast, Nat.zero_add]) | (rw [Int.toNat_natCast]) | exact rfl) ?_
    (apply op_load; (· exact rfl); (· exact rfl); (· apply cell_of_has; (· (repeat (first | exact Has.here | apply Has.there))); (· first | exact rfl | exact hget | exact hg0 | exact hg1 | exact hg2 | exact hg3)))
    refine op_assign rfl rfl ?_
    refine ops_nil ?_
    refine fin_code ?_
    refine run_region rfl ?_
    refine op_move rfl rfl ?_
    refine op_nilCheck rfl rfl ?_
    refine op_fieldAddr rfl rfl ?_
    (apply op_load; (· exact rfl); (· exact rfl); (· apply cell_of_has; (· (repeat (first | exact Has.here | apply Has.there))); (· first | exact rfl | exact hget | exact hg0 | exact hg1 | exact hg2 | exact hg3)))
    refine op_move rfl rfl ?_
    refine op_index rfl rfl rfl (by omega) (by first | (rw [Int.toNat_natCast, Nat.mul_one, Nat.zero_add]) | (rw [Int.toNat_natCast, Nat.mul_one]) | (rw [Int.toNat_natCast, Nat.zero_add]) | (rw [Int.toNat_natCast]) | exact rfl) ?_
    refine op_move rfl rfl ?_
    ((first | (apply op_call; (· exact rfl)) | apply op_call0); (· exact rfl); rotate_left 1; (· exact fun w hG hw => fillT_any w gt (pid * 256) (ps.getD k 0) cur (by omega) hw); rotate_right 1; (· (repeat (first | exact Picks.nil | (apply Picks.cons; (· (repeat (first | exact Pick.here | apply Pick.there)))) | apply Picks.empty))))
    intro _ _
    refine ops_nil ?_
    refine fin_block ?_
    refine fin_code ?_
    refine run_region rfl ?_
    refine op_move rfl rfl ?_
    refine op_add rfl rfl rfl (by simp only [kLo, kHi]; omega) ?_
    refine op_assign rfl rfl ?_
    refine ops_nil ?_
    refine fin_round (k + 1, ⟨q4, gi4, vd4, .slice (some ⟨gt, 0, none⟩) bk'.n ct, ld4, [⟨gt, .cells (setR cur (pid * 256) 256 (v32 (ps.getD k 0))) 121 (0, 0)⟩]⟩) ?_ (by (repeat (first | exact Sub.nil _ | (refine Sub.cons rfl ?_)))) ?_ ⟨by dsimp only; omega, rfl, rfl, ?_⟩
    · dsimp only; omega
    · dsimp only
      rw [hpre]
      dsimp only [bdH, bdC, psB]
      rw [← e1]
      (apply le_of_picks; (repeat (first | exact Picks.nil | (apply Picks.cons; (· (repeat (first | exact Pick.here | apply Pick.there)))) | apply Picks.empty)))
    · dsimp only
      rw [hpre]
      exact BdOk.fill (m := ⟨q4, gi4, vd4, .nilIface, ld4, []⟩) hok4 (by omega)
  · obtain rfl : k = 3 := by omega
    generalize b3.pre d did 3 = P at hpn hpw hpi hpl hokk hR
    obtain ⟨ps, b4⟩ := P
    dsimp only at hpn hpw hpi hpl hokk hR ⊢
    obtain ⟨gt, ct, cur, hv, hl, hdc, _, hds, _, _⟩ := hokk.ot.openN (by omega)
    dsimp only at hv hl
    subst hv hl
    have hg0 := ps_get hpl (k := 0) (by omega)
    have hg1 := ps_get hpl (k := 1) (by omega)
    have hg2 := ps_get hpl (k := 2) (by omega)
    have hg3 := ps_get hpl (k := 3) (by omega)
    dsimp only [bdH]
    refine run_seq ?_
    refine run_seq ?_
    refine run_region rfl ?_
    refine op_move rfl rfl ?_
    refine op_cmp_f rfl rfl rfl rfl (by first | (simp only [cmpP]; done) | (simp only [cmpP]; omega)) ?_
    refine ops_nil ?_
    refine fin_code ?_
    refine run_cond_f rfl ?_
    refine run_exit ?_
    refine fin_exit_code ?_
    refine fin_exit_inv ?_
    refine fin_exit_here ?_
    refine fin_code ?_
    refine run_seq ?_
    refine run_drawS [[⟨q3, .cells (bdC b4 ⟨q3, gi3, vd3, .slice (some ⟨gt, 0, none⟩) b4.n ct, ld3, []⟩) 132 (0, 0)⟩], [psB gp ps]] (by kernel_rfl) ?_
    refine dr_stab 0 rfl rfl (Val.s (val_move rfl)) (by decide +kernel) rfl rfl ?_
    refine dr_stab 1 rfl rfl (Val.s (val_nilCheck rfl)) (by decide +kernel) rfl rfl ?_
    refine dr_stab 2 rfl rfl (Val.s (val_fieldAddr rfl)) (by decide +kernel) rfl rfl ?_
    (apply dr_stab 3; (· exact rfl); (· exact rfl); (· apply ValAt.s; (first | (apply val_load; (· exact rfl); (· apply cell_of_has; (· (repeat (first | exact Has.here | apply Has.there))); (· first | exact rfl | exact hget | exact hg0 | exact hg1 | exact hg2 | exact hg3))) | fail)); (· decide +kernel); (· exact rfl); (· exact rfl))
    refine dr_stab 4 rfl rfl (Val.s (val_move rfl)) (by decide +kernel) rfl rfl ?_
    refine dr_stab 5 rfl rfl (Val.s (val_index rfl rfl (by omega) (by first | (rw [Int.toNat_natCast, Nat.mul_one, Nat.zero_add]) | (rw [Int.toNat_natCast, Nat.mul_one]) | (rw [Int.toNat_natCast, Nat.zero_add]) | (rw [Int.toNat_natCast]) | exact rfl))) (by decide +kernel) rfl rfl ?_
    (apply dr_stab 6; (· exact rfl); (· exact rfl); (· apply Val.s; first | exact val_sliceP 0 192 rfl rfl rfl rfl rfl (by omega) | exact val_sliceP 192 224 rfl rfl rfl rfl rfl (by omega) | exact val_sliceP 224 240 rfl rfl rfl rfl rfl (by omega) | exact val_sliceP 240 256 rfl rfl rfl rfl rfl (by omega)); (· decide +kernel); (· exact rfl); (· exact rfl))
    refine dr_stab 7 rfl rfl (Val.s (val_move rfl)) (by decide +kernel) rfl rfl ?_
    refine dr_stab 8 rfl rfl (Val.s (val_index rfl rfl (by omega) (by first | (rw [Int.toNat_natCast, Nat.mul_one, Nat.zero_add]) | (rw [Int.toNat_natCast, Nat.mul_one]) | (rw [Int.toNat_natCast, Nat.zero_add]) | (rw [Int.toNat_natCast]) | exact rfl))) (by decide +kernel) rfl rfl ?_
    (apply dr_stab 9; (· exact rfl); (· exact rfl); (· apply ValAt.s; (first | (apply val_load; (· exact rfl); (· apply cell_of_has; (· (repeat (first | exact Has.here | apply Has.there))); (· first | exact rfl | exact hget | exact hg0 | exact hg1 | exact hg2 | exact hg3))) | fail)); (· decide +kernel); (· exact rfl); (· exact rfl))
    (refine dr_one 10 rfl (by decide +kernel) (by (apply le_of_picks; (repeat (first | exact Picks.nil | (apply Picks.cons; (· (repeat (first | exact Pick.here | apply Pick.there)))) | apply Picks.empty)))) ?_)
    have hs0 : sid * 256 + 192 ≤ cur.size := by omega
    ((first | (apply op_call; (· exact rfl)) | apply op_call0); (· exact rfl); rotate_left 1; (· exact fun w hG hw => fill_any w gt (sid * 256) 192 256 (ps.getD 0 0) cur hs0 (by omega) hw); rotate_right 1; (· (repeat (first | exact Picks.nil | (apply Picks.cons; (· (repeat (first | exact Pick.here | apply Pick.there)))) | apply Picks.empty))))
    intro _ _
    refine ops_nil ?_
    refine fin_draw ?_
    (refine dr_done (by decide +kernel) (by (apply le_of_picks; (repeat (first | exact Picks.nil | (apply Picks.cons; (· (repeat (first | exact Pick.here | apply Pick.there)))) | apply Picks.empty)))) ?_)
    refine fin_code ?_
    refine run_seq ?_
    refine run_drawS [[⟨q3, .cells (bdC b4 ⟨q3, gi3, vd3, .slice (some ⟨gt, 0, none⟩) b4.n ct, ld3, []⟩) 132 (0, 0)⟩], [psB gp ps]] (by kernel_rfl) ?_
    refine dr_stab 0 rfl rfl (Val.s (val_move rfl)) (by decide +kernel) rfl rfl ?_
    refine dr_stab 1 rfl rfl (Val.s (val_nilCheck rfl)) (by decide +kernel) rfl rfl ?_
    refine dr_stab 2 rfl rfl (Val.s (val_fieldAddr rfl)) (by decide +kernel) rfl rfl ?_
    (apply dr_stab 3; (· exact rfl); (· exact rfl); (· apply ValAt.s; (first | (apply val_load; (· exact rfl); (· apply cell_of_has; (· (repeat (first | exact Has.here | apply Has.there))); (· first | exact rfl | exact hget | exact hg0 | exact hg1 | exact hg2 | exact hg3))) | fail)); (· decide +kernel); (· exact rfl); (· exact rfl))
    refine dr_stab 4 rfl rfl (Val.s (val_move rfl)) (by decide +kernel) rfl rfl ?_
    refine dr_stab 5 rfl rfl (Val.s (val_index rfl rfl (by omega) (by first | (rw [Int.toNat_natCast, Nat.mul_one, Nat.zero_add]) | (rw [Int.toNat_natCast, Nat.mul_one]) | (rw [Int.toNat_natCast, Nat.zero_add]) | (rw [Int.toNat_natCast]) | exact rfl))) (by decide +kernel) rfl rfl ?_
    (apply dr_stab 6; (· exact rfl); (· exact rfl); (· apply Val.s; first | exact val_sliceP 0 192 rfl rfl rfl rfl rfl (by omega) | exact val_sliceP 192 224 rfl rfl rfl rfl rfl (by omega) | exact val_sliceP 224 240 rfl rfl rfl rfl rfl (by omega) | exact val_sliceP 240 256 rfl rfl rfl rfl rfl (by omega)); (· decide +kernel); (· exact rfl); (· exact rfl))
    refine dr_stab 7 rfl rfl (Val.s (val_move rfl)) (by decide +kernel) rfl rfl ?_
    refine dr_stab 8 rfl rfl (Val.s (val_index rfl rfl (by omega) (by first | (rw [Int.toNat_natCast, Nat.mul_one, Nat.zero_add]) | (rw [Int.toNat_natCast, Nat.mul_one]) | (rw [Int.toNat_natCast, Nat.zero_add]) | (rw [Int.toNat_natCast]) | exact rfl))) (by decide +kernel) rfl rfl ?_
    (apply dr_stab 9; (· exact rfl); (· exact rfl); (· apply ValAt.s; (first | (apply val_load; (· exact rfl); (· apply cell_of_has; (· (repeat (first | exact Has.here | apply Has.there))); (· first | exact rfl | exact hget | exact hg0 | exact hg1 | exact hg2 | exact hg3))) | fail)); (· decide +kernel); (· exact rfl); (· exact rfl))
    (refine dr_one 10 rfl (by decide +kernel) (by (apply le_of_picks; (repeat (first | exact Picks.nil | (apply Picks.cons; (· (repeat (first | exact Pick.here | apply Pick.there)))) | apply Picks.empty)))) ?_)
    have hs1 : sid * 256 + 192 + 32 ≤ (setR cur (sid * 256) 192 (v32 (ps.getD 0 0))).size := by rw [setR_size hs0]; omega
    ((first | (apply op_call; (· exact rfl)) | apply op_call0); (· exact rfl); rotate_left 1; (· exact fun w hG hw => fill_any w gt (sid * 256 + 192) 32 64 (ps.getD 1 0) (setR cur (sid * 256) 192 (v32 (ps.getD 0 0))) hs1 (by omega) hw); rotate_right 1; (· (repeat (first | exact Picks.nil | (apply Picks.cons; (· (repeat (first | exact Pick.here | apply Pick.there)))) | apply Picks.empty))))
    intro _ _
    refine ops_nil ?_
    refine fin_draw ?_
    (refine dr_done (by decide +kernel) (by (apply le_of_picks; (repeat (first | exact Picks.nil | (apply Picks.cons; (· (repeat (first | exact Pick.here | apply Pick.there)))) | apply Picks.empty)))) ?_)
    refine fin_code ?_
    refine run_seq ?_
    refine run_drawS [[⟨q3, .cells (bdC b4 ⟨q3, gi3, vd3, .slice (some ⟨gt, 0, none⟩) b4.n ct, ld3, []⟩) 132 (0, 0)⟩], [psB gp ps]] (by kernel_rfl) ?_
    refine dr_stab 0 rfl rfl (Val.s (val_move rfl)) (by decide +kernel) rfl rfl ?_
    refine dr_stab 1 rfl rfl (Val.s (val_nilCheck rfl)) (by decide +kernel) rfl rfl ?_
    refine dr_stab 2 rfl rfl (Val.s (val_fieldAddr rfl)) (by decide +kernel) rfl rfl ?_
    (apply dr_stab 3; (· exact rfl); (· exact rfl); (· apply ValAt.s; (first | (apply val_load; (· exact rfl); (· apply cell_of_has; (· (repeat (first | exact Has.here | apply Has.there))); (· first | exact rfl | exact hget | exact hg0 | exact hg1 | exact hg2 | exact hg3))) | fail)); (· decide +kernel); (· exact rfl); (· exact rfl))
    refine dr_stab 4 rfl rfl (Val.s (val_move rfl)) (by decide +kernel) rfl rfl ?_
    refine dr_stab 5 rfl rfl (Val.s (val_index rfl rfl (by omega) (by first | (rw [Int.toNat_natCast, Nat.mul_one, Nat.zero_add]) | (rw [Int.toNat_natCast, Nat.mul_one]) | (rw [Int.toNat_natCast, Nat.zero_add]) | (rw [Int.toNat_natCast]) | exact rfl))) (by decide +kernel) rfl rfl ?_
    (apply dr_stab 6; (· exact rfl); (· exact rfl); (· apply Val.s; first | exact val_sliceP 0 192 rfl rfl rfl rfl rfl (by omega) | exact val_sliceP 192 224 rfl rfl rfl rfl rfl (by omega) | exact val_sliceP 224 240 rfl rfl rfl rfl rfl (by omega) | exact val_sliceP 240 256 rfl rfl rfl rfl rfl (by omega)); (· decide +kernel); (· exact rfl); (· exact rfl))
    refine dr_stab 7 rfl rfl (Val.s (val_move rfl)) (by decide +kernel) rfl rfl ?_
    refine dr_stab 8 rfl rfl (Val.s (val_index rfl rfl (by omega) (by first | (rw [Int.toNat_natCast, Nat.mul_one, Nat.zero_add]) | (rw [Int.toNat_natCast, Nat.mul_one]) | (rw [Int.toNat_natCast, Nat.zero_add]) | (rw [Int.toNat_natCast]) | exact rfl))) (by decide +kernel) rfl rfl ?_
    (apply dr_stab 9; (· exact rfl); (· exact rfl); (· apply ValAt.s; (first | (apply val_load; (· exact rfl); (· apply cell_of_has; (· (repeat (first | exact Has.here | apply Has.there))); (· first | exact rfl | exact hget | exact hg0 | exact hg1 | exact hg2 | exact hg3))) | fail)); (· decide +kernel); (· exact rfl); (· exact rfl))
    (refine dr_one 10 rfl (by decide +kernel) (by (apply le_of_picks; (repeat (first | exact Picks.nil | (apply Picks.cons; (· (repeat (first | exact Pick.here | apply Pick.there)))) | apply Picks.empty)))) ?_)
    have hs2 : sid * 256 + 224 + 16 ≤ (setR (setR cur (sid * 256) 192 (v32 (ps.getD 0 0))) (sid * 256 + 192) 32 (v32 (ps.getD 1 0))).size := by rw [setR_size hs1, setR_size hs0]; omega
    ((first | (apply op_call; (· exact rfl)) | apply op_call0); (· exact rfl); rotate_left 1; (· exact fun w hG hw => fill_any w gt (sid * 256 + 224) 16 32 (ps.getD 2 0) (setR (setR cur (sid * 256) 192 (v32 (ps.getD 0 0))) (sid * 256 + 192) 32 (v32 (ps.getD 1 0))) hs2 (by omega) hw); rotate_right 1; (· (repeat (first | exact Picks.nil | (apply Picks.cons; (· (repeat (first | exact Pick.here | apply Pick.there)))) | apply Picks.empty))))
    intro _ _
    refine ops_nil ?_
    refine fin_draw ?_
    (refine dr_done (by decide +kernel) (by (apply le_of_picks; (repeat (first | exact Picks.nil | (apply Picks.cons; (· (repeat (first | exact Pick.here | apply Pick.there)))) | apply Picks.empty)))) ?_)
    refine fin_code ?_
    refine run_seq ?_
    refine run_drawS [[⟨q3, .cells (bdC b4 ⟨q3, gi3, vd3, .slice (some ⟨gt, 0, none⟩) b4.n ct, ld3, []⟩) 132 (0, 0)⟩], [psB gp ps]] (by kernel_rfl) ?_
    refine dr_stab 0 rfl rfl (Val.s (val_move rfl)) (by decide +kernel) rfl rfl ?_
    refine dr_stab 1 rfl rfl (Val.s (val_nilCheck rfl)) (by decide +kernel) rfl rfl ?_
    refine dr_stab 2 rfl rfl (Val.s (val_fieldAddr rfl)) (by decide +kernel) rfl rfl ?_
    (apply dr_stab 3; (· exact rfl); (· exact rfl); (· apply ValAt.s; (first | (apply val_load; (· exact rfl); (· apply cell_of_has; (· (repeat (first | exact Has.here | apply Has.there))); (· first | exact rfl | exact hget | exact hg0 | exact hg1 | exact hg2 | exact hg3))) | fail)); (· decide +kernel); (· exact rfl); (· exact rfl))
    refine dr_stab 4 rfl rfl (Val.s (val_move rfl)) (by decide +kernel) rfl rfl ?_
    refine dr_stab 5 rfl rfl (Val.s (val_index rfl rfl (by omega) (by first | (rw [Int.toNat_natCast, Nat.mul_one, Nat.zero_add]) | (rw [Int.toNat_natCast, Nat.mul_one]) | (rw [Int.toNat_natCast, Nat.zero_add]) | (rw [Int.toNat_natCast]) | exact rfl))) (by decide +kernel) rfl rfl ?_
    (apply dr_stab 6; (· exact rfl); (· exact rfl); (· apply Val.s; first | exact val_sliceP 0 192 rfl rfl rfl rfl rfl (by omega) | exact val_sliceP 192 224 rfl rfl rfl rfl rfl (by omega) | exact val_sliceP 224 240 rfl rfl rfl rfl rfl (by omega) | exact val_sliceP 240 256 rfl rfl rfl rfl rfl (by omega)); (· decide +kernel); (· exact rfl); (· exact rfl))
    refine dr_stab 7 rfl rfl (Val.s (val_move rfl)) (by decide +kernel) rfl rfl ?_
    refine dr_stab 8 rfl rfl (Val.s (val_index rfl rfl (by omega) (by first | (rw [Int.toNat_natCast, Nat.mul_one, Nat.zero_add]) | (rw [Int.toNat_natCast, Nat.mul_one]) | (rw [Int.toNat_natCast, Nat.zero_add]) | (rw [Int.toNat_natCast]) | exact rfl))) (by decide +kernel) rfl rfl ?_
    (apply dr_stab 9; (· exact rfl); (· exact rfl); (· apply ValAt.s; (first | (apply val_load; (· exact rfl); (· apply cell_of_has; (· (repeat (first | exact Has.here | apply Has.there))); (· first | exact rfl | exact hget | exact hg0 | exact hg1 | exact hg2 | exact hg3))) | fail)); (· decide +kernel); (· exact rfl); (· exact rfl))
    (refine dr_one 10 rfl (by decide +kernel) (by (apply le_of_picks; (repeat (first | exact Picks.nil | (apply Picks.cons; (· (repeat (first | exact Pick.here | apply Pick.there)))) | apply Picks.empty)))) ?_)
    have hs3 : sid * 256 + 240 + 16 ≤ (setR (setR (setR cur (sid * 256) 192 (v32 (ps.getD 0 0))) (sid * 256 + 192) 32 (v32 (ps.getD 1 0))) (sid * 256 + 224) 16 (v32 (ps.getD 2 0))).size := by rw [setR_size hs2, setR_size hs1, setR_size hs0]; omega
    ((first | (apply op_call; (· exact rfl)) | apply op_call0); (· exact rfl); rotate_left 1; (· exact fun w hG hw => fill_any w gt (sid * 256 + 240) 16 16 (ps.getD 3 0) (setR (setR (setR cur (sid * 256) 192 (v32 (ps.getD 0 0))) (sid * 256 + 192) 32 (v32 (ps.getD 1 0))) (sid * 256 + 224) 16 (v32 (ps.getD 2 0))) hs3 (by omega) hw); rotate_right 1; (· (repeat (first | exact Picks.nil | (apply Picks.cons; (· (repeat (first | exact Pick.here | apply Pick.there)))) | apply Picks.empty))))
    intro _ _
    refine ops_nil ?_
    refine fin_draw ?_
    (refine dr_done (by decide +kernel) (by (apply le_of_picks; (repeat (first | exact Picks.nil | (apply Picks.cons; (· (repeat (first | exact Pick.here | apply Pick.there)))) | apply Picks.empty)))) ?_)
    refine fin_code ?_
    refine run_seq ?_
    refine run_region rfl ?_
    refine op_move rfl rfl ?_
    refine op_move rfl rfl ?_
    refine op_move rfl rfl ?_
    refine op_build rfl rfl rfl (by first | (intro v hv; simp at hv; done) | (intro v hv; simp at hv; rcases hv with rfl | rfl | rfl | rfl | rfl | rfl | rfl <;> rfl) | (intro v hv; simp at hv; rcases hv with rfl | rfl | rfl | rfl | rfl | rfl <;> rfl) | (intro v hv; simp at hv; rcases hv with rfl | rfl | rfl | rfl | rfl <;> rfl) | (intro v hv; simp at hv; rcases hv with rfl | rfl | rfl | rfl <;> rfl) | (intro v hv; simp at hv; rcases hv with rfl | rfl | rfl <;> rfl) | (intro v hv; simp at hv; rcases hv with rfl | rfl <;> rfl) | (intro v hv; simp at hv; rcases hv with rfl; rfl)) rfl ?_
    (refine op_box rfl rfl ?_; intro _ _)
    refine op_assign rfl rfl ?_
    refine op_assign rfl rfl ?_
    refine ops_nil ?_
    refine fin_code ?_
    refine run_ret ?_
    rename_i p _
    refine fin_ret2 rfl rfl rfl ?_
    intro w' g
    refine hR _ _ (post_of g (⟨q3, gi3, vd3, .slice (some ⟨gt, 0, none⟩) b4.n ct, ld3, [⟨gt, .cells (setR (setR (setR (setR cur (sid * 256) 192 (v32 (ps.getD 0 0))) (sid * 256 + 192) 32 (v32 (ps.getD 1 0))) (sid * 256 + 224) 16 (v32 (ps.getD 2 0))) (sid * 256 + 240) 16 (v32 (ps.getD 3 0))) 121 (0, 0)⟩]⟩, p, gp) ⟨rfl, rfl, ?_⟩ rfl ?_)
    · refine BdOk.fill (m := ⟨q3, gi3, vd3, .nilIface, ld3, []⟩) (BdOk.fill (m := ⟨q3, gi3, vd3, .nilIface, ld3, []⟩) (BdOk.fill (m := ⟨q3, gi3, vd3, .nilIface, ld3, []⟩) (BdOk.fill (m := ⟨q3, gi3, vd3, .nilIface, ld3, []⟩) hokk ?_) ?_) ?_) ?_ <;> first | omega | (simp only [n_fill]; omega)
    · dsimp only [bdH, bdC, psB, sbB]
      (apply le_of_picks; (repeat (first | exact Picks.nil | (apply Picks.cons; (· (repeat (first | exact Pick.here | apply Pick.there)))) | apply Picks.empty)))
end Go.Proofs.Eng
