/- A part of the proof: what functions of the program do, step by step. -/
import Derived.Test.YtiadbheejlhimaaVc
set_option linter.unusedVariables false
set_option linter.unusedSimpArgs false
namespace Go.Proofs.Eng
open Go.RowKit
/-- What always holds of the builder. -/
structure BdI (b : Bd) (il mx : Nat) : Prop where
  wf : Wf b
  wt : Wt b
  fl : b.fl.length = b.n * 256
  il : b.idx.length = il
  mx : b.max = mx
theorem goa_i {b : Bd} {il mx s : Nat} (h : BdI b il mx) : BdI (b.goa s).2 il mx := by
  refine ⟨goa_wf h.wf, ?_, ?_, by rw [goa_idx]; exact h.il, by rw [goa_max]; exact h.mx⟩
  · unfold Bd.goa
    split
    · exact Wt.alloc h.wt
    · exact h.wt
  · unfold Bd.goa
    split
    · show (b.fl ++ List.replicate 256 0).length = (b.n + 1) * 256
      rw [List.length_append, List.length_replicate, h.fl]; omega
    · exact h.fl
theorem fill_i {b : Bd} {il mx o k v : Nat} (h : BdI b il mx) (ho : o + k ≤ b.n * 256) (hv : v < b.n) : BdI (b.fill o k v) il mx :=
  ⟨wf_fill h.wf, h.wt.fill hv, by show (fillR b.fl o k v).length = _; rw [fillR_len (by rw [h.fl]; exact ho)]; exact h.fl, h.il, h.mx⟩
theorem set_i {b : Bd} {il mx f c v : Nat} (h : BdI b il mx) (hv : v < b.n) : BdI (b.set f c v) il mx :=
  ⟨h.wf, h.wt.set hv, by show (b.fl.set (f * 256 + c) v).length = _; rw [List.length_set]; exact h.fl, h.il, h.mx⟩
theorem alloc_i {b : Bd} {il mx : Nat} (h : BdI b il mx) : BdI b.alloc il mx :=
  ⟨h.wf.alloc, h.wt.alloc, by show (b.fl ++ List.replicate 256 0).length = (b.n + 1) * 256; rw [List.length_append, List.length_replicate, h.fl]; omega, h.il, h.mx⟩
theorem getD_lt {ps : List Nat} {k n : Nat} (h : ∀ x ∈ ps, x < n) (hn : 0 < n) : ps.getD k 0 < n := by
  rw [List.getD_eq_getElem?_getD]
  rcases Nat.lt_or_ge k ps.length with hk | hk
  · rw [List.getElem?_eq_getElem hk]; exact h _ (List.getElem_mem hk)
  · rw [List.getElem?_eq_none hk]; exact hn
theorem mid_i (ps : List Nat) {il mx : Nat} : ∀ (xs : List Nat) (f : Nat) (b : Bd), (∀ x ∈ xs, x < 256) → BdI b il mx → f < b.n → (∀ x ∈ ps, x < b.n) → BdI (Bd.mid ps xs f b).2 il mx ∧ (Bd.mid ps xs f b).1 < (Bd.mid ps xs f b).2.n
  | [], f, b, _, h, hf, _ => ⟨h, hf⟩
  | x :: xs, f, b, hx, h, hf, hp => by
    have hx0 := hx x (.head _)
    simp only [Bd.mid]
    split
    · refine mid_i ps xs b.n _ (fun y hy => hx y (.tail _ hy)) (set_i (fill_i (alloc_i h) ?_ ?_) ?_) ?_ (fun y hy => ?_)
      · show b.n * 256 + 256 ≤ (b.n + 1) * 256; omega
      · exact Nat.lt_succ_of_lt (getD_lt hp (by omega))
      · show b.n < b.n + 1; omega
      · show b.n < b.n + 1; omega
      · exact Nat.lt_succ_of_lt (hp y hy)
    · have ht : b.tr f x < b.n := h.wt.tr (by rw [h.fl]; omega)
      exact mid_i ps xs _ _ (fun y hy => hx y (.tail _ hy)) (set_i h ht) ht hp
theorem addT_i {ps : List Nat} {il mx sid to : Nat} {bs : List Nat} {b : Bd} (hb : ∀ x ∈ bs, x < 256) (h : BdI b il mx) (hs : sid < b.n) (hp : ∀ x ∈ ps, x < b.n) (hto : to * 4 < il) :
    BdI (b.addT ps sid bs to) il mx ∧ b.n ≤ (b.addT ps sid bs to).n ∧ (b.addT ps sid bs to).n ≤ b.n + bs.length + 1 := by
  unfold Bd.addT
  obtain ⟨h1, h2⟩ := mid_i ps (bs.take (bs.length - 1)) sid b (fun x hx => hb x (List.mem_of_mem_take hx)) h hs hp
  have h3 := mid_n ps (bs.take (bs.length - 1)) sid b
  have h4 := goa_n (Bd.mid ps (bs.take (bs.length - 1)) sid b).2 (to * 4)
  have h5 := goa_lt (s := to * 4) h1.wf (by rw [h1.il]; exact hto)
  refine ⟨set_i (goa_i h1) h5, ?_, ?_⟩
  · show b.n ≤ ((Bd.mid ps (bs.take (bs.length - 1)) sid b).2.goa (to * 4)).2.n
    omega
  · show ((Bd.mid ps (bs.take (bs.length - 1)) sid b).2.goa (to * 4)).2.n ≤ _
    have : (bs.take (bs.length - 1)).length ≤ bs.length := by rw [List.length_take]; omega
    omega
theorem pre_i {b : Bd} {il mx d did : Nat} (h : BdI b il mx) (hd : d * 4 + 3 < il) (hdid : did < b.n) : ∀ k, k ≤ 3 → BdI (b.pre d did k).2 il mx ∧ ∀ x ∈ (b.pre d did k).1, x < (b.pre d did k).2.n
  | 0, _ => ⟨h, fun x hx => by simp [Bd.pre] at hx; subst hx; exact hdid⟩
  | k + 1, hk => by
    obtain ⟨h1, h2⟩ := pre_i h hd hdid k (by omega)
    have h3 := goa_lt (s := d * 4 + (k + 1)) h1.wf (by rw [h1.il]; omega)
    have h4 := goa_n (b.pre d did k).2 (d * 4 + (k + 1))
    have h5 : ∀ x ∈ (b.pre d did k).1, x < ((b.pre d did k).2.goa (d * 4 + (k + 1))).2.n := fun x hx => by have := h2 x hx; omega
    simp only [Bd.pre]
    refine ⟨fill_i (goa_i h1) ?_ (getD_lt h5 (by omega)), fun x hx => ?_⟩
    · have : (((b.pre d did k).2.goa (d * 4 + (k + 1))).1 + 1) * 256 ≤ ((b.pre d did k).2.goa (d * 4 + (k + 1))).2.n * 256 := Nat.mul_le_mul_right _ h3
      omega
    · rcases List.mem_or_eq_of_mem_set hx with hx | hx
      · exact h5 x hx
      · rw [hx]; exact h3
theorem addS_i {b : Bd} {il mx s d : Nat} {e : Bool × Nat} (h : BdI b il mx) (hs : s * 4 < il) (hd : d * 4 + 3 < il) :
    BdI (b.addS s d e).2.2 il mx ∧ b.n ≤ (b.addS s d e).2.2.n ∧ (b.addS s d e).2.2.n ≤ b.n + 5 ∧ (b.addS s d e).1 < (b.addS s d e).2.2.n ∧ (∀ x ∈ (b.addS s d e).2.1, x < (b.addS s d e).2.2.n) ∧ (b.addS s d e).2.1.length = 4 := by
  unfold Bd.addS
  have h1 := goa_i (s := s * 4) h
  have h2 := goa_lt (s := s * 4) h.wf (by rw [h.il]; exact hs)
  have h3 := goa_n b (s * 4)
  generalize b.goa (s * 4) = x at *
  obtain ⟨sid, b1⟩ := x
  dsimp only at h1 h2 h3 ⊢
  have h4 : BdI (b1.setD sid e) il mx := ⟨h1.wf, h1.wt, h1.fl, h1.il, h1.mx⟩
  have h4n : (b1.setD sid e).n = b1.n := rfl
  generalize b1.setD sid e = b2 at *
  have h5 := goa_i (s := d * 4) h4
  have h6 := goa_lt (s := d * 4) h4.wf (by rw [h4.il]; omega)
  have h7 := goa_n b2 (d * 4)
  generalize b2.goa (d * 4) = y at *
  obtain ⟨did, b3⟩ := y
  dsimp only at h5 h6 h7 ⊢
  obtain ⟨h8, h9⟩ := pre_i h5 hd h6 3 (Nat.le_refl _)
  have h10 := pre_n b3 d did 3
  have h11 := pre_len b3 d did 3
  generalize b3.pre d did 3 = z at *
  obtain ⟨ps, b4⟩ := z
  dsimp only at h8 h9 h10 h11 ⊢
  have hm : (sid + 1) * 256 ≤ b4.n * 256 := Nat.mul_le_mul_right _ (by omega)
  have hg : ∀ k, ps.getD k 0 < b4.n := fun k => getD_lt h9 (by omega)
  refine ⟨fill_i (fill_i (fill_i (fill_i h8 (by omega) (hg 0)) ?_ (hg 1)) ?_ (hg 2)) ?_ (hg 3), ?_, ?_, ?_, h9, h11⟩
  · show sid * 256 + 192 + 32 ≤ b4.n * 256; omega
  · show sid * 256 + 224 + 16 ≤ b4.n * 256; omega
  · show sid * 256 + 240 + 16 ≤ b4.n * 256; omega
  · show b.n ≤ b4.n; omega
  · show b4.n ≤ b.n + 5; omega
  · show sid < b4.n; omega
theorem new_i (mx : Nat) : BdI (Bd.new mx) (mx * 2 + 100) mx :=
  ⟨fun x hx => .inl (by simp [Bd.new] at hx; exact hx), fun x hx => by simp [Bd.new] at hx, by simp [Bd.new], by simp [Bd.new], rfl⟩
end Go.Proofs.Eng
