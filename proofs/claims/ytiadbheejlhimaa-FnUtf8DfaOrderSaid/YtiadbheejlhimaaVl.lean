/- A part of the proof: what functions of the program do, step by step. -/
import Derived.Test.YtiadbheejlhimaaVk
set_option linter.unusedVariables false
set_option linter.unusedSimpArgs false
namespace Go.Proofs.Eng
theorem encN_inj {r r' : Nat} (h : isL r) (h' : isL r') (e : encN r = encN r') : r = r' := by
  have h1 := h.1
  have h2 := h'.1
  unfold encN at e
  split at e <;> split at e <;> (try split at e) <;> (try split at e) <;> (try split at e) <;> (try split at e) <;> simp at e <;> omega
/-- A letter is added. -/
theorem Sm.addT {ps : List Nat} {s m il mx sid r to : Nat} {b : Bd} {L : List Role} {st : Nat → Inf} (h : Sm b L st m il mx) (hs : s < m) (hpl : ps.length = 4) (hr : isL r) (hf : L[sid]? = some (.orig s)) (hps : ∀ k, k ≤ 3 → L[ps.getD k 0]? = some (dr (st s).d k))
    (hto : to * 4 < il) (hn : b.n + 10 < MAX32) :
    ∃ L' P', L <+: L' ∧ Sm (b.addT ps sid (encN r) to) L' (upd st s ⟨(st s).d, (st s).e, P', (encN r, to) :: (st s).F⟩) m il mx := by
  obtain ⟨c, cs, henc, hcl, hc, hcs⟩ := lead_enc hr
  have h4 := encN_len4 r
  have h256 := encN_256 hr
  rw [henc] at h4 h256
  simp only [List.length_cons] at h4
  unfold Bd.addT
  rw [henc]
  have htake : (c :: cs).take ((c :: cs).length - 1) ++ [(c :: cs).getD ((c :: cs).length - 1) 0] = c :: cs := by
    rw [List.getD_eq_getElem?_getD, List.getElem?_eq_getElem (by simp), Option.getD_some, ← List.take_succ_eq_append_getElem (by simp)]
    apply List.take_of_length_le
    simp
  have hxs : ∀ x ∈ (c :: cs).take ((c :: cs).length - 1), x < 256 := fun x hx => h256 x (List.mem_of_mem_take hx)
  have hlast : (c :: cs).getD ((c :: cs).length - 1) 0 < 256 := by
    rw [List.getD_eq_getElem?_getD, List.getElem?_eq_getElem (by simp)]
    exact h256 _ (List.getElem_mem _)
  have hlen : ((c :: cs).take ((c :: cs).length - 1)).length = cs.length := by simp
  have hhd : (c :: cs).take ((c :: cs).length - 1) ≠ [] → ((c :: cs).take ((c :: cs).length - 1)).headD 0 = c := by
    cases cs with
    | nil => simp
    | cons a cs => simp
  generalize (c :: cs).take ((c :: cs).length - 1) = xs at *
  generalize (c :: cs).getD ((c :: cs).length - 1) 0 = x at *
  obtain ⟨L1, P1, a1, a2, a3, a4, a5⟩ := Sm.mid ps s m il mx hs hpl xs [] sid b L st h hxs (by rw [way_nil]; exact hf) (.inl rfl) hps (fun hne => by rw [List.nil_append, hhd hne, ← hcl, hlen]; simp) (by omega)
  rw [List.nil_append] at a3 a4
  generalize Bd.mid ps xs sid b = y at *
  obtain ⟨f, b1⟩ := y
  dsimp only at a2 a3 a5 ⊢
  obtain ⟨L2, g1, g2, g3, g4⟩ := a2.s.goa (i := to * 4) a2.i.fl (by omega) (by rw [a2.i.il]; exact hto) (fun hd => by
    rw [iRole4] at hd
    have hmem := a2.s.pr to hd
    obtain ⟨q, hq, e⟩ := List.getElem_of_mem hmem
    have h1 := a2.s.xi q (to * 4) (by rw [a2.i.il]; exact hto) (by rw [List.getElem?_eq_getElem hq, e, iRole4])
    have h2 := a2.s.ln
    omega)
  rw [iRole4] at g3
  have hrem : rem (c :: cs) = 0 := by unfold rem; simp; omega
  refine ⟨L2, P1, a1.trans g1, ?_⟩
  have hi2 := goa_i (s := to * 4) a2.i
  have hi3 : BdI ((b1.goa (to * 4)).2.set f x (b1.goa (to * 4)).1) il mx := set_i hi2 (g2.lt g3)
  have hm1 : ∀ s' p, Role.mid s' p ∈ L2 → s' < m ∧ p ∈ (upd st s ⟨(st s).d, (st s).e, P1, (st s).F⟩ s').P := fun s' p hp => a2.md s' p (g4 s' p hp)
  have hok := a2.ok s hs
  rw [upd_at] at hok
  refine ⟨?_, hi3, fun s' p hp => ?_, fun s' hs' => ?_⟩
  · refine g2.set hi2.fl hlast (pre_get g1 a3) ?_ (fun s' _ => ?_) (fun r' y hr' _ _ hne => ?_)
    · rw [way_delta, htake]
      unfold tgt
      rw [hrem, if_pos rfl, g3, upd_at]
      unfold Inf.find
      simp
    · by_cases e : s' = s
      · subst e; rw [upd_at, upd_at]
      · rw [upd_ne _ _ e, upd_ne _ _ e]
    · refine delta_ne (s := s) (p := xs) (x := x) (fun s' q' hq' => ?_) (fun s' e => ?_) hne
      · by_cases e : s' = s
        · subst e
          have hq2 : ¬ c :: cs = q' := fun e => hq' ⟨rfl, by rw [htake, e]⟩
          unfold tgt Inf.find
          rw [upd_at, upd_at]
          simp [List.find?_cons, hq2]
        · unfold tgt
          rw [upd_ne _ _ e, upd_ne _ _ e]
      · subst e
        have h1 := hm1 _ _ hr'
        exact (a2.ok _ h1.1).ne h1.2
  · have h1 := hm1 s' p hp
    refine ⟨h1.1, ?_⟩
    by_cases e : s' = s
    · subst e; rw [upd_at] at h1 ⊢; exact h1.2
    · rw [upd_ne _ _ e] at h1 ⊢; exact h1.2
  · by_cases e : s' = s
    · subst e
      rw [upd_at]
      refine ⟨hok.ne, hok.pc, fun p y t hp hne => ?_⟩
      rcases List.mem_cons.1 hp with e | e
      · have e1 : p ++ [y] = c :: cs := congrArg Prod.fst e
        rw [← htake] at e1
        have := (snoc_inj e1).1
        subst this
        exact a4.resolve_left hne
      · exact hok.fp p y t e hne
    · have := a2.ok s' hs'
      rw [upd_ne _ _ e] at this ⊢
      exact this
/-- The letters that were added, the last one first. -/
def arcF (az : List LArc) : List (List Nat × Nat) := az.map (fun a => (encN a.r.toNat, a.to.toNat + 1))
theorem Sm.addArcs {ps : List Nat} {s m il mx sid : Nat} (hs : s < m) (hpl : ps.length = 4) : ∀ (az : List LArc) (b : Bd) (L : List Role) (st : Nat → Inf), Sm b L st m il mx → L[sid]? = some (.orig s) → (∀ k, k ≤ 3 → L[ps.getD k 0]? = some (dr (st s).d k)) →
    (∀ a ∈ az, isL a.r.toNat ∧ (a.to.toNat + 1) * 4 < il) → b.n + az.length * 5 + 10 < MAX32 → (∀ x ∈ ps, x < b.n) → sid < b.n →
    ∃ L' P', L <+: L' ∧ Sm (Bd.addArcs ps sid az b) L' (upd st s ⟨(st s).d, (st s).e, P', (arcF az).reverse ++ (st s).F⟩) m il mx ∧ (Bd.addArcs ps sid az b).n ≤ b.n + az.length * 5
  | [], b, L, st, h, hf, hps, ha, hn, _, _ => by
    refine ⟨L, (st s).P, List.prefix_refl _, ?_, Nat.le_refl _⟩
    have e : upd st s ⟨(st s).d, (st s).e, (st s).P, (arcF []).reverse ++ (st s).F⟩ = st := by
      funext k
      unfold upd
      split
      · rename_i h; subst h; rfl
      · rfl
    rw [e]
    exact h
  | a :: az, b, L, st, h, hf, hps, ha, hn, hpb, hsb => by
    have ha0 := ha a (.head _)
    simp only [List.length_cons] at hn
    obtain ⟨L1, P1, a1, a2⟩ := h.addT hs hpl ha0.1 hf hps ha0.2 (by omega)
    have hb := addT_i (ps := ps) (sid := sid) (to := a.to.toNat + 1) (bs := encN a.r.toNat) (b := b) (encN_256 ha0.1) h.i hsb hpb (by have := ha0.2; omega)
    have h4 := encN_len4 a.r.toNat
    obtain ⟨L', P', b1, b2, b3⟩ := Sm.addArcs hs hpl az _ L1 _ a2 (pre_get a1 hf) (fun k hk => by rw [upd_at]; exact pre_get a1 (hps k hk)) (fun x hx => ha x (.tail _ hx)) (by omega) (fun x hx => by have := hpb x hx; omega) (by omega)
    rw [upd_upd, upd_at] at b2
    refine ⟨L', P', a1.trans b1, ?_, ?_⟩
    · have e : (arcF (a :: az)).reverse ++ (st s).F = (arcF az).reverse ++ (encN a.r.toNat, a.to.toNat + 1) :: (st s).F := by simp [arcF]
      rw [e]
      exact b2
    · show (Bd.addArcs ps sid az _).n ≤ _
      rw [List.length_cons]
      omega
theorem Sem.pre {st : Nat → Inf} {m il mx d did : Nat} {b : Bd} {L : List Role} (h : Sem b L st m) (hi : BdI b il mx) (hd : d * 4 + 3 < il) (hdid : L[did]? = some (.orig d)) (hn : b.n + 10 < MAX32) : ∀ k, k ≤ 3 →
    ∃ L', L <+: L' ∧ Sem (b.pre d did k).2 L' st m ∧ (∀ j, j ≤ k → L'[(b.pre d did k).1.getD j 0]? = some (dr d j)) ∧ ∀ s p, .mid s p ∈ L' → .mid s p ∈ L
  | 0, _ => ⟨L, List.prefix_refl _, h, fun j hj => by
      have : j = 0 := by omega
      subst this
      exact hdid, fun _ _ h => h⟩
  | k + 1, hk => by
    obtain ⟨L1, a1, a2, a3, a4⟩ := Sem.pre h hi hd hdid hn k (by omega)
    have h1 := pre_i hi hd (h.lt hdid) k (by omega)
    have h2 := pre_n b d did k
    have h3 := pre_len b d did k
    simp only [Bd.pre]
    generalize b.pre d did k = y at *
    obtain ⟨ps, b1⟩ := y
    dsimp only at a2 a3 h1 h2 h3 ⊢
    obtain ⟨L2, g1, g2, g3, g4⟩ := a2.goaP h1.1.fl (by omega) hk (by rw [h1.1.il]; omega) (a3 k (Nat.le_refl _))
    refine ⟨L2, a1.trans g1, g2, fun j hj => ?_, fun s p hp => a4 s p (g4 s p hp)⟩
    rw [List.getD_eq_getElem?_getD, List.getElem?_set]
    by_cases e : k + 1 = j
    · subst e
      rw [if_pos rfl, if_pos (by omega)]
      exact g3
    · rw [if_neg e, ← List.getD_eq_getElem?_getD]
      exact pre_get g1 (a3 j (by omega))
/-- A state is added. -/
theorem Sm.addS {b : Bd} {L : List Role} {st : Nat → Inf} {m il mx d : Nat} {e : Bool × Nat} (h : Sm b L st m il mx) (hs : m * 4 < il) (hd : d * 4 + 3 < il) (hn : b.n + 20 < MAX32) :
    ∃ L', L <+: L' ∧ Sm (b.addS m d e).2.2 L' (upd st m ⟨d, e, [], []⟩) (m + 1) il mx ∧ L'[(b.addS m d e).1]? = some (.orig m) ∧ ∀ k, k ≤ 3 → L'[(b.addS m d e).2.1.getD k 0]? = some (dr d k) := by
  have hI := addS_i (e := e) h.i hs hd
  unfold Bd.addS at hI ⊢
  obtain ⟨L1, a1, a2, a3, a4⟩ := h.s.goa (i := m * 4) h.i.fl (by omega) (by rw [h.i.il]; exact hs) (fun hd => by rw [iRole4] at hd; exact absurd hd (Nat.lt_irrefl m))
  rw [iRole4] at a3
  have h1 := goa_i (s := m * 4) h.i
  have h3 := goa_n b (m * 4)
  generalize b.goa (m * 4) = x at *
  obtain ⟨sid, b1⟩ := x
  dsimp only at a2 a3 h1 h3 hI ⊢
  have h4 : BdI (b1.setD sid e) il mx := ⟨h1.wf, h1.wt, h1.fl, h1.il, h1.mx⟩
  have h5 : Sem (b1.setD sid e) L1 st m := by
    refine a2.re rfl rfl (by simp [Bd.setD]) a2.tr (fun f s e1 e2 => ?_) a2.pr
    have : f ≠ sid := fun e3 => by
      subst e3
      rw [a3] at e1
      simp only [Option.some.injEq, Role.orig.injEq] at e1
      omega
    rw [← a2.ds f s e1 e2]
    unfold Bd.di Bd.setD
    rw [List.getD_eq_getElem?_getD, List.getElem?_set_ne (fun e => this e.symm), ← List.getD_eq_getElem?_getD]
  have h6 : (b1.setD sid e).di sid = e := by
    have h7 := a2.lt a3
    have h8 := a2.dl
    unfold Bd.di Bd.setD
    rw [List.getD_eq_getElem?_getD, List.getElem?_set, if_pos rfl, if_pos (by omega)]
    rfl
  have h4n : (b1.setD sid e).n = b1.n := rfl
  generalize b1.setD sid e = b2 at *
  obtain ⟨L2, c1, c2, c3, c4⟩ := h5.goa (i := d * 4) h4.fl (by omega) (by rw [h4.il]; omega) (fun hd2 => by
    rw [iRole4] at hd2
    obtain ⟨q, hq, e3⟩ := List.getElem_of_mem (h5.pr d hd2)
    have h1 := h5.xi q (d * 4) (by rw [h4.il]; omega) (by rw [List.getElem?_eq_getElem hq, e3, iRole4])
    have h2 := h5.ln
    omega)
  rw [iRole4] at c3
  have h7 := goa_n b2 (d * 4)
  have h8 := goa_i (s := d * 4) h4
  have h9 : (b2.goa (d * 4)).2.di sid = e := by
    unfold Bd.goa
    split
    · show b2.alloc.di sid = e
      rw [alloc_di h5.dl (h5.lt a3)]
      exact h6
    · exact h6
  generalize b2.goa (d * 4) = y at *
  obtain ⟨did, b3⟩ := y
  dsimp only at c2 c3 h7 h8 h9 hI ⊢
  obtain ⟨L3, d1, d2, d3, d4⟩ := c2.pre h8 hd c3 (by omega) 3 (Nat.le_refl _)
  have hpn := pre_n b3 d did 3
  have hpi := (pre_i h8 hd (c2.lt c3) 3 (Nat.le_refl _)).1
  have hpd : (b3.pre d did 3).2.di sid = e := by
    have hb3 : sid < b3.n := c2.lt (pre_get c1 a3)
    have hdl := c2.dl
    clear d2 d3 hpn hpi hI
    have key : ∀ (b : Bd) (i v : Nat), b.dist.length = b.n → sid < b.n → b.di sid = e → ((b.goa i).2.fill ((b.goa i).1 * 256) 256 v).di sid = e ∧ ((b.goa i).2.fill ((b.goa i).1 * 256) 256 v).dist.length = ((b.goa i).2.fill ((b.goa i).1 * 256) 256 v).n ∧ sid < ((b.goa i).2.fill ((b.goa i).1 * 256) 256 v).n := by
      intro b i v h1 h2 h3
      show (b.goa i).2.di sid = e ∧ (b.goa i).2.dist.length = (b.goa i).2.n ∧ sid < (b.goa i).2.n
      unfold Bd.goa
      split
      · exact ⟨by show b.alloc.di sid = e; rw [alloc_di h1 h2]; exact h3, alloc_dl h1, by show sid < b.n + 1; omega⟩
      · exact ⟨h3, h1, h2⟩
    have k1 := key b3 (d * 4 + 1) (([did, did, did, did] : List Nat).getD 0 0) hdl hb3 h9
    have k2 := key (b3.pre d did 1).2 (d * 4 + 2) ((b3.pre d did 1).1.getD 1 0) k1.2.1 k1.2.2 k1.1
    have k3 := key (b3.pre d did 2).2 (d * 4 + 3) ((b3.pre d did 2).1.getD 2 0) k2.2.1 k2.2.2 k2.1
    exact k3.1
  generalize b3.pre d did 3 = z at *
  obtain ⟨ps, b4⟩ := z
  dsimp only at d2 d3 hpn hpi hpd hI ⊢
  have hpre : L <+: L3 := ((a1.trans c1).trans d1)
  have hsid : L3[sid]? = some (.orig m) := pre_get (c1.trans d1) a3
  have hlt := d2.lt hsid
  have hnd : ¬ dn m (Role.orig m) := Nat.lt_irrefl m
  have hmids : ∀ s p, Role.mid s p ∈ L3 → s < m ∧ p ∈ (st s).P := fun s p hp => h.md s p (a4 s p (c4 s p (d4 s p hp)))
  have e1 := d2.fillU (a := 0) (k := 192) (v := ps.getD 0 0) hpi.fl hsid hnd (by omega)
  rw [Nat.add_zero] at e1
  have i1 := fill_i (o := sid * 256) (k := 192) (v := ps.getD 0 0) hpi (by omega) (d2.lt (d3 0 (by omega)))
  have e2 := e1.fillU (a := 192) (k := 32) (v := ps.getD 1 0) i1.fl hsid hnd (by omega)
  have i2 := fill_i (o := sid * 256 + 192) (k := 32) (v := ps.getD 1 0) i1 (by show _ ≤ b4.n * 256; omega) (d2.lt (d3 1 (by omega)))
  have e3 := e2.fillU (a := 224) (k := 16) (v := ps.getD 2 0) i2.fl hsid hnd (by omega)
  have i3 := fill_i (o := sid * 256 + 224) (k := 16) (v := ps.getD 2 0) i2 (by show _ ≤ b4.n * 256; omega) (d2.lt (d3 2 (by omega)))
  have e4 := e3.fillU (a := 240) (k := 16) (v := ps.getD 3 0) i3.fl hsid hnd (by omega)
  have htr : ∀ x, x < 256 → ((((b4.fill (sid * 256) 192 (ps.getD 0 0)).fill (sid * 256 + 192) 32 (ps.getD 1 0)).fill (sid * 256 + 224) 16 (ps.getD 2 0)).fill (sid * 256 + 240) 16 (ps.getD 3 0)).tr sid x = ps.getD (lead x) 0 := by
    intro x hx
    rw [tr_fill (by rw [i3.fl]; show _ ≤ b4.n * 256; omega), tr_fill (by rw [i2.fl]; show _ ≤ b4.n * 256; omega), tr_fill (by rw [i1.fl]; show _ ≤ b4.n * 256; omega), tr_fill (by rw [hpi.fl]; omega)]
    by_cases x1 : x < 192
    · rw [lead0 x1, if_neg (by omega), if_neg (by omega), if_neg (by omega), if_pos (by omega)]
    by_cases x2 : x < 224
    · rw [lead1 (by omega) x2, if_neg (by omega), if_neg (by omega), if_pos (by omega)]
    by_cases x3 : x < 240
    · rw [lead2 (by omega) x3, if_neg (by omega), if_pos (by omega)]
    · rw [lead3 (by omega), if_pos (by omega)]
  have hlead : ∀ x, lead x ≤ 3 := fun x => by
    unfold lead
    split
    · omega
    · split
      · omega
      · split <;> omega
  refine ⟨L3, hpre, ⟨?_, hI.1, fun s p hp => ?_, fun s hs' => ?_⟩, hsid, d3⟩
  · refine e4.re rfl rfl rfl (fun f r x r1 r2 r3 => ?_) (fun f s r1 r2 => ?_) (fun s r1 => ?_)
    · by_cases hr : r = .orig m
      · subst hr
        have := e4.lab hsid r1
        subst this
        rw [htr x r3, d3 _ (hlead x)]
        show _ = some (tgt _ m [x])
        unfold tgt
        rw [rem_cons, upd_at]
        unfold dr
        split
        · rfl
        · rw [if_neg (by simp)]
      · have hold : delta (upd st m ⟨d, e, [], []⟩) r x = delta st r x := by
          cases r with
          | pred _ _ => rfl
          | orig s =>
            have hsm : s ≠ m := fun e => hr (e ▸ rfl)
            show tgt _ s [x] = tgt _ s [x]
            unfold tgt
            rw [upd_ne _ _ hsm]
          | mid s p =>
            have := (hmids s p (List.mem_of_getElem? r1)).1
            have hsm : s ≠ m := by omega
            show tgt _ s _ = tgt _ s _
            unfold tgt
            rw [upd_ne _ _ hsm]
        rw [hold]
        refine e4.tr f r x r1 ?_ r3
        cases r with
        | pred _ _ => exact trivial
        | orig s =>
          have hsm : s ≠ m := fun e => hr (e ▸ rfl)
          have : s < m + 1 := r2
          show s < m
          omega
        | mid s p => exact (hmids s p (List.mem_of_getElem? r1)).1
    · by_cases hsm : s = m
      · subst hsm
        have := e4.lab hsid r1
        subst this
        rw [upd_at]
        exact hpd
      · rw [upd_ne _ _ hsm]
        exact e4.ds f s r1 (by omega)
    · by_cases hsm : s = m
      · subst hsm
        exact List.mem_of_getElem? hsid
      · exact e4.pr s (by omega)
  · have := hmids s p hp
    refine ⟨by omega, ?_⟩
    rw [upd_ne _ _ (by omega)]
    exact this.2
  · by_cases hsm : s = m
    · subst hsm
      rw [upd_at]
      exact ⟨by simp, by simp, by simp⟩
    · rw [upd_ne _ _ hsm]
      exact h.ok s (by omega)
end Go.Proofs.Eng
