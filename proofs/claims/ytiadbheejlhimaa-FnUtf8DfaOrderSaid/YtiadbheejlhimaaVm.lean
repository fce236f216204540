/- A part of the proof: what functions of the program do, step by step. -/
import Derived.Test.YtiadbheejlhimaaVl
set_option linter.unusedVariables false
set_option linter.unusedSimpArgs false
namespace Go.Proofs.Eng
theorem find_mem {s : Inf} {q : List Nat} {t : Nat} (h : (q, t) ∈ s.F) (hu : ∀ t', (q, t') ∈ s.F → t' = t) : s.find q = t := by
  unfold Inf.find
  cases hf : s.F.find? (fun x => x.1 == q) with
  | none =>
    have := List.find?_eq_none.1 hf _ h
    simp at this
  | some x =>
    have h1 := List.mem_of_find?_eq_some hf
    have h2 := List.find?_some hf
    obtain ⟨x1, x2⟩ := x
    have h3 : x1 = q := by simpa using h2
    subst h3
    exact hu _ h1
theorem find_none {s : Inf} {q : List Nat} (h : ∀ t, (q, t) ∉ s.F) : s.find q = s.d := by
  unfold Inf.find
  cases hf : s.F.find? (fun x => x.1 == q) with
  | none => rfl
  | some x =>
    have h1 := List.mem_of_find?_eq_some hf
    have h2 := List.find?_some hf
    obtain ⟨x1, x2⟩ := x
    have h3 : x1 = q := by simpa using h2
    subst h3
    exact absurd h1 (h _)
/-- Behind the bytes of a letter is the state to which it leads. -/
theorem Sm.step {b : Bd} {L : List Role} {st : Nat → Inf} {m il mx s r f : Nat} (h : Sm b L st m il mx) (hs : s < m) (hr : isL r) (hf : L[f]? = some (.orig s)) : L[b.run f (encN r)]? = some (.orig ((st s).find (encN r))) := by
  obtain ⟨c, cs, henc, hcl, hc, hcs⟩ := lead_enc hr
  have h256 := encN_256 hr
  have hok := h.ok s hs
  rw [henc] at h256 ⊢
  have key : ∀ (xs p : List Nat) (g : Nat), p ≠ [] → p ++ xs = c :: cs → L[g]? = some (tgt st s p) → L[b.run g xs]? = some (.orig ((st s).find (c :: cs))) := by
    intro xs
    induction xs with
    | nil =>
      intro p g hp e hg
      rw [List.append_nil] at e
      subst e
      show L[g]? = _
      rw [hg]
      unfold tgt
      rw [if_pos (by unfold rem; simp; omega)]
    | cons x xs ih =>
      intro p g hp e hg
      have hx : x < 256 := h256 x (by rw [← e]; simp)
      refine ih (p ++ [x]) (b.tr g x) (by simp) (by rw [← e]; simp) ?_
      have hhead : p.headD 0 = c := by
        cases p with
        | nil => exact absurd rfl hp
        | cons a p => simp at e; exact e.1
      have hlen : p.length + (xs.length + 1) = cs.length + 1 := by
        have := congrArg List.length e
        simpa using this
      have hrem : rem p = xs.length + 1 := by unfold rem; rw [hhead]; omega
      have hrs : rem (p ++ [x]) = xs.length := by rw [rem_snoc hp, hrem]; omega
      by_cases hP : p ∈ (st s).P
      · have ht : tgt st s p = .mid s p := by unfold tgt; rw [if_neg (by omega), if_pos hP]
        rw [ht] at hg
        exact h.s.tr g _ x hg hs hx
      · have ht : tgt st s p = .pred (st s).d (rem p) := by unfold tgt; rw [if_neg (by omega), if_neg hP]
        rw [ht] at hg
        have h1 := h.s.tr g _ x hg trivial hx
        rw [h1]
        congr 1
        show dr (st s).d (rem p - 1) = _
        rw [hrem, Nat.add_sub_cancel]
        unfold tgt dr
        rw [hrs]
        have hnp : p ++ [x] ∉ (st s).P := fun e => hP (hok.pc _ _ e hp)
        split
        · rename_i h0
          rw [find_none (fun t ht => hP (hok.fp _ _ _ ht hp))]
        · first | rfl | rw [if_neg hnp]
  have h0 : L[b.tr f c]? = some (tgt st s [c]) := h.s.tr f _ c hf hs hc
  exact key cs [c] (b.tr f c) (by simp) rfl h0
/-- What a state of the automaton over letters becomes. -/
def infOf (s : LSt) (P : List (List Nat)) : Inf := ⟨(s.dflt + 1).toNat, (s.ex, s.dist), P, (arcF s.arcs).reverse⟩
theorem addL_n {b : Bd} {L : List Role} {st : Nat → Inf} {i n il mx : Nat} {s : LSt} (h : Sm b L st (i + 1) il mx) (hg : LOk n s) (hi : i < n) (hil : (n + 1) * 4 ≤ il) (hn : b.n + 100 < MAX32) :
    ∃ L' P', L <+: L' ∧ Sm (b.addL i s) L' (upd st (i + 1) (infOf s P')) (i + 2) il mx ∧ (b.addL i s).n ≤ b.n + 65 := by
  obtain ⟨d0, d1, few, ha⟩ := hg
  obtain ⟨L1, a1, a2, a3, a4⟩ := h.addS (d := (s.dflt + 1).toNat) (e := (s.ex, s.dist)) (by omega) (by omega) (by omega)
  have hI := addS_i (s := i + 1) (d := (s.dflt + 1).toNat) (e := (s.ex, s.dist)) h.i (by omega) (by omega)
  unfold Bd.addL
  generalize b.addS (i + 1) (s.dflt + 1).toNat (s.ex, s.dist) = y at *
  obtain ⟨sid, ps, b1⟩ := y
  dsimp only at a2 a3 a4 hI ⊢
  obtain ⟨L2, P2, b1', b2, b3⟩ := Sm.addArcs (by omega) hI.2.2.2.2.2 s.arcs b1 L1 _ a2 a3 (fun k hk => by rw [upd_at]; exact a4 k hk) (fun a h => ⟨(ha a h).2.1, by have := (ha a h).2.2; omega⟩) (by omega) hI.2.2.2.2.1 hI.2.2.2.1
  rw [upd_upd, upd_at] at b2
  refine ⟨L2, P2, a1.trans b1', ?_, by omega⟩
  dsimp only at b2
  rw [List.append_nil] at b2
  exact b2
theorem addLs_n {n il mx : Nat} (hil : (n + 1) * 4 ≤ il) : ∀ (l : List LSt) (i : Nat) (b : Bd) (L : List Role) (st : Nat → Inf), Sm b L st (i + 1) il mx → (∀ s ∈ l, LOk n s) → i + l.length = n → b.n + l.length * 65 + 100 < MAX32 →
    ∃ L' st', L <+: L' ∧ Sm (Bd.addLs l i b) L' st' (n + 1) il mx ∧ (∀ k, k < i + 1 → st' k = st k) ∧ (∀ k (h : k < l.length), ∃ P, st' (i + k + 1) = infOf l[k] P) ∧ (Bd.addLs l i b).n ≤ b.n + l.length * 65
  | [], i, b, L, st, h, _, e, hn => by
    simp only [List.length_nil, Nat.add_zero] at e
    subst e
    exact ⟨L, st, List.prefix_refl _, h, fun _ _ => rfl, fun k h => by simp at h, Nat.le_refl _⟩
  | s :: l, i, b, L, st, h, hg, e, hn => by
    simp only [List.length_cons] at e hn
    obtain ⟨L1, P1, a1, a2, a3⟩ := addL_n h (hg s (.head _)) (by omega) hil (by omega)
    obtain ⟨L2, st2, b1, b2, b3, b4, b5⟩ := addLs_n hil l (i + 1) _ L1 _ a2 (fun x hx => hg x (.tail _ hx)) (by omega) (by omega)
    refine ⟨L2, st2, a1.trans b1, b2, fun k hk => ?_, fun k hk => ?_, ?_⟩
    · rw [b3 k (by omega), upd_ne _ _ (by omega)]
    · cases k with
      | zero =>
        refine ⟨P1, ?_⟩
        rw [Nat.add_zero, b3 (i + 1) (by omega), upd_at]
        rfl
      | succ k =>
        obtain ⟨P, hP⟩ := b4 k (by simpa using hk)
        refine ⟨P, ?_⟩
        rw [show i + (k + 1) + 1 = i + 1 + k + 1 by omega, hP]
        rfl
    · show (Bd.addLs l (i + 1) _).n ≤ _
      rw [List.length_cons]
      omega
def Built (sts : List LSt) (b : Bd) (L : List Role) (st : Nat → Inf) : Prop :=
  L[0]? = some (.orig 0) ∧ (∃ P, st 0 = ⟨0, (false, 255), P, []⟩) ∧ ∀ k (h : k < sts.length), ∃ P, st (k + 1) = infOf sts[k] P
theorem Sem.new (mx : Nat) (st : Nat → Inf) : Sem (Bd.new mx) [] st 0 := by
  refine ⟨.nil, rfl, rfl, fun i hi h => ?_, fun q i hi h => by simp at h, fun f r x h => by simp at h, fun f s h => by simp at h, fun s hs => by omega⟩
  exfalso
  apply h
  unfold Bd.at Bd.new
  have hi' : i < mx * 2 + 100 := by simpa [Bd.new] using hi
  rw [List.getD_eq_getElem?_getD, List.getElem?_replicate, if_pos hi']
  rfl
theorem built_sm (sts : List LSt) (start : Nat) (hn : sts.length ≤ 13) (hs : start < sts.length) (hg : ∀ s ∈ sts, LOk sts.length s) :
    ∃ L st, Sm (builtOf sts start) L st (sts.length + 1) ((4 * sts.length + 4) * 2 + 100) (4 * sts.length + 4) ∧ Built sts (builtOf sts start) L st ∧ L[(builtOf sts start).init]? = some (.orig (start + 1)) := by
  have h0 : Sm (Bd.new (4 * sts.length + 4)) [] (fun _ => ⟨0, (false, 255), [], []⟩) 0 ((4 * sts.length + 4) * 2 + 100) (4 * sts.length + 4) :=
    ⟨Sem.new _ _, new_i _, fun s p h => by simp at h, fun s hs => by omega⟩
  have hn0 : (Bd.new (4 * sts.length + 4)).n = 0 := rfl
  obtain ⟨L1, a1, a2, a3, a4⟩ := h0.addS (d := 0) (e := (false, 255)) (by omega) (by omega) (by rw [hn0]; simp only [MAX32]; omega)
  have hI := addS_i (s := 0) (d := 0) (e := (false, 255)) h0.i (by omega) (by omega)
  have hz : ((Bd.new (4 * sts.length + 4)).addS 0 0 (false, 255)).1 = 0 := by
    show ((Bd.new (4 * sts.length + 4)).goa (0 * 4)).1 = 0
    unfold Bd.goa
    rw [if_pos]
    · rfl
    · unfold Bd.at Bd.new
      rw [List.getD_eq_getElem?_getD, List.getElem?_replicate, if_pos (by omega)]
      rfl
  rw [hz] at a3
  unfold builtOf
  generalize ((Bd.new (4 * sts.length + 4)).addS 0 0 (false, 255)) = y at *
  obtain ⟨sid, ps, b1⟩ := y
  dsimp only at a2 a3 hI ⊢
  obtain ⟨L2, st2, b1', b2, b3, b4, b5⟩ := addLs_n (n := sts.length) (by omega) sts 0 b1 L1 _ a2 hg (by omega) (by simp only [MAX32]; omega)
  generalize Bd.addLs sts 0 b1 = b2' at *
  obtain ⟨L3, c1, c2, c3, c4⟩ := b2.s.goa (i := (start + 1) * 4) b2.i.fl (by simp only [MAX32]; omega) (by rw [b2.i.il]; omega) (fun hd => by
    rw [iRole4] at hd
    obtain ⟨q, hq, e3⟩ := List.getElem_of_mem (b2.s.pr _ hd)
    have h1 := b2.s.xi q ((start + 1) * 4) (by rw [b2.i.il]; omega) (by rw [List.getElem?_eq_getElem hq, e3, iRole4])
    have h2 := b2.s.ln
    simp only [MAX32]
    omega)
  rw [iRole4] at c3
  have hI4 := goa_i (s := (start + 1) * 4) b2.i
  refine ⟨L3, st2, ⟨?_, ⟨hI4.wf, hI4.wt, hI4.fl, hI4.il, hI4.mx⟩, fun s p hp => b2.md s p (c4 s p hp), b2.ok⟩, ⟨pre_get (b1'.trans c1) a3, ⟨[], ?_⟩, fun k hk => ?_⟩, c3⟩
  · exact ⟨c2.nd, c2.ln, c2.dl, c2.ix, c2.xi, c2.tr, c2.ds, c2.pr⟩
  · rw [b3 0 (by omega), upd_at]
  · obtain ⟨P, hP⟩ := b4 k hk
    refine ⟨P, ?_⟩
    rw [← hP]
    congr 1
    omega
/-- Where a letter leads from a state; -1: nowhere. -/
def nxt (sts : List LSt) (a : Int) (x : Nat) : Int := if a < 0 then -1 else match sts[a.toNat]? with
  | some s => s.next x
  | none => -1
def goS (sts : List LSt) : Int → List Nat → Int
  | a, [] => a
  | a, r :: rs => goS sts (nxt sts a r) rs
theorem goS_append (sts : List LSt) : ∀ (l l' : List Nat) (a : Int), goS sts a (l ++ l') = goS sts (goS sts a l) l'
  | [], _, _ => rfl
  | r :: l, l', a => goS_append sts l l' _
theorem next_ok {n : Nat} {s : LSt} (h : LOk n s) (x : Int) : -1 ≤ s.next x ∧ s.next x < n := by
  unfold LSt.next
  cases hf : s.arcs.find? (fun a => a.r == x) with
  | none => exact ⟨h.d0, h.d1⟩
  | some a =>
    have := h.arcs a (List.mem_of_find?_eq_some hf)
    dsimp only
    omega
theorem nxt_ok {sts : List LSt} (hg : ∀ s ∈ sts, LOk sts.length s) (a : Int) (x : Nat) : -1 ≤ nxt sts a x ∧ nxt sts a x < sts.length ∨ sts = [] := by
  by_cases he : sts = []
  · exact .inr he
  have hp : 0 < sts.length := List.length_pos_iff.2 he
  refine .inl ?_
  unfold nxt
  split
  · omega
  · cases hs : sts[a.toNat]? with
    | none => dsimp only; omega
    | some s => exact next_ok (hg s (List.mem_of_getElem? hs)) _
theorem goS_ok {sts : List LSt} (hg : ∀ s ∈ sts, LOk sts.length s) : ∀ (l : List Nat) (a : Int), -1 ≤ a → a < sts.length → -1 ≤ goS sts a l ∧ goS sts a l < sts.length
  | [], a, h, h' => ⟨h, h'⟩
  | r :: l, a, h, h' => by
    rcases nxt_ok hg a r with e | e
    · exact goS_ok hg l _ e.1 e.2
    · subst e
      have : a = -1 := by simp at h'; omega
      subst this
      exact goS_ok hg l (nxt [] (-1) r) (by simp [nxt]) (by simp [nxt])
theorem mem_arcF {az : List LArc} {q : List Nat} {t : Nat} : (q, t) ∈ (arcF az).reverse ↔ ∃ a ∈ az, encN a.r.toNat = q ∧ a.to.toNat + 1 = t := by
  rw [List.mem_reverse, arcF, List.mem_map]
  constructor
  · rintro ⟨a, ha, e⟩
    cases e
    exact ⟨a, ha, rfl, rfl⟩
  · rintro ⟨a, ha, rfl, rfl⟩
    exact ⟨a, ha, rfl⟩
theorem arc_uniq {s : LSt} {n : Nat} (h : LGood n s) {a b : LArc} (ha : a ∈ s.arcs) (hb : b ∈ s.arcs) (e : a.r = b.r) : a = b := by
  obtain ⟨i, hi, rfl⟩ := List.getElem_of_mem ha
  obtain ⟨j, hj, rfl⟩ := List.getElem_of_mem hb
  rcases Nat.lt_trichotomy i j with h1 | h1 | h1
  · exact absurd e (h.diff j hj i hi h1)
  · subst h1; rfl
  · exact absurd e.symm (h.diff i hi j hj h1)
theorem find_inf {s : LSt} {n r : Nat} (h : LGood n s) (hr : isL r) (P : List (List Nat)) : (infOf s P).find (encN r) = (s.next r + 1).toNat := by
  unfold LSt.next
  cases hf : s.arcs.find? (fun a => a.r == (r : Int)) with
  | none =>
    rw [find_none]
    · rfl
    · intro t ht
      obtain ⟨a, ha, e1, e2⟩ := mem_arcF.1 ht
      have ha2 := h.ok.arcs a ha
      have e3 := encN_inj ha2.2.1 hr e1
      have := List.find?_eq_none.1 hf a ha
      simp at this
      omega
  | some a =>
    have ha := List.mem_of_find?_eq_some hf
    have hb := List.find?_some hf
    have he : a.r = (r : Int) := by simpa using hb
    have ha2 := h.ok.arcs a ha
    refine (find_mem (t := a.to.toNat + 1) (mem_arcF.2 ⟨a, ha, by rw [he]; rfl, rfl⟩) (fun t' ht' => ?_)).trans (by dsimp only; omega)
    obtain ⟨a', ha', e1, e2⟩ := mem_arcF.1 ht'
    have ha3 := h.ok.arcs a' ha'
    have e3 := encN_inj ha3.2.1 hr e1
    have : a' = a := arc_uniq h ha' ha (by rw [he]; omega)
    subst this
    exact e2.symm
/-- What the state behind some letters tells. -/
def tellD (sts : List LSt) (a : Int) : Bool × Nat := if a < 0 then (false, 255) else match sts[a.toNat]? with
  | some s => (s.ex, s.dist)
  | none => (false, 255)
theorem built_walk (sts : List LSt) (start : Nat) (hn : sts.length ≤ 13) (hs : start < sts.length) (hg : ∀ s ∈ sts, LGood sts.length s) (l : List Nat) (hl : ∀ r ∈ l, isL r) :
    (builtOf sts start).di ((builtOf sts start).run (builtOf sts start).init (l.flatMap encN)) = tellD sts (goS sts start l) ∧
    (0 < (builtOf sts start).run (builtOf sts start).init (l.flatMap encN) ↔ 0 ≤ goS sts start l) := by
  obtain ⟨L, st, h, ⟨hz, ⟨P0, hst0⟩, hst⟩, hini⟩ := built_sm sts start hn hs (fun s hx => (hg s hx).ok)
  generalize builtOf sts start = b at *
  have hok := fun l => goS_ok (fun s hx => (hg s hx).ok) l (start : Int) (by omega) (by omega)
  have key : ∀ (l' : List Nat) (a : Int) (f : Nat), (∀ r ∈ l', isL r) → -1 ≤ a → a < sts.length → L[f]? = some (.orig (a + 1).toNat) → L[b.run f (l'.flatMap encN)]? = some (.orig (goS sts a l' + 1).toNat) := by
    intro l'
    induction l' with
    | nil => exact fun a f _ _ _ h => h
    | cons r l' ih =>
      intro a f hr h1 h2 hf
      have hr0 := hr r (.head _)
      rw [List.flatMap_cons, run_append]
      have hstep := h.step (s := (a + 1).toNat) (by omega) hr0 hf
      have hnx : (st (a + 1).toNat).find (encN r) = (nxt sts a r + 1).toNat := by
        unfold nxt
        by_cases ha : a < 0
        · have : a = -1 := by omega
          subst this
          rw [if_pos ha]
          show (st 0).find _ = 0
          rw [hst0]
          rfl
        · rw [if_neg ha]
          have hlt : a.toNat < sts.length := by omega
          obtain ⟨P, hP⟩ := hst a.toNat hlt
          rw [show (a + 1).toNat = a.toNat + 1 by omega, hP, List.getElem?_eq_getElem hlt]
          exact find_inf (hg _ (List.getElem_mem hlt)) hr0 P
      rw [hnx] at hstep
      rcases nxt_ok (fun s hx => (hg s hx).ok) a r with e | e
      · exact ih _ _ (fun x hx => hr x (.tail _ hx)) e.1 e.2 hstep
      · subst e
        simp at hs
  have hk := key l start b.init hl (by omega) (by omega) (by rw [hini]; rfl)
  generalize hf : b.run b.init (l.flatMap encN) = f at *
  have ha := hok l
  generalize goS sts start l = a at *
  constructor
  · rw [h.s.ds f _ hk (by omega)]
    unfold tellD
    by_cases h0 : a < 0
    · have : a = -1 := by omega
      subst this
      show (st 0).e = _
      rw [hst0, if_pos h0]
    · rw [if_neg h0]
      have hlt : a.toNat < sts.length := by omega
      obtain ⟨P, hP⟩ := hst a.toNat hlt
      rw [show (a + 1).toNat = a.toNat + 1 by omega, hP, List.getElem?_eq_getElem hlt]
      rfl
  · constructor
    · intro hp
      refine Int.not_lt.1 (fun h0 => ?_)
      have : a = -1 := by omega
      subst this
      have := h.s.lab hz hk
      omega
    · intro h0
      refine Nat.pos_of_ne_zero (fun e => ?_)
      subst e
      rw [hz] at hk
      simp only [Option.some.injEq, Role.orig.injEq] at hk
      omega
/-- The same, at the numbers of bytes behind the letters. -/
theorem built_trail (sts : List LSt) (start : Nat) (hn : sts.length ≤ 13) (hs : start < sts.length) (hg : ∀ s ∈ sts, LGood sts.length s) (l : List Nat) (hl : ∀ r ∈ l, isL r) (i : Nat) (hi : i ≤ l.length) :
    (builtOf sts start).di (((builtOf sts start).trail (builtOf sts start).init (l.flatMap encN)).getD ((placesOf l).getD i 0) 0) = tellD sts (goS sts start (l.take i)) ∧
    (0 < ((builtOf sts start).trail (builtOf sts start).init (l.flatMap encN)).getD ((placesOf l).getD i 0) 0 ↔ 0 ≤ goS sts start (l.take i)) := by
  have e : l.flatMap encN = (l.take i).flatMap encN ++ (l.drop i).flatMap encN := by rw [← List.flatMap_append, List.take_append_drop]
  have h1 : (l.flatMap encN).take ((placesOf l).getD i 0) = (l.take i).flatMap encN := by
    rw [placesOf_get hi, e, List.take_left]
  rw [trail_run _ _ _ _ (by rw [placesOf_get hi, e, List.length_append]; omega), h1]
  exact built_walk sts start hn hs hg (l.take i) (fun r hr => hl r (List.mem_of_mem_take hr))
end Go.Proofs.Eng
