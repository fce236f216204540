/- A part of the proof: what functions of the program do, step by step. -/
import Derived.Test.YtiadbheejlhimaaVj
set_option linter.unusedVariables false
set_option linter.unusedSimpArgs false
namespace Go.Proofs.Eng
def upd (st : Nat → Inf) (s : Nat) (i : Inf) : Nat → Inf := fun k => if k = s then i else st k
theorem upd_at (st : Nat → Inf) (s : Nat) (i : Inf) : upd st s i s = i := by unfold upd; rw [if_pos rfl]
theorem upd_ne (st : Nat → Inf) {s k : Nat} (i : Inf) (h : k ≠ s) : upd st s i k = st k := by unfold upd; rw [if_neg h]
theorem upd_upd (st : Nat → Inf) (s : Nat) (i j : Inf) : upd (upd st s i) s j = upd st s j := by
  funext k
  unfold upd
  split <;> rfl
structure InfOk (i : Inf) : Prop where
  ne : [] ∉ i.P
  pc : ∀ p x, p ++ [x] ∈ i.P → p ≠ [] → p ∈ i.P
  fp : ∀ p x t, (p ++ [x], t) ∈ i.F → p ≠ [] → p ∈ i.P
structure Sm (b : Bd) (L : List Role) (st : Nat → Inf) (m il mx : Nat) : Prop where
  s : Sem b L st m
  i : BdI b il mx
  md : ∀ s p, .mid s p ∈ L → s < m ∧ p ∈ (st s).P
  ok : ∀ s, s < m → InfOk (st s)
theorem delta_at {st st' : Nat → Inf} {s : Nat} (h : ∀ k, k ≠ s → st' k = st k) (hd : (st' s).d = (st s).d) (hF : (st' s).F = (st s).F) {q : List Nat} (hP : ∀ q', q' ≠ q → (q' ∈ (st' s).P ↔ q' ∈ (st s).P)) :
    ∀ s' q', ¬ (s' = s ∧ q' = q) → tgt st' s' q' = tgt st s' q' := by
  intro s' q' hne
  by_cases e : s' = s
  · subst e
    have hq : q' ≠ q := fun e => hne ⟨rfl, e⟩
    unfold tgt Inf.find
    rw [hd, hF]
    have := hP q' hq
    by_cases h1 : q' ∈ (st s').P
    · rw [if_pos h1, if_pos (this.2 h1)]
    · rw [if_neg h1, if_neg (fun e => h1 (this.1 e))]
  · unfold tgt
    rw [h s' e]
theorem snoc_inj {p q : List Nat} {x y : Nat} (h : p ++ [x] = q ++ [y]) : p = q ∧ x = y := by
  have := List.append_inj' h rfl
  exact ⟨this.1, by simpa using this.2⟩
/-- The role of a way that is not whole yet. -/
def way (s : Nat) (p : List Nat) : Role := if p = [] then .orig s else .mid s p
theorem way_nil (s : Nat) : way s [] = .orig s := if_pos rfl
theorem way_ne (s : Nat) {p : List Nat} (h : p ≠ []) : way s p = .mid s p := if_neg h
theorem way_delta (st : Nat → Inf) (s : Nat) (p : List Nat) (x : Nat) : delta st (way s p) x = tgt st s (p ++ [x]) := by
  unfold way
  split
  · rename_i h; subst h; rfl
  · rfl
theorem way_uniq {st : Nat → Inf} {L : List Role} {s m : Nat} (md : ∀ s p, .mid s p ∈ L → s < m ∧ p ∈ (st s).P) (ok : ∀ s, s < m → InfOk (st s)) {r : Role} (hr : r ∈ L) {s' : Nat} {q : List Nat} : (∀ d k, r ≠ .pred d k) → ∃ s' p', r = way s' p' ∧ (p' = [] ∨ (s' < m ∧ p' ∈ (st s').P)) := by
  intro hp
  cases r with
  | orig s' => exact ⟨s', [], rfl, .inl rfl⟩
  | pred d k => exact absurd rfl (hp d k)
  | mid s' p' =>
    have h1 := md s' p' hr
    have h2 : p' ≠ [] := fun e => (ok s' h1.1).ne (e ▸ h1.2)
    exact ⟨s', p', (way_ne s' h2).symm, .inr h1⟩
/-- What changes when the target of a way changes. -/
theorem delta_ne {st st' : Nat → Inf} {s : Nat} {p : List Nat} {x : Nat} (h : ∀ s' q', ¬ (s' = s ∧ q' = p ++ [x]) → tgt st' s' q' = tgt st s' q') {r : Role} {y : Nat} (hm : ∀ s', r ≠ .mid s' []) (hne : ¬ (r = way s p ∧ y = x)) : delta st' r y = delta st r y := by
  cases r with
  | pred d k => rfl
  | orig s' =>
    refine h s' [y] (fun e => hne ?_)
    obtain ⟨rfl, e2⟩ := e
    have := snoc_inj (p := []) e2
    exact ⟨by rw [← this.1]; rfl, this.2⟩
  | mid s' p' =>
    refine h s' (p' ++ [y]) (fun e => hne ?_)
    obtain ⟨rfl, e2⟩ := e
    have := snoc_inj e2
    refine ⟨?_, this.2⟩
    rw [← this.1, way_ne]
    exact fun e => hm s' (by rw [e])
theorem Sm.mnil {b : Bd} {L : List Role} {st : Nat → Inf} {m il mx : Nat} (h : Sm b L st m il mx) {r : Role} (hr : r ∈ L) (s' : Nat) : r ≠ .mid s' [] := fun e => by
  subst e
  have := h.md _ _ hr
  exact (h.ok _ this.1).ne this.2
/-- The way to the last byte of a letter. -/
theorem Sm.mid (ps : List Nat) (s m il mx : Nat) (hs : s < m) (hpl : ps.length = 4) : ∀ (xs : List Nat) (p : List Nat) (f : Nat) (b : Bd) (L : List Role) (st : Nat → Inf), Sm b L st m il mx → (∀ x ∈ xs, x < 256) →
    L[f]? = some (way s p) → (p = [] ∨ p ∈ (st s).P) → (∀ k, k ≤ 3 → L[ps.getD k 0]? = some (dr (st s).d k)) → (xs ≠ [] → lead ((p ++ xs).headD 0) = p.length + xs.length) → b.n + xs.length < MAX32 →
    ∃ L' P', L <+: L' ∧ Sm (Bd.mid ps xs f b).2 L' (upd st s ⟨(st s).d, (st s).e, P', (st s).F⟩) m il mx ∧ L'[(Bd.mid ps xs f b).1]? = some (way s (p ++ xs)) ∧ (p ++ xs = [] ∨ p ++ xs ∈ P') ∧ (Bd.mid ps xs f b).2.n ≤ b.n + xs.length
  | [], p, f, b, L, st, h, hx, hf, hp, hps, hl, hn => by
    refine ⟨L, (st s).P, List.prefix_refl _, ?_, by rw [List.append_nil]; exact hf, by rw [List.append_nil]; exact hp, Nat.le_refl _⟩
    have e : upd st s ⟨(st s).d, (st s).e, (st s).P, (st s).F⟩ = st := by
      funext k
      unfold upd
      split
      · rename_i h; subst h; rfl
      · rfl
    rw [e]
    exact h
  | x :: xs, p, f, b, L, st, h, hx, hf, hp, hps, hl, hn => by
    have hx0 := hx x (.head _)
    have hlead := hl (by simp)
    simp only [List.length_cons] at hlead hn
    have hhead : (p ++ x :: xs).headD 0 = (p ++ [x]).headD 0 := by cases p <;> rfl
    rw [hhead] at hlead
    have hrem : rem (p ++ [x]) = xs.length + 1 := by
      unfold rem
      rw [hlead]
      simp
    have hlt4 : lead ((p ++ [x]).headD 0) ≤ 3 := by
      unfold lead
      split
      · omega
      · split
        · omega
        · split <;> omega
    have hxs3 : xs.length + 1 ≤ 3 := by omega
    have htr := h.s.tr f _ x hf (by unfold way; split <;> exact hs) hx0
    rw [way_delta] at htr
    have hpa : p ++ x :: xs = p ++ [x] ++ xs := by simp
    have hfl := h.i.fl
    have hps1 := hps (xs.length + 1) hxs3
    have hps0 := hps xs.length (by omega)
    simp only [Bd.mid]
    by_cases hq : p ++ [x] ∈ (st s).P
    · have ht : tgt st s (p ++ [x]) = .mid s (p ++ [x]) := by
        unfold tgt
        rw [if_neg (by omega), if_pos hq]
      rw [ht] at htr
      rw [if_neg (fun e => by
        rw [e, hps1] at htr
        simp [dr] at htr)]
      have h1 : Sem (b.set f x (b.tr f x)) L st m := h.s.set hfl hx0 hf (by rw [way_delta, ht]; exact htr) (fun _ _ => rfl) (fun _ _ _ _ _ _ => rfl)
      have h2 := set_i (f := f) (c := x) h.i (h.s.lt htr)
      obtain ⟨L', P', a1, a2, a3, a4, a5⟩ := Sm.mid ps s m il mx hs hpl xs (p ++ [x]) (b.tr f x) (b.set f x (b.tr f x)) L st ⟨h1, h2, h.md, h.ok⟩ (fun y hy => hx y (.tail _ hy)) (by rw [way_ne s (by simp)]; exact htr) (.inr hq) hps
        (fun _ => by
          have : (p ++ [x] ++ xs).headD 0 = (p ++ [x]).headD 0 := by cases p <;> rfl
          rw [this, hlead]; simp; omega) (by show b.n + _ < _; omega)
      rw [hpa]
      exact ⟨L', P', a1, a2, a3, a4, Nat.le_trans a5 (by show b.n + _ ≤ _; rw [List.length_cons]; omega)⟩
    · have ht : tgt st s (p ++ [x]) = dr (st s).d (xs.length + 1) := by
        unfold tgt
        rw [if_neg (by omega), if_neg hq, hrem]
        rfl
      rw [ht] at htr
      rw [if_pos (h.s.lab hps1 htr)]
      have hnq : Role.mid s (p ++ [x]) ∉ L := fun e => hq (h.md _ _ e).2
      have hok := h.ok s hs
      have hv : ∀ y, y < 256 → L[ps.getD xs.length 0]? = some (delta st (.mid s (p ++ [x])) y) := by
        intro y hy
        rw [hps0]
        show _ = some (tgt st s (p ++ [x] ++ [y]))
        have hr2 : rem (p ++ [x] ++ [y]) = xs.length := by rw [rem_snoc (by simp), hrem]; omega
        have hnp : p ++ [x] ++ [y] ∉ (st s).P := fun e => hq (hok.pc _ _ e (by simp))
        unfold tgt
        rw [hr2, if_neg hnp]
        by_cases h0 : xs.length = 0
        · rw [if_pos h0, h0]
          have : (st s).find (p ++ [x] ++ [y]) = (st s).d := by
            unfold Inf.find
            cases hfi : (st s).F.find? (fun z => z.1 == p ++ [x] ++ [y]) with
            | none => rfl
            | some z =>
              have h1 := List.mem_of_find?_eq_some hfi
              have h2 := List.find?_some hfi
              have h3 : z.1 = p ++ [x] ++ [y] := by simpa using h2
              obtain ⟨z1, z2⟩ := z
              dsimp only at h3
              subst h3
              exact absurd (hok.fp _ _ _ h1 (by simp)) hq
          rw [this]
          rfl
        · rw [if_neg h0]
          unfold dr
          rw [if_neg h0]
      have hrow := h.s.row hfl hnq hv
      have hfl2 := alloc_fl hfl
      have hi2 : BdI (b.alloc.fill (b.n * 256) 256 (ps.getD xs.length 0)) il mx := fill_i (alloc_i h.i) (by show b.n * 256 + 256 ≤ (b.n + 1) * 256; omega) (Nat.lt_succ_of_lt (h.s.lt hps0))
      have hend : (L ++ [Role.mid s (p ++ [x])])[b.n]? = some (.mid s (p ++ [x])) := by
        rw [← h.s.ln, List.getElem?_append_right (Nat.le_refl _)]
        simp
      have hok' : InfOk ⟨(st s).d, (st s).e, (p ++ [x]) :: (st s).P, (st s).F⟩ := by
        refine ⟨?_, fun q y hq2 hne => ?_, fun q y t hq2 hne => .tail _ (hok.fp q y t hq2 hne)⟩
        · intro e
          rcases List.mem_cons.1 e with e | e
          · simp at e
          · exact hok.ne e
        · rcases List.mem_cons.1 hq2 with e | e
          · have := (snoc_inj e).1
            subst this
            rcases hp with hp | hp
            · exact absurd hp hne
            · exact .tail _ hp
          · exact .tail _ (hok.pc q y e hne)
      have hst : Sem ((b.alloc.fill (b.n * 256) 256 (ps.getD xs.length 0)).set f x b.n) (L ++ [.mid s (p ++ [x])]) (upd st s ⟨(st s).d, (st s).e, (p ++ [x]) :: (st s).P, (st s).F⟩) m := by
        refine hrow.set hi2.fl hx0 (app_old hf) ?_ (fun s' _ => ?_) (fun r' y hr' _ _ hne => ?_)
        · rw [hend, way_delta]
          unfold tgt
          rw [if_neg (by omega), upd_at, if_pos (.head _)]
        · by_cases e : s' = s
          · subst e; rw [upd_at]
          · rw [upd_ne _ _ e]
        · refine delta_ne (s := s) (p := p) (x := x) (delta_at (fun k hk => upd_ne _ _ hk) (by rw [upd_at]) (by rw [upd_at]) (fun q' hq' => ?_)) (fun s' => ?_) hne
          · rw [upd_at]
            simp only [List.mem_cons]
            exact ⟨fun e => e.resolve_left hq', .inr⟩
          · rcases List.mem_append.1 hr' with e | e
            · exact h.mnil e s'
            · rw [List.mem_singleton.1 e]
              simp
      have hi3 := set_i (f := f) (c := x) (v := b.n) hi2 (by show b.n < b.n + 1; omega)
      have hupd : ∀ {I : Inf}, ((upd st s I) s) = I := fun {I} => upd_at st s I
      have hmd' : ∀ s' p', Role.mid s' p' ∈ L ++ [Role.mid s (p ++ [x])] → s' < m ∧ p' ∈ (upd st s ⟨(st s).d, (st s).e, (p ++ [x]) :: (st s).P, (st s).F⟩ s').P := by
        intro s' p' hm
        rcases List.mem_append.1 hm with e | e
        · have := h.md _ _ e
          refine ⟨this.1, ?_⟩
          by_cases e2 : s' = s
          · subst e2; rw [hupd]; exact .tail _ this.2
          · rw [upd_ne _ _ e2]; exact this.2
        · have e2 := List.mem_singleton.1 e
          simp only [Role.mid.injEq] at e2
          obtain ⟨rfl, rfl⟩ := e2
          exact ⟨hs, by rw [hupd]; exact .head _⟩
      have hokk : ∀ s', s' < m → InfOk (upd st s ⟨(st s).d, (st s).e, (p ++ [x]) :: (st s).P, (st s).F⟩ s') := by
        intro s' hs'
        by_cases e2 : s' = s
        · subst e2; rw [hupd]; exact hok'
        · rw [upd_ne _ _ e2]; exact h.ok s' hs'
      obtain ⟨L', P', a1, a2, a3, a4, a5⟩ := Sm.mid ps s m il mx hs hpl xs (p ++ [x]) b.n ((b.alloc.fill (b.n * 256) 256 (ps.getD xs.length 0)).set f x b.n) (L ++ [.mid s (p ++ [x])]) (upd st s ⟨(st s).d, (st s).e, (p ++ [x]) :: (st s).P, (st s).F⟩)
        ⟨hst, hi3, hmd', hokk⟩ (fun y hy => hx y (.tail _ hy)) (by rw [way_ne s (by simp)]; exact hend) (.inr (by rw [hupd]; exact .head _)) (fun k hk => by rw [hupd]; exact app_old (hps k hk))
        (fun _ => by
          have : (p ++ [x] ++ xs).headD 0 = (p ++ [x]).headD 0 := by cases p <;> rfl
          rw [this, hlead]; simp; omega) (by show b.n + 1 + _ < _; omega)
      rw [hupd, upd_upd] at a2
      rw [hpa]
      exact ⟨L', P', (List.prefix_append _ _).trans a1, a2, a3, a4, Nat.le_trans a5 (by show b.n + 1 + _ ≤ _; rw [List.length_cons]; omega)⟩
end Go.Proofs.Eng
