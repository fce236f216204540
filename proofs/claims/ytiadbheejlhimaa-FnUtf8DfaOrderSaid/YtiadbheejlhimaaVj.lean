/- A part of the proof: what functions of the program do, step by step. -/
import Derived.Test.YtiadbheejlhimaaVi
set_option linter.unusedVariables false
set_option linter.unusedSimpArgs false
namespace Go.Proofs.Eng
/-- What a state leads to: its default one, its distance, the ways that have a state of their own, the letters with their targets. -/
structure Inf where
  d : Nat
  e : Bool × Nat
  P : List (List Nat)
  F : List (List Nat × Nat)
def Inf.find (s : Inf) (q : List Nat) : Nat := match s.F.find? (fun x => x.1 == q) with
  | some x => x.2
  | none => s.d
def rem (q : List Nat) : Nat := lead (q.headD 0) + 1 - q.length
def dr (d k : Nat) : Role := if k = 0 then .orig d else .pred d k
def tgt (st : Nat → Inf) (s : Nat) (q : List Nat) : Role :=
  if rem q = 0 then .orig ((st s).find q) else if q ∈ (st s).P then .mid s q else .pred (st s).d (rem q)
def delta (st : Nat → Inf) : Role → Nat → Role
  | .orig s, x => tgt st s [x]
  | .mid s p, x => tgt st s (p ++ [x])
  | .pred d k, _ => dr d (k - 1)
def iRole (i : Nat) : Role := dr (i / 4) (i % 4)
theorem dr_inj {d k d' k' : Nat} (h : dr d k = dr d' k') : d = d' ∧ k = k' := by
  unfold dr at h
  split at h <;> split at h <;> simp at h <;> omega
theorem iRole_inj {i j : Nat} (h : iRole i = iRole j) : i = j := by
  have := dr_inj h
  omega
theorem iRole_mid (i s : Nat) (q : List Nat) : iRole i ≠ .mid s q := by
  unfold iRole dr
  split <;> simp
theorem iRole4 (s : Nat) : iRole (s * 4) = .orig s := by
  unfold iRole dr
  rw [if_pos (by omega)]
  congr 1
  omega
theorem iRole4k {d k : Nat} (hk : k ≤ 3) : iRole (d * 4 + k) = dr d k := by
  unfold iRole
  rw [show (d * 4 + k) / 4 = d by omega, show (d * 4 + k) % 4 = k by omega]
theorem rem_cons (x : Nat) : rem [x] = lead x := by simp [rem]
theorem rem_snoc {p : List Nat} {x : Nat} (hp : p ≠ []) : rem (p ++ [x]) = rem p - 1 := by
  cases p with
  | nil => exact absurd rfl hp
  | cons c p => simp [rem]; omega
def dn (m : Nat) : Role → Prop
  | .orig s => s < m
  | .mid s _ => s < m
  | .pred _ _ => True
/-- The automaton, with a list of what its states stand for. -/
structure Sem (b : Bd) (L : List Role) (st : Nat → Inf) (m : Nat) : Prop where
  nd : L.Nodup
  ln : L.length = b.n
  dl : b.dist.length = b.n
  ix : ∀ i, i < b.idx.length → b.at i ≠ MAX32 → L[b.at i]? = some (iRole i)
  xi : ∀ q i, i < b.idx.length → L[q]? = some (iRole i) → b.at i = q
  tr : ∀ f ρ x, L[f]? = some ρ → dn m ρ → x < 256 → L[b.tr f x]? = some (delta st ρ x)
  ds : ∀ f s, L[f]? = some (.orig s) → s < m → b.di f = (st s).e
  pr : ∀ s, s < m → .orig s ∈ L
theorem Sem.lab {b : Bd} {L : List Role} {st : Nat → Inf} {m : Nat} (h : Sem b L st m) {f f' : Nat} {r : Role} (h1 : L[f]? = some r) (h2 : L[f']? = some r) : f' = f := by
  obtain ⟨a, e⟩ := List.getElem?_eq_some_iff.1 h1
  obtain ⟨a', e'⟩ := List.getElem?_eq_some_iff.1 h2
  exact (List.getElem_inj h.nd).1 (by rw [e, e'])
theorem Sem.lt {b : Bd} {L : List Role} {st : Nat → Inf} {m : Nat} (h : Sem b L st m) {f : Nat} {r : Role} (h1 : L[f]? = some r) : f < b.n := by
  have := (List.getElem?_eq_some_iff.1 h1).1
  have := h.ln
  omega
theorem app_old {L : List Role} {r x : Role} {f : Nat} (h : L[f]? = some x) : (L ++ [r])[f]? = some x := by
  rw [List.getElem?_append_left (List.getElem?_eq_some_iff.1 h).1]
  exact h
/-- A new state. -/
theorem Sem.app {b b' : Bd} {L : List Role} {st : Nat → Inf} {m : Nat} {r : Role} (h : Sem b L st m) (hr : r ∉ L) (hn : b'.n = b.n + 1) (hdl : b'.dist.length = b'.n) (hdi : ∀ f, f < b.n → b'.di f = b.di f)
    (htr : ∀ f x, f < b.n → x < 256 → b'.tr f x = b.tr f x) (hil : b'.idx.length = b.idx.length) (hat : ∀ i, i < b.idx.length → (iRole i = r ∧ b'.at i = b.n) ∨ (iRole i ≠ r ∧ b'.at i = b.at i)) (hu : ∀ s, r = .orig s → m ≤ s)
    (hv : dn m r → ∀ x, x < 256 → L[b'.tr b.n x]? = some (delta st r x)) : Sem b' (L ++ [r]) st m := by
  have hln := h.ln
  have hnew : ∀ {f : Nat} {x : Role}, (L ++ [r])[f]? = some x → (f < b.n ∧ L[f]? = some x) ∨ (f = b.n ∧ x = r) := by
    intro f x h1
    rcases Nat.lt_or_ge f L.length with hf | hf
    · rw [List.getElem?_append_left hf] at h1
      exact .inl ⟨by omega, h1⟩
    · rw [List.getElem?_append_right hf] at h1
      have h2 := (List.getElem?_eq_some_iff.1 h1).1
      simp at h2
      exact .inr ⟨by omega, List.mem_singleton.1 (List.mem_of_getElem? h1)⟩
  have hend : (L ++ [r])[b.n]? = some r := by
    rw [← hln, List.getElem?_append_right (Nat.le_refl _)]
    simp
  refine ⟨?_, by rw [List.length_append, hln, hn]; rfl, hdl, fun i hi h0 => ?_, fun q i hi h1 => ?_, fun f ρ x h1 h2 h3 => ?_, fun f s h1 h2 => ?_, fun s hs => List.mem_append_left _ (h.pr s hs)⟩
  · rw [List.nodup_append]
    exact ⟨h.nd, by simp, fun a ha b hb => by rw [List.mem_singleton.1 hb]; exact fun e => hr (e ▸ ha)⟩
  · rw [hil] at hi
    rcases hat i hi with ⟨e1, e2⟩ | ⟨e1, e2⟩
    · rw [e2, e1]; exact hend
    · rw [e2] at h0 ⊢
      exact app_old (h.ix i hi h0)
  · rw [hil] at hi
    rcases hnew h1 with ⟨e1, e2⟩ | ⟨e1, e2⟩
    · have e3 := h.xi q i hi e2
      rcases hat i hi with ⟨e4, _⟩ | ⟨_, e5⟩
      · exact absurd (e4 ▸ List.mem_of_getElem? e2) hr
      · rw [e5, e3]
    · rcases hat i hi with ⟨_, e5⟩ | ⟨e4, _⟩
      · rw [e5, e1]
      · exact absurd e2 e4
  · rcases hnew h1 with ⟨e1, e2⟩ | ⟨e1, e2⟩
    · rw [htr f x e1 h3]
      exact app_old (h.tr f ρ x e2 h2 h3)
    · subst e1 e2
      exact app_old (hv h2 x h3)
  · rcases hnew h1 with ⟨e1, e2⟩ | ⟨e1, e2⟩
    · rw [hdi f e1]
      exact h.ds f s e2 h2
    · have := hu s e2.symm
      omega
/-- The same states, with other targets. -/
theorem Sem.re {b b' : Bd} {L : List Role} {st st' : Nat → Inf} {m m' : Nat} (h : Sem b L st m) (hn : b'.n = b.n) (hidx : b'.idx = b.idx) (hdl : b'.dist.length = b.dist.length)
    (htr : ∀ f ρ x, L[f]? = some ρ → dn m' ρ → x < 256 → L[b'.tr f x]? = some (delta st' ρ x)) (hds : ∀ f s, L[f]? = some (.orig s) → s < m' → b'.di f = (st' s).e) (hpr : ∀ s, s < m' → .orig s ∈ L) : Sem b' L st' m' :=
  ⟨h.nd, by rw [hn]; exact h.ln, by rw [hdl, hn]; exact h.dl, fun i hi h0 => by
    have e : b'.at i = b.at i := by unfold Bd.at; rw [hidx]
    rw [e] at h0 ⊢
    exact h.ix i (hidx ▸ hi) h0, fun q i hi h1 => by
    have e : b'.at i = b.at i := by unfold Bd.at; rw [hidx]
    rw [e]
    exact h.xi q i (hidx ▸ hi) h1, htr, hds, hpr⟩
/-- One target changed. -/
theorem Sem.set {b : Bd} {L : List Role} {st st' : Nat → Inf} {m f c t : Nat} {r : Role} (h : Sem b L st m) (hfl : b.fl.length = b.n * 256) (hc : c < 256) (hf : L[f]? = some r) (ht : L[t]? = some (delta st' r c))
    (he : ∀ s, s < m → (st' s).e = (st s).e) (hd : ∀ r' x, r' ∈ L → dn m r' → x < 256 → ¬ (r' = r ∧ x = c) → delta st' r' x = delta st r' x) : Sem (b.set f c t) L st' m := by
  refine h.re rfl rfl rfl (fun f' r' x h1 h2 h3 => ?_) (fun f s h1 h2 => by rw [he s h2]; exact h.ds f s h1 h2) h.pr
  have hlt := h.lt hf
  rw [tr_set hc h3 (by rw [hfl]; omega)]
  by_cases e : f' = f ∧ x = c
  · obtain ⟨rfl, rfl⟩ := e
    rw [hf] at h1
    cases h1
    rw [if_pos ⟨rfl, rfl⟩]
    exact ht
  · rw [if_neg e, hd r' x (List.mem_of_getElem? h1) h2 h3 (fun e' => e ⟨h.lab hf (e'.1 ▸ h1), e'.2⟩)]
    exact h.tr f' r' x h1 h2 h3
/-- A part of a state that is not done yet is filled. -/
theorem Sem.fillU {b : Bd} {L : List Role} {st : Nat → Inf} {m f a k v : Nat} {r : Role} (h : Sem b L st m) (hfl : b.fl.length = b.n * 256) (hf : L[f]? = some r) (hr : ¬ dn m r) (ha : a + k ≤ 256) : Sem (b.fill (f * 256 + a) k v) L st m := by
  have hlt := h.lt hf
  refine h.re rfl rfl rfl (fun f' r' x h1 h2 h3 => ?_) h.ds h.pr
  rw [tr_fill (by rw [hfl]; omega), if_neg ?_]
  · exact h.tr f' r' x h1 h2 h3
  · intro e
    have : f' = f := by omega
    subst this
    rw [hf] at h1
    cases h1
    exact hr h2
/-- A whole state is filled, with what it leads to. -/
theorem Sem.fillA {b : Bd} {L : List Role} {st : Nat → Inf} {m f v : Nat} {r : Role} (h : Sem b L st m) (hfl : b.fl.length = b.n * 256) (hf : L[f]? = some r) (hv : ∀ x, x < 256 → L[v]? = some (delta st r x)) : Sem (b.fill (f * 256) 256 v) L st m := by
  have hlt := h.lt hf
  refine h.re rfl rfl rfl (fun f' r' x h1 h2 h3 => ?_) h.ds h.pr
  rw [tr_fill (by rw [hfl]; omega)]
  split
  · have : f' = f := by omega
    subst this
    rw [hf] at h1
    cases h1
    exact hv x h3
  · exact h.tr f' r' x h1 h2 h3
theorem alloc_tr {b : Bd} {f x : Nat} (hfl : b.fl.length = b.n * 256) (hf : f < b.n) (hx : x < 256) : b.alloc.tr f x = b.tr f x := by
  show (b.fl ++ List.replicate 256 0).getD (f * 256 + x) 0 = b.fl.getD (f * 256 + x) 0
  rw [List.getD_eq_getElem?_getD, List.getD_eq_getElem?_getD, List.getElem?_append_left (by rw [hfl]; omega)]
theorem alloc_di {b : Bd} {f : Nat} (hdl : b.dist.length = b.n) (hf : f < b.n) : b.alloc.di f = b.di f := by
  show (b.dist ++ [(false, 255)]).getD f _ = b.dist.getD f _
  rw [List.getD_eq_getElem?_getD, List.getD_eq_getElem?_getD, List.getElem?_append_left (by omega)]
theorem alloc_fl {b : Bd} (hfl : b.fl.length = b.n * 256) : b.alloc.fl.length = b.n * 256 + 256 := by
  show (b.fl ++ List.replicate 256 0).length = _
  rw [List.length_append, List.length_replicate, hfl]
theorem alloc_dl {b : Bd} (hdl : b.dist.length = b.n) : b.alloc.dist.length = b.n + 1 := by
  show (b.dist ++ [(false, 255)]).length = _
  rw [List.length_append, hdl]
  rfl
/-- A new state with one target. -/
theorem Sem.row {b : Bd} {L : List Role} {st : Nat → Inf} {m v s : Nat} {q : List Nat} (h : Sem b L st m) (hfl : b.fl.length = b.n * 256) (hq : Role.mid s q ∉ L) (hv : ∀ x, x < 256 → L[v]? = some (delta st (.mid s q) x)) :
    Sem (b.alloc.fill (b.n * 256) 256 v) (L ++ [.mid s q]) st m := by
  have ha := alloc_fl hfl
  refine h.app hq rfl (alloc_dl h.dl) (fun f hf => alloc_di h.dl hf) (fun f x hf hx => ?_) rfl (fun i hi => .inr ⟨iRole_mid _ _ _, rfl⟩) (fun s e => by cases e) (fun _ x hx => ?_)
  · rw [tr_fill (by omega), if_neg (by omega)]
    exact alloc_tr hfl hf hx
  · rw [tr_fill (by omega), if_pos (by omega)]
    exact hv x hx
theorem at_set {b : Bd} {i j x : Nat} (hi : i < b.idx.length) : (b.idx.set i x).getD j 0 = if i = j then x else b.at j := by
  unfold Bd.at
  rw [List.getD_eq_getElem?_getD, List.getD_eq_getElem?_getD, List.getElem?_set]
  split
  · simp [hi]
  · rfl
theorem Sem.fresh {b : Bd} {L : List Role} {st : Nat → Inf} {m i : Nat} (h : Sem b L st m) (hn : b.n < MAX32) (hi : i < b.idx.length) (hm : b.at i = MAX32) : iRole i ∉ L := by
  intro hmem
  obtain ⟨q, hq, e⟩ := List.getElem_of_mem hmem
  have := h.xi q i hi (by rw [List.getElem?_eq_getElem hq, e])
  have := h.ln
  omega
/-- The state of a number is there, or is made. -/
theorem Sem.goa {b : Bd} {L : List Role} {st : Nat → Inf} {m i : Nat} (h : Sem b L st m) (hfl : b.fl.length = b.n * 256) (hn : b.n < MAX32) (hi : i < b.idx.length) (hd : dn m (iRole i) → b.at i ≠ MAX32) :
    ∃ L', L <+: L' ∧ Sem (b.goa i).2 L' st m ∧ L'[(b.goa i).1]? = some (iRole i) ∧ ∀ s p, .mid s p ∈ L' → .mid s p ∈ L := by
  by_cases hm : b.at i = MAX32
  · have hnd : ¬ dn m (iRole i) := fun e => hd e hm
    have e : b.goa i = (b.n, { b.alloc with idx := b.idx.set i b.n }) := by unfold Bd.goa; rw [if_pos hm]
    rw [e]
    have h1 : Sem { b.alloc with idx := b.idx.set i b.n } (L ++ [iRole i]) st m := by
      refine h.app (h.fresh hn hi hm) rfl (alloc_dl h.dl) (fun f hf => alloc_di h.dl hf) (fun f x hf hx => alloc_tr hfl hf hx) (by simp) (fun j hj => ?_) (fun s e => ?_) (fun e => absurd e hnd)
      · show _ ∧ (b.idx.set i b.n).getD j 0 = _ ∨ _ ∧ (b.idx.set i b.n).getD j 0 = _
        rw [at_set hi]
        by_cases hij : i = j
        · subst hij
          exact .inl ⟨rfl, if_pos rfl⟩
        · exact .inr ⟨fun e => hij (iRole_inj e).symm, if_neg hij⟩
      · rw [e] at hnd
        exact Nat.le_of_not_lt hnd
    refine ⟨_, List.prefix_append _ _, h1, ?_, fun s p hp => ?_⟩
    · show (L ++ [iRole i])[b.n]? = _
      rw [← h.ln, List.getElem?_append_right (Nat.le_refl _)]
      simp
    · rcases List.mem_append.1 hp with hp | hp
      · exact hp
      · exact absurd (List.mem_singleton.1 hp).symm (iRole_mid _ _ _)
  · rw [goa_no hm]
    exact ⟨L, List.prefix_refl _, h, h.ix i hi hm, fun _ _ hp => hp⟩
theorem pre_get {L L' : List Role} (h : L <+: L') {f : Nat} {x : Role} (h1 : L[f]? = some x) : L'[f]? = some x := by
  obtain ⟨t, rfl⟩ := h
  rw [List.getElem?_append_left (List.getElem?_eq_some_iff.1 h1).1]
  exact h1
/-- The state of a number that waits for bytes is there, or is made, and is filled. -/
theorem Sem.goaP {b : Bd} {L : List Role} {st : Nat → Inf} {m d k v : Nat} (h : Sem b L st m) (hfl : b.fl.length = b.n * 256) (hn : b.n < MAX32) (hk : k + 1 ≤ 3) (hi : d * 4 + (k + 1) < b.idx.length) (hv : L[v]? = some (dr d k)) :
    ∃ L', L <+: L' ∧ Sem ((b.goa (d * 4 + (k + 1))).2.fill ((b.goa (d * 4 + (k + 1))).1 * 256) 256 v) L' st m ∧ L'[(b.goa (d * 4 + (k + 1))).1]? = some (dr d (k + 1)) ∧ ∀ s p, .mid s p ∈ L' → .mid s p ∈ L := by
  have hro := iRole4k (d := d) hk
  have hdr : dr d (k + 1) = .pred d (k + 1) := rfl
  rw [← hro]
  generalize hI : d * 4 + (k + 1) = i at *
  by_cases hm : b.at i = MAX32
  · have e : b.goa i = (b.n, { b.alloc with idx := b.idx.set i b.n }) := by unfold Bd.goa; rw [if_pos hm]
    rw [e]
    have ha := alloc_fl hfl
    have h1 : Sem (Bd.fill { b.alloc with idx := b.idx.set i b.n } (b.n * 256) 256 v) (L ++ [iRole i]) st m := by
      refine h.app (h.fresh hn hi hm) rfl (alloc_dl h.dl) (fun f hf => alloc_di h.dl hf) (fun f x hf hx => ?_) (by simp [Bd.fill]) (fun j hj => ?_) (fun s e => ?_) (fun e x hx => ?_)
      · rw [tr_fill (by show _ ≤ b.alloc.fl.length; omega), if_neg (by omega)]
        exact alloc_tr hfl hf hx
      · show _ ∧ (b.idx.set i b.n).getD j 0 = _ ∨ _ ∧ (b.idx.set i b.n).getD j 0 = _
        rw [at_set hi]
        by_cases hij : i = j
        · subst hij
          exact .inl ⟨rfl, if_pos rfl⟩
        · exact .inr ⟨fun e => hij (iRole_inj e).symm, if_neg hij⟩
      · rw [hro, hdr] at e
        cases e
      · rw [tr_fill (by show _ ≤ b.alloc.fl.length; omega), if_pos (by omega), hro, hdr]
        exact hv
    refine ⟨_, List.prefix_append _ _, h1, ?_, fun s p hp => ?_⟩
    · show (L ++ [iRole i])[b.n]? = _
      rw [← h.ln, List.getElem?_append_right (Nat.le_refl _)]
      simp
    · rcases List.mem_append.1 hp with hp | hp
      · exact hp
      · exact absurd (List.mem_singleton.1 hp).symm (iRole_mid _ _ _)
  · rw [goa_no hm]
    have hix := h.ix i hi hm
    refine ⟨L, List.prefix_refl _, h.fillA hfl hix (fun x hx => ?_), hix, fun _ _ hp => hp⟩
    rw [hro, hdr]
    exact hv
end Go.Proofs.Eng
