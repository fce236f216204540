/- A part of the proof: what functions of the program do, step by step. -/
import Derived.Test.YtiadbheejlhimaaXi
import Derived.Test.YtiadbheejlhimaaXh
set_option linter.unusedVariables false
set_option linter.unusedSimpArgs false
namespace Go.Proofs.Eng
section
variable {md : Nat} {dam : Bool} {V : Nat → Nat → Bool}
/-- What the places behind some letters tell. -/
structure InvP (md : Nat) (dam : Bool) (V : Nat → Nat → Bool) (i : Nat) (S : List NS) : Prop where
  snd : ∀ s ∈ S, Dd dam V i s.o ≤ s.d ∧ s.d ≤ md ∧ (s.t = true → ∃ i', i = i' + 1 ∧ dam = true ∧ Dd dam V i' s.o + 1 ≤ s.d ∧ V i' (s.o + 1) = true)
  cmp : ∀ k, Dd dam V i k ≤ md → ∃ s ∈ S, s.d + ad s.o k ≤ Dd dam V i k
  tr : ∀ i' k, i = i' + 1 → dam = true → V i' (k + 1) = true → Dd dam V i' k + 1 ≤ md → (∀ o, o ≠ k → Dd dam V i' k < Dd dam V i' o + ad o k) →
    ∃ s ∈ S, (s.t = true ∧ s.o = k ∧ s.d ≤ Dd dam V i' k + 1) ∨ s.d + ad s.o k ≤ Dd dam V i' k
theorem InvP.zero (md : Nat) (dam : Bool) (V : Nat → Nat → Bool) : InvP md dam V 0 [⟨0, 0, false⟩] := by
  refine ⟨fun s hs => ?_, fun k hk => ⟨_, List.mem_singleton.2 rfl, ?_⟩, fun i' k h => by omega⟩
  · rw [List.mem_singleton.1 hs]
    exact ⟨by rw [D_0]; exact Nat.le_refl _, Nat.zero_le _, fun h => by cases h⟩
  · rw [D_0]; unfold ad; dsimp only; omega
theorem cov_of {S : List NS} {c : NS} (h : cov S c) (hc : c.t = false) : ∃ s ∈ S, s.d + ad s.o c.o ≤ c.d := by
  obtain ⟨s, hs, h2⟩ := h
  rw [imply_iff] at h2
  refine ⟨s, hs, ?_⟩
  rcases h2 with ⟨_, h⟩ | ⟨_, h, _⟩
  · exact h
  · rw [hc] at h; cases h
theorem transF_cov {scv : Nat} : ∀ (l acc : List NS) (c : NS), cov acc c → cov (l.foldl (fun acc s => simpT md dam s (cvN md scv s.o) acc) acc) c
  | [], _, _, h => h
  | s :: l, acc, c, h => transF_cov l _ c (simpT_cov h)
theorem transF_one {scv : Nat} {c : NS} : ∀ (l acc : List NS) (s : NS), s ∈ l → (∀ acc, cov (simpT md dam s (cvN md scv s.o) acc) c) → cov (l.foldl (fun acc s => simpT md dam s (cvN md scv s.o) acc) acc) c
  | [], _, _, hs, _ => by cases hs
  | y :: l, acc, s, hs, h => by
    rcases List.mem_cons.1 hs with rfl | hs
    · exact transF_cov l _ c (h acc)
    · exact transF_one l _ s hs h
theorem transF_all {scv : Nat} {Q : NS → Prop} : ∀ (l acc : List NS), (∀ y ∈ acc, Q y) → (∀ s ∈ l, ∀ acc : List NS, (∀ y ∈ acc, Q y) → ∀ y ∈ simpT md dam s (cvN md scv s.o) acc, Q y) → ∀ y ∈ l.foldl (fun acc s => simpT md dam s (cvN md scv s.o) acc) acc, Q y
  | [], _, h, _ => h
  | s :: l, acc, h, hs => transF_all l _ (hs s (.head _) acc h) (fun y hy => hs y (.tail _ hy))
theorem step_one {scv : Nat} {S : List NS} {c s : NS} (hs : s ∈ S) (h : ∀ acc, cov (simpT md dam s (cvN md scv s.o) acc) c) : cov (stepP md dam scv S) c := by
  obtain ⟨y, hy, h2⟩ := transF_one S [] s hs h
  exact ⟨y, nsSort_mem.2 hy, h2⟩
theorem step_all {scv : Nat} {S : List NS} {Q : NS → Prop} (h : ∀ s ∈ S, ∀ acc : List NS, (∀ y ∈ acc, Q y) → ∀ y ∈ simpT md dam s (cvN md scv s.o) acc, Q y) : ∀ y ∈ stepP md dam scv S, Q y := fun y hy => transF_all S [] (by simp) h y (nsSort_mem.1 hy)
theorem InvP.step {i scv : Nat} {S : List NS} (h : InvP md dam V i S) (hV : ∀ k, V i k = bitN scv k) : InvP md dam V (i + 1) (stepP md dam scv S) := by
  have hbit : ∀ (o d : Nat), d ≤ 2 * md → bitN (cvN md scv o) d = V i (o + d) := fun o d hd => by rw [cvN_bit hd, hV]
  have hsnd : ∀ s ∈ stepP md dam scv S, Dd dam V (i + 1) s.o ≤ s.d ∧ s.d ≤ md ∧ (s.t = true → ∃ i', i + 1 = i' + 1 ∧ dam = true ∧ Dd dam V i' s.o + 1 ≤ s.d ∧ V i' (s.o + 1) = true) := by
    refine step_all (fun s hs acc hacc => ?_)
    obtain ⟨k1, k2, k3⟩ := h.snd s hs
    refine simpT_all hacc (fun hlt => ⟨?_, by dsimp only; omega, fun e => by cases e⟩) (fun hlt => ⟨?_, by dsimp only; omega, fun e => by cases e⟩) (fun m h1 h2 h3 => ⟨?_, by dsimp only; omega, fun e => by cases e⟩) (fun hlt hd hb => ⟨?_, by dsimp only; omega, fun _ => ⟨i, rfl, hd, by dsimp only; omega, ?_⟩⟩) (fun hb => ⟨?_, k2, fun e => by cases e⟩) (fun ht hb => ⟨?_, k2, fun e => by cases e⟩)
    · have := D_ins (sw := dam) (V := V) i s.o
      dsimp only
      omega
    · have := D_sub (sw := dam) (V := V) i s.o
      dsimp only
      omega
    · rw [hbit _ _ (by omega)] at h3
      have e1 := D_match (sw := dam) h3
      have e2 := D_lip' (sw := dam) (V := V) i (s.o + m) s.o
      have e3 : ad s.o (s.o + m) = m := by unfold ad; omega
      rw [e3] at e2
      dsimp only
      rw [show s.o + 1 + m = s.o + m + 1 by omega]
      omega
    · have := D_ins (sw := dam) (V := V) i s.o
      dsimp only
      omega
    · rw [hbit _ _ (by omega)] at hb
      exact hb
    · rw [hbit _ _ (by omega), Nat.add_zero] at hb
      have := D_match (sw := dam) hb
      dsimp only
      omega
    · rw [hbit _ _ (by omega), Nat.add_zero] at hb
      obtain ⟨i', rfl, hd, e1, e2⟩ := k3 ht
      have : Dd dam V (i' + 1 + 1) (s.o + 2) ≤ Dd dam V i' s.o + 1 := D_trans (sw := dam) hd hb e2
      dsimp only
      omega
  -- what covers a place that is met by a letter
  have hmatch : ∀ k m, m ≤ md → V i k = true → (∃ s ∈ S, s.d + ad s.o k ≤ m) → ∃ s ∈ stepP md dam scv S, s.d + ad s.o (k + 1) ≤ m := by
    rintro k m hm hv ⟨s, hs, hc⟩
    rcases Nat.lt_trichotomy s.o k with hlt | heq | hgt
    · have ha : ad s.o k = k - s.o := by unfold ad; omega
      rw [ha] at hc
      have hb : bitN (cvN md scv s.o) (k - s.o) = true := by
        rw [hbit _ _ (by omega), show s.o + (k - s.o) = k by omega]
        exact hv
      obtain ⟨y, hy, hyc⟩ := cov_of (step_one hs (fun acc => simpT_del (dam := dam) hb (by omega) (by omega))) rfl
      refine ⟨y, hy, ?_⟩
      dsimp only at hyc
      rw [show s.o + 1 + (k - s.o) = k + 1 by omega] at hyc
      omega
    · subst heq
      have hb : bitN (cvN md scv s.o) 0 = true := by rw [hbit _ _ (by omega)]; exact hv
      obtain ⟨y, hy, hyc⟩ := cov_of (step_one hs (fun acc => simpT_match (md := md) (dam := dam) hb)) rfl
      refine ⟨y, hy, ?_⟩
      dsimp only at hyc
      omega
    · have ha : ad s.o k = s.o - k := by unfold ad; omega
      rw [ha] at hc
      obtain ⟨y, hy, hyc⟩ := cov_of (step_one hs (fun acc => simpT_ins (md := md) (dam := dam) (by omega))) rfl
      refine ⟨y, hy, ?_⟩
      dsimp only at hyc
      have := ad_tri y.o s.o (k + 1)
      have e2 : ad s.o (k + 1) = s.o - k - 1 := by unfold ad; omega
      omega
  have hins : ∀ k m, m + 1 ≤ md → (∃ s ∈ S, s.d + ad s.o k ≤ m) → ∃ s ∈ stepP md dam scv S, s.d + ad s.o k ≤ m + 1 := by
    rintro k m hm ⟨s, hs, hc⟩
    obtain ⟨y, hy, hyc⟩ := cov_of (step_one hs (fun acc => simpT_ins (md := md) (dam := dam) (by omega))) rfl
    refine ⟨y, hy, ?_⟩
    dsimp only at hyc
    have := ad_tri y.o s.o k
    omega
  have hsub : ∀ k m, m + 1 ≤ md → (∃ s ∈ S, s.d + ad s.o k ≤ m) → ∃ s ∈ stepP md dam scv S, s.d + ad s.o (k + 1) ≤ m + 1 := by
    rintro k m hm ⟨s, hs, hc⟩
    obtain ⟨y, hy, hyc⟩ := cov_of (step_one hs (fun acc => simpT_sub (md := md) (dam := dam) (by omega))) rfl
    refine ⟨y, hy, ?_⟩
    dsimp only at hyc
    have := ad_tri y.o (s.o + 1) (k + 1)
    have e2 : ad (s.o + 1) (k + 1) = ad s.o k := by unfold ad; omega
    omega
  have hcmp : ∀ k, Dd dam V (i + 1) k ≤ md → ∃ s ∈ stepP md dam scv S, s.d + ad s.o k ≤ Dd dam V (i + 1) k := by
    intro k
    induction k with
    | zero =>
      intro hk
      have e : Dd dam V (i + 1) 0 = Dd dam V i 0 + 1 := by
        rw [D_10]
        cases i with
        | zero => rw [D_0]
        | succ i => rw [D_10]
      rw [e] at hk ⊢
      exact hins 0 _ hk (h.cmp 0 (by omega))
    | succ k ih =>
      intro hk
      -- the ways without a swap
      have easy : ∀ m, m ≤ md → (Dd dam V i (k + 1) + 1 ≤ m ∨ Dd dam V (i + 1) k + 1 ≤ m ∨ (V i k = true ∧ Dd dam V i k ≤ m) ∨ Dd dam V i k + 1 ≤ m) → ∃ s ∈ stepP md dam scv S, s.d + ad s.o (k + 1) ≤ m := by
        intro m hm hw
        rcases hw with e | e | ⟨hv, e⟩ | e
        · obtain ⟨s, hs, hc⟩ := hins (k + 1) _ (by omega) (h.cmp (k + 1) (by omega))
          exact ⟨s, hs, by omega⟩
        · obtain ⟨s, hs, hc⟩ := ih (by omega)
          refine ⟨s, hs, ?_⟩
          have := ad_tri s.o k (k + 1)
          have e2 : ad k (k + 1) = 1 := by unfold ad; omega
          omega
        · obtain ⟨s, hs, hc⟩ := hmatch k _ (by omega) hv (h.cmp k (by omega))
          exact ⟨s, hs, by omega⟩
        · obtain ⟨s, hs, hc⟩ := hsub k _ (by omega) (h.cmp k (by omega))
          exact ⟨s, hs, by omega⟩
      rcases D_att (sw := dam) (V := V) i k with e | e | ⟨hv, e⟩ | e | ⟨i', k', rfl, rfl, hd, hv1, hv2, e⟩
      · exact easy _ hk (.inl (by omega))
      · exact easy _ hk (.inr (.inl (by omega)))
      · exact easy _ hk (.inr (.inr (.inl ⟨hv, by omega⟩)))
      · exact easy _ hk (.inr (.inr (.inr (by omega))))
      · rw [e] at hk ⊢
        by_cases hess : ∀ o, o ≠ k' → Dd dam V i' k' < Dd dam V i' o + ad o k'
        · obtain ⟨s, hs, hc⟩ := h.tr i' k' rfl hd hv2 hk hess
          rcases hc with ⟨ht, ho, hsd⟩ | hc
          · have hb : bitN (cvN md scv s.o) 0 = true := by rw [hbit _ _ (by omega), ho]; exact hv1
            obtain ⟨y, hy, hyc⟩ := cov_of (step_one hs (fun acc => simpT_trans (md := md) (dam := dam) ht hb)) rfl
            refine ⟨y, hy, ?_⟩
            dsimp only at hyc
            rw [ho] at hyc
            change y.d + ad y.o (k' + 1 + 1) ≤ s.d at hyc
            omega
          · obtain ⟨y, hy, hyc⟩ := hmatch k' _ (by omega) hv1 ⟨s, hs, hc⟩
            refine ⟨y, hy, ?_⟩
            have := ad_tri y.o (k' + 1) (k' + 1 + 1)
            have e2 : ad (k' + 1) (k' + 1 + 1) = 1 := by unfold ad; omega
            omega
        · obtain ⟨o, ho⟩ := Classical.not_forall.1 hess
          obtain ⟨hne, hle⟩ := Classical.not_imp.1 ho
          have hle : Dd dam V i' o + ad o k' ≤ Dd dam V i' k' := Nat.le_of_not_lt hle
          rcases Nat.lt_or_ge o k' with hlt | hge
          · obtain ⟨q, rfl⟩ : ∃ q, k' = q + 1 := ⟨k' - 1, by omega⟩
            have e1 := D_lip' (sw := dam) (V := V) i' q o
            have e2 : ad o (q + 1) = ad o q + 1 := by unfold ad; omega
            have e3 := D_sub (sw := dam) (V := V) i' q
            have e4 := D_match (sw := dam) (V := V) (i := i' + 1) hv1
            exact easy _ hk (.inr (.inl (by omega)))
          · have e1 := D_lip' (sw := dam) (V := V) i' (k' + 1) o
            have e2 : ad o k' = ad o (k' + 1) + 1 := by unfold ad; omega
            have e3 := D_match (sw := dam) (V := V) (i := i') hv2
            exact easy _ hk (.inl (by omega))
  refine ⟨hsnd, hcmp, ?_⟩
  intro i' k hi hd hv hm hess
  obtain rfl : i = i' := by omega
  obtain ⟨s, hs, hc⟩ := h.cmp k (by omega)
  have hs1 := (h.snd s hs).1
  have ho : s.o = k := by
    apply Classical.byContradiction
    intro hne
    have := hess s.o hne
    omega
  have ha : ad s.o k = 0 := by unfold ad; omega
  have hb : bitN (cvN md scv s.o) 1 = true := by rw [hbit _ _ (by omega), ho]; exact hv
  obtain ⟨y, hy, hyc⟩ := step_one hs (fun acc => simpT_tr (md := md) (by omega) hd hb)
  rw [imply_iff] at hyc
  dsimp only at hyc
  refine ⟨y, hy, ?_⟩
  rw [ho] at hyc
  rcases hyc with ⟨h1 | h1, h2⟩ | ⟨_, _, h2⟩
  · by_cases hyo : y.o = k
    · exact .inl ⟨h1, hyo, by omega⟩
    · exfalso
      obtain ⟨_, _, k3⟩ := hsnd y hy
      obtain ⟨i2, e1, _, e3, _⟩ := k3 h1
      obtain rfl : i = i2 := by omega
      have := hess y.o hyo
      omega
  · cases h1
  · exact .inr (by omega)
theorem InvP.walk (md : Nat) (dam : Bool) (v : List Nat) : ∀ i, i ≤ v.length → InvP md dam (fun i k => bitN (v.getD i 0) k) i (wk md dam v i)
  | 0, _ => InvP.zero md dam _
  | i + 1, h => by
    have ih := InvP.walk md dam v i (by omega)
    rw [wk_succ (by omega)]
    refine ih.step (fun k => ?_)
    rw [List.getD_eq_getElem?_getD, List.getElem?_eq_getElem (by omega)]
    rfl
/-- The least of what places tell of a query with so many letters; at most m. -/
def leastP (m len : Nat) (S : List NS) : Nat := S.foldl (fun a s => min a (s.d + ad s.o len)) m
theorem leastP_le (len : Nat) : ∀ (S : List NS) (m : Nat), leastP m len S ≤ m ∧ ∀ s ∈ S, leastP m len S ≤ s.d + ad s.o len
  | [], m => ⟨Nat.le_refl _, fun s hs => by cases hs⟩
  | s :: S, m => by
    have h := leastP_le len S (min m (s.d + ad s.o len))
    refine ⟨Nat.le_trans h.1 (Nat.min_le_left _ _), fun y hy => ?_⟩
    rcases List.mem_cons.1 hy with rfl | hy
    · exact Nat.le_trans h.1 (Nat.min_le_right _ _)
    · exact h.2 y hy
theorem leastP_at (len : Nat) : ∀ (S : List NS) (m : Nat), leastP m len S = m ∨ ∃ s ∈ S, leastP m len S = s.d + ad s.o len
  | [], m => .inl rfl
  | s :: S, m => by
    rcases leastP_at len S (min m (s.d + ad s.o len)) with h | ⟨y, hy, h⟩
    · rcases Nat.le_total m (s.d + ad s.o len) with e | e
      · exact .inl (by show leastP _ _ S = m; rw [h, Nat.min_eq_left e])
      · exact .inr ⟨s, .head _, by show leastP _ _ S = _; rw [h, Nat.min_eq_right e]⟩
    · exact .inr ⟨y, .tail _ hy, h⟩
theorem InvP.least {i : Nat} {S : List NS} (h : InvP md dam V i S) (len : Nat) : leastP (md + 1) len S = min (Dd dam V i len) (md + 1) := by
  obtain ⟨h1, h2⟩ := leastP_le len S (md + 1)
  have lo : min (Dd dam V i len) (md + 1) ≤ leastP (md + 1) len S := by
    rcases leastP_at len S (md + 1) with e | ⟨s, hs, e⟩
    · omega
    · have k1 := (h.snd s hs).1
      have k2 := D_lip' (sw := dam) (V := V) i len s.o
      omega
  by_cases hd : Dd dam V i len ≤ md
  · obtain ⟨s, hs, hc⟩ := h.cmp len hd
    have := h2 s hs
    omega
  · omega
end
end Go.Proofs.Eng
