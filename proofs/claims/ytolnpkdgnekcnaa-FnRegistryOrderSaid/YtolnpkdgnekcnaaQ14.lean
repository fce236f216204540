/- A part of the proof: what functions of the program do, step by step. -/
import Derived.Test.YtolnpkdgnekcnaaQ1
import Derived.Deep.Slices
import Derived.ChangeArms
import Derived.ChangeShapes
import Derived.Below
set_option linter.unusedVariables false
set_option linter.unusedSimpArgs false
namespace Go.Proofs.Eng
open Go.RowKit Go.Deep Go.ChangeShapes
section
variable {H : Type} {enc : TypeId × Value → H} {P : Program} {w : World} {held : Bool}
theorem spotQ {a : Addr} {v : Value} (h : w.cell? (a.add 0) = some v) : ∃ b o, a = ⟨b, o, none⟩ ∧ b < w.heap.size := by
  obtain ⟨b, o, spot⟩ := a
  have hs : spot = none := by simpa [Addr.add] using World.cell?_spot h
  subst hs
  exact ⟨b, o, rfl, World.block_lt_of_cell? w _ h⟩
theorem flat_at {α : Type} (f : α → List Value) (k : Nat) (hk : ∀ x, (f x).length = k) (h0 : 0 < k) (l : List α) (j : Nat) (h : j < l.length * k) : (l.flatMap f)[j]? = (f (l[j / k]'((Nat.div_lt_iff_lt_mul h0).2 h)))[j % k]? := by
  have hm : j % k < (f (l[j / k]'((Nat.div_lt_iff_lt_mul h0).2 h))).length := by rw [hk]; exact Nat.mod_lt _ h0
  have := flat_get f k hk l (j / k) ((Nat.div_lt_iff_lt_mul h0).2 h) (j % k) _ (List.getElem?_eq_getElem hm)
  rw [show j / k * k + j % k = j by rw [Nat.mul_comm]; exact Nat.div_add_mod j k] at this
  rw [this, List.getElem?_eq_getElem hm]
theorem takeQ {cs : List Value} {i : Nat} {v : Value} (h : (cs.drop i).take 1 = [v]) : cs[i]? = some v := by
  have h0 : ((cs.drop i).take 1)[0]? = some v := by rw [h]; rfl
  rw [List.getElem?_take, if_pos (by omega), List.getElem?_drop, Nat.add_zero] at h0
  exact h0
/-- A slice that comes in, of elements of k cells each. -/
theorem open_list {α : Type} [Inhabited α] {t e : TypeId} {k : Nat} (f : α → List Value) (hk : ∀ x, (f x).length = k) (Good : α → Prop) (h0 : 0 < k) (ht : P.underlying t = some (.slice e)) (hc : P.cellsOf e = k)
    (hel : ∀ fuel cs x, DataW.trod enc P w 0 (fun _ => true) held fuel e cs = some x → ∃ r, Good r ∧ cs = f r) {fuel : Nat} {cs : List Value} {x : DataW H × List MemPlace}
    (h : DataW.trod enc P w 0 (fun _ => true) held fuel t cs = some x) : ∃ (A : Option Addr) (len cap : Nat) (raw : List α), cs = [.slice A len cap] ∧ raw.length = len ∧ len ≤ maxLen ∧ Rd w w.heap.size A (raw.flatMap f) ∧ ∀ r ∈ raw, Good r := by
  rcases open_slice ht h with ⟨rfl, _⟩ | ⟨a, l, c, m, n, D, Pl, rfl, _, hl, hm, hmm, _, hx⟩
  · exact ⟨none, 0, 0, [], rfl, rfl, Nat.zero_le _, .inl rfl, fun z hz => by cases hz⟩
  · simp only [if_true] at hmm
    subst hmm
    have hall : ∀ i, i < l → ∃ r : α, Good r ∧ ∀ j, j < k → w.cell? (a.add (i * k + j)) = (f r)[j]? := by
      intro i hi
      obtain ⟨cs', h1, h2⟩ := hx i (by omega)
      obtain ⟨r, hr, rfl⟩ := hel _ _ _ h2
      rw [hc] at h1
      obtain ⟨_, _, h3⟩ := World.cells?_some h1
      exact ⟨r, hr, fun j hj => by rw [← h3 j hj, add_add]⟩
    obtain ⟨g, hgx⟩ := choose_lt hall
    refine ⟨some a, l, _, (List.range l).map g, rfl, by simp, by omega, ?_, ?_⟩
    · by_cases hl0 : l = 0
      · subst hl0; exact .inl rfl
      · have hc0 := (hgx 0 (by omega)).2 0 h0
        have hlt : 0 < (f (g 0)).length := by rw [hk]; exact h0
        rw [List.getElem?_eq_getElem hlt, Nat.zero_mul, Nat.zero_add] at hc0
        obtain ⟨b, o, rfl, hb⟩ := spotQ hc0
        refine .inr ⟨b, o, rfl, hb, fun j v hv => ?_⟩
        have hj : j < l * k := by
          have := (List.getElem?_eq_some_iff.1 hv).1
          rw [flat_len f k hk] at this
          simpa using this
        rw [flat_at f k hk h0 _ j (by simpa using hj)] at hv
        have h1 := (hgx (j / k) ((Nat.div_lt_iff_lt_mul h0).2 hj)).2 (j % k) (Nat.mod_lt _ h0)
        rw [show j / k * k + j % k = j by rw [Nat.mul_comm]; exact Nat.div_add_mod j k, add_addr] at h1
        rw [h1, ← hv]
        simp
    · intro r hr
      obtain ⟨i, hi, rfl⟩ := List.mem_map.1 hr
      exact (hgx i (by simpa using hi)).1
theorem open_arc {e : TypeId} {fs : Array Field} {fuel : Nat} {cs : List Value} {x : DataW H × List MemPlace} (he : P.underlying e = some (.struct fs)) (hc : P.cellsOf e = 3)
    (hf : fs.toList.map (fun f => (f.offset, P.underlying f.type, P.cellsOf f.type)) = [(0, some (.int .u8), 1), (1, some (.int .u64), 1), (2, some (.int .i64), 1)])
    (h : DataW.trod enc P w 0 (fun _ => true) held fuel e cs = some x) : ∃ r : Arc, True ∧ cs = arcA r := by
  obtain ⟨xs, n, _, _, hl, hxl, hx⟩ := DataW.trod_struct he h
  have hsz : fs.size = 3 := by have := congrArg List.length hf; simpa using this
  have field : ∀ (i : Nat) (k : IntKind), (fs.toList.map (fun f => (f.offset, P.underlying f.type, P.cellsOf f.type)))[i]? = some (i, some (.int k), 1) → ∃ z : Int, cs[i]? = some (.int k z) ∧ (Lit.int k z).wf = true := by
    intro i k hi
    rw [List.getElem?_map, Option.map_eq_some_iff] at hi
    obtain ⟨f, hfi, hfe⟩ := hi
    simp only [Prod.mk.injEq] at hfe
    obtain ⟨h1, h2, h3⟩ := hfe
    have hxi := hx i f (by simpa using hfi)
    have hlt : i < xs.length := by
      have := (List.getElem?_eq_some_iff.1 hfi).1
      simp at this
      omega
    rw [List.getElem?_eq_getElem hlt, h1, h3] at hxi
    obtain ⟨z, hz1, _, hz2⟩ := DataW.trod_int h2 hxi
    exact ⟨z, takeQ hz1, hz2⟩
  rw [hf] at field
  obtain ⟨z0, a0, b0⟩ := field 0 _ rfl
  obtain ⟨z1, a1, b1⟩ := field 1 _ rfl
  obtain ⟨z2, a2, b2⟩ := field 2 _ rfl
  simp [Lit.wf, IntKind.min, IntKind.max, IntKind.bits, IntKind.signed] at b0 b1
  refine ⟨⟨z0.toNat, z1.toNat, z2⟩, trivial, ?_⟩
  rw [hc] at hl
  have e0 : ((z0.toNat : Nat) : Int) = z0 := by omega
  have e1 : ((z1.toNat : Nat) : Int) = z1 := by omega
  simp only [arcA, e0, e1]
  apply List.ext_getElem?
  intro i
  match i with
  | 0 => exact a0
  | 1 => exact a1
  | 2 => exact a2
  | i + 3 => rw [List.getElem?_eq_none (by omega)]; rfl
instance : Inhabited Arc := ⟨⟨0, 0, 0⟩⟩
instance : Inhabited StM := ⟨⟨⟨false, 0, []⟩, none, 0⟩⟩
theorem open_st {e e2 : TypeId} {fs : Array Field} {fs2 : Array Field} {fuel : Nat} {cs : List Value} {x : DataW H × List MemPlace} (he : P.underlying e = some (.struct fs)) (hc : P.cellsOf e = 3)
    (hf : fs.toList.map (fun f => (f.offset, P.underlying f.type, P.cellsOf f.type)) = [(0, some .bool, 1), (1, some (.int .u64), 1), (2, some (.slice e2), 1)])
    (he2 : P.underlying e2 = some (.struct fs2)) (hc2 : P.cellsOf e2 = 3)
    (hf2 : fs2.toList.map (fun f => (f.offset, P.underlying f.type, P.cellsOf f.type)) = [(0, some (.int .u8), 1), (1, some (.int .u64), 1), (2, some (.int .i64), 1)])
    (h : DataW.trod enc P w 0 (fun _ => true) held fuel e cs = some x) : ∃ r : StM, Rd w w.heap.size r.A (encA r.st.arcs) ∧ cs = stV r := by
  obtain ⟨xs, n, _, _, hl, hxl, hx⟩ := DataW.trod_struct he h
  have hsz : fs.size = 3 := by have := congrArg List.length hf; simpa using this
  have field : ∀ (i : Nat) T, (fs.toList.map (fun f => (f.offset, P.underlying f.type, P.cellsOf f.type)))[i]? = some (i, T, 1) → ∃ ft y, P.underlying ft = T ∧ DataW.trod enc P w 0 (fun _ => true) held n ft ((cs.drop i).take 1) = some y := by
    intro i T hi
    rw [List.getElem?_map, Option.map_eq_some_iff] at hi
    obtain ⟨f, hfi, hfe⟩ := hi
    simp only [Prod.mk.injEq] at hfe
    obtain ⟨h1, h2, h3⟩ := hfe
    have hxi := hx i f (by simpa using hfi)
    have hlt : i < xs.length := by
      have := (List.getElem?_eq_some_iff.1 hfi).1
      simp at this
      omega
    rw [List.getElem?_eq_getElem hlt, h1, h3] at hxi
    exact ⟨_, _, h2, hxi⟩
  rw [hf] at field
  obtain ⟨t0, y0, u0, g0⟩ := field 0 _ rfl
  obtain ⟨t1, y1, u1, g1⟩ := field 1 _ rfl
  obtain ⟨t3, y2, u2, g2⟩ := field 2 _ rfl
  obtain ⟨z0, a0, _⟩ := DataW.trod_bool u0 g0
  obtain ⟨z1, a1, _, b1⟩ := DataW.trod_int u1 g1
  obtain ⟨A, len, cap, raw, a2, hl2, _, hr2, _⟩ := open_list (α := Arc) arcA (fun _ => rfl) (fun _ => True) (by omega) u2 hc2 (fun fuel cs x h => open_arc he2 hc2 hf2 h) g2
  simp [Lit.wf, IntKind.min, IntKind.max, IntKind.bits, IntKind.signed] at b1
  refine ⟨⟨⟨z0, z1.toNat, raw⟩, A, cap⟩, hr2, ?_⟩
  rw [hc] at hl
  have e1 : ((z1.toNat : Nat) : Int) = z1 := by omega
  simp only [stV, e1, hl2]
  apply List.ext_getElem?
  intro i
  match i with
  | 0 => exact takeQ a0
  | 1 => exact takeQ a1
  | 2 => exact takeQ a2
  | i + 3 => rw [List.getElem?_eq_none (by omega)]; rfl
end
end Go.Proofs.Eng
