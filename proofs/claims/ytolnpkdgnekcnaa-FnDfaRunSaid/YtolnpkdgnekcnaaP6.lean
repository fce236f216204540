/- A part of the proof: what functions of the program do, step by step. -/
import Derived.Test.YtolnpkdgnekcnaaP5
import Derived.Deep.Slices
import Derived.ChangeArms
import Derived.ChangeShapes
import Derived.Below
set_option linter.unusedVariables false
set_option linter.unusedSimpArgs false
namespace Go.Proofs.Eng
open Go.RowKit Go.Deep Go.ChangeShapes
section
variable {H : Type} {enc : TypeId × Value → H} {P : Program} {w : World} {held : Bool}
theorem spot_of {a : Addr} {v : Value} (h : w.cell? (a.add 0) = some v) : ∃ b o, a = ⟨b, o, none⟩ ∧ b < w.heap.size := by
  obtain ⟨b, o, spot⟩ := a
  have hs : spot = none := by simpa [Addr.add] using World.cell?_spot h
  subst hs
  exact ⟨b, o, rfl, World.block_lt_of_cell? w _ h⟩
/-- A slice of whole numbers that comes in. -/
theorem open_nums {t e : TypeId} {k : IntKind} {d : DataW H} {p : List MemPlace} {A : Option Addr} {len cap : Nat} (ht : P.underlying t = some (.slice e)) (he : P.underlying e = some (.int k)) (hc : P.cellsOf e = 1)
    (h : DataW.Trod enc P w 0 (fun _ => true) held t (.slice A len cap) d p) : ∃ zs : List Int, zs.length = len ∧ len ≤ maxLen ∧ Rd w w.heap.size A (zs.map (Value.int k)) ∧ ∀ z ∈ zs, (Lit.int k z).wf = true := by
  obtain ⟨fuel, hf⟩ := h
  rcases open_ints ht he hc hf with ⟨hcs, _⟩ | ⟨a, l, c, zs, hcs, _, hl, hm, hz, _, hcell, hwz⟩
  · simp [Value.cells] at hcs
    obtain ⟨rfl, rfl, rfl⟩ := hcs
    exact ⟨[], rfl, Nat.zero_le _, .inl rfl, fun z hz => by cases hz⟩
  · simp [Value.cells] at hcs
    obtain ⟨rfl, rfl, rfl⟩ := hcs
    simp only [if_true] at hz
    refine ⟨zs.take len, by simp; omega, by omega, ?_, fun z hzm => hwz z (List.mem_of_mem_take hzm)⟩
    by_cases h0 : len = 0
    · subst h0; exact .inl (by simp)
    · obtain ⟨b, o, rfl, hb⟩ := spot_of (hcell 0 (by omega))
      refine .inr ⟨b, o, rfl, hb, fun j v hv => ?_⟩
      have hj : j < len := by
        have := (List.getElem?_eq_some_iff.1 hv).1
        simp at this
        omega
      have h1 := hcell j (by omega)
      rw [add_addr] at h1
      rw [h1, ← hv]
      simp [List.getElem?_take, hj, show j < zs.length by omega]
theorem encR_len (l : List Raw) : (encR l).length = l.length * 6 := by
  induction l with
  | nil => rfl
  | cons x r ih =>
    have e : encR (x :: r) = (rawCells x).toList ++ encR r := by simp [encR]
    rw [e, List.length_append, ih]
    simp [rawCells]
    omega
theorem encR_at (l : List Raw) (j : Nat) (h : j < l.length * 6) : (encR l)[j]? = (rawCells (l[j / 6]'(by omega))).toList[j % 6]? := by
  have hlt : j % 6 < (rawCells (l[j / 6]'(by omega))).toList.length := by
    show j % 6 < 6
    omega
  have := encR_get l (j / 6) (by omega) (j % 6) _ (List.getElem?_eq_getElem hlt)
  rw [show j / 6 * 6 + j % 6 = j by omega] at this
  rw [this, List.getElem?_eq_getElem hlt]
theorem take1 {cs : List Value} {i : Nat} {k : IntKind} {n : Int} (h : (cs.drop i).take 1 = [.int k n]) : cs[i]? = some (.int k n) := by
  have h0 : ((cs.drop i).take 1)[0]? = some (.int k n) := by rw [h]; rfl
  rw [List.getElem?_take, if_pos (by omega), List.getElem?_drop, Nat.add_zero] at h0
  exact h0
/-- One instruction that comes in. -/
theorem open_raw {e : TypeId} {fs : Array Field} {fuel : Nat} {cs : List Value} {x : DataW H × List MemPlace} (he : P.underlying e = some (.struct fs)) (hc : P.cellsOf e = 6)
    (hf : fs.toList.map (fun f => (f.offset, P.underlying f.type, P.cellsOf f.type)) = [(0, some (.int .i64), 1), (1, some (.int .u64), 1), (2, some (.int .u64), 1), (3, some (.int .u64), 1), (4, some (.int .u8), 1), (5, some (.int .u8), 1)])
    (h : DataW.trod enc P w 0 (fun _ => true) held fuel e cs = some x) : ∃ r : Raw, GoodRaw r ∧ cs = (rawCells r).toList := by
  obtain ⟨xs, n, _, _, hl, hxl, hx⟩ := DataW.trod_struct he h
  have hsz : fs.size = 6 := by have := congrArg List.length hf; simpa using this
  have field : ∀ (i : Nat) (k : IntKind), (fs.toList.map (fun f => (f.offset, P.underlying f.type, P.cellsOf f.type)))[i]? = some (i, some (.int k), 1) → ∃ z : Int, cs[i]? = some (.int k z) ∧ (Lit.int k z).wf = true := by
    intro i k hi
    rw [List.getElem?_map, Option.map_eq_some_iff] at hi
    obtain ⟨f, hfi, hfe⟩ := hi
    simp only [Prod.mk.injEq] at hfe
    obtain ⟨h1, h2, h3⟩ := hfe
    have hxi := hx i f (by simpa using hfi)
    have hlt : i < xs.length := by
      have := (List.getElem?_eq_some_iff.1 hfi).1
      simp at this
      omega
    rw [List.getElem?_eq_getElem hlt, h1, h3] at hxi
    obtain ⟨z, hz1, _, hz2⟩ := DataW.trod_int h2 hxi
    exact ⟨z, take1 hz1, hz2⟩
  rw [hf] at field
  obtain ⟨z0, a0, b0⟩ := field 0 _ rfl
  obtain ⟨z1, a1, b1⟩ := field 1 _ rfl
  obtain ⟨z2, a2, b2⟩ := field 2 _ rfl
  obtain ⟨z3, a3, b3⟩ := field 3 _ rfl
  obtain ⟨z4, a4, b4⟩ := field 4 _ rfl
  obtain ⟨z5, a5, b5⟩ := field 5 _ rfl
  simp [Lit.wf, IntKind.min, IntKind.max, IntKind.bits, IntKind.signed] at b0 b1 b2 b3 b4 b5
  refine ⟨⟨z0, z1.toNat, z2.toNat, z3.toNat, z4.toNat, z5.toNat⟩, ⟨by dsimp only; omega, by dsimp only; omega, by dsimp only; omega, by dsimp only; omega, by dsimp only; omega, by dsimp only; omega, by dsimp only; omega⟩, ?_⟩
  rw [hc] at hl
  have e1 : ((z1.toNat : Nat) : Int) = z1 := by omega
  have e2 : ((z2.toNat : Nat) : Int) = z2 := by omega
  have e3 : ((z3.toNat : Nat) : Int) = z3 := by omega
  have e4 : ((z4.toNat : Nat) : Int) = z4 := by omega
  have e5 : ((z5.toNat : Nat) : Int) = z5 := by omega
  simp only [rawCells, e1, e2, e3, e4, e5]
  apply List.ext_getElem?
  intro i
  match i with
  | 0 => exact a0
  | 1 => exact a1
  | 2 => exact a2
  | 3 => exact a3
  | 4 => exact a4
  | 5 => exact a5
  | i + 6 => rw [List.getElem?_eq_none (by omega)]; rfl
/-- A slice of instructions that comes in. -/
theorem open_raws {t e : TypeId} {fs : Array Field} {d : DataW H} {p : List MemPlace} {A : Option Addr} {len cap : Nat} (ht : P.underlying t = some (.slice e)) (he : P.underlying e = some (.struct fs)) (hc : P.cellsOf e = 6)
    (hf : fs.toList.map (fun f => (f.offset, P.underlying f.type, P.cellsOf f.type)) = [(0, some (.int .i64), 1), (1, some (.int .u64), 1), (2, some (.int .u64), 1), (3, some (.int .u64), 1), (4, some (.int .u8), 1), (5, some (.int .u8), 1)])
    (h : DataW.Trod enc P w 0 (fun _ => true) held t (.slice A len cap) d p) : ∃ raw : List Raw, raw.length = len ∧ len ≤ maxLen ∧ Rd w w.heap.size A (encR raw) ∧ ∀ r ∈ raw, GoodRaw r := by
  obtain ⟨fuel, hfu⟩ := h
  rcases open_slice ht hfu with ⟨hcs, _⟩ | ⟨a, l, c, m, n, D, Pl, hcs, _, hl, hm, hmm, _, hx⟩
  · simp [Value.cells] at hcs
    obtain ⟨rfl, rfl, rfl⟩ := hcs
    exact ⟨[], rfl, Nat.zero_le _, .inl rfl, fun z hz => by cases hz⟩
  · simp [Value.cells] at hcs
    obtain ⟨rfl, rfl, rfl⟩ := hcs
    simp only [if_true] at hmm
    subst hmm
    have hall : ∀ i, i < len → ∃ r : Raw, GoodRaw r ∧ ∀ j, j < 6 → w.cell? (a.add (i * 6 + j)) = (rawCells r).toList[j]? := by
      intro i hi
      obtain ⟨cs', h1, h2⟩ := hx i (by omega)
      obtain ⟨r, hr, rfl⟩ := open_raw he hc hf h2
      rw [hc] at h1
      obtain ⟨_, _, h3⟩ := World.cells?_some h1
      exact ⟨r, hr, fun j hj => by rw [← h3 j hj, add_add]⟩
    haveI : Inhabited Raw := ⟨⟨0, 0, 0, 0, 0, 0⟩⟩
    obtain ⟨f, hfx⟩ := choose_lt hall
    refine ⟨(List.range len).map f, by simp, by omega, ?_, ?_⟩
    · by_cases h0 : len = 0
      · subst h0; exact .inl rfl
      · have hc0 := (hfx 0 (by omega)).2 0 (by omega)
        obtain ⟨b, o, rfl, hb⟩ := spot_of (v := .int .i64 (f 0).op) (show w.cell? (a.add (0 * 6 + 0)) = _ by rw [hc0]; rfl)
        refine .inr ⟨b, o, rfl, hb, fun j v hv => ?_⟩
        have hj : j < len * 6 := by
          have := (List.getElem?_eq_some_iff.1 hv).1
          rw [encR_len] at this
          simpa using this
        rw [encR_at _ _ (by simpa using hj)] at hv
        have h1 := (hfx (j / 6) (by omega)).2 (j % 6) (by omega)
        rw [show j / 6 * 6 + j % 6 = j by omega, add_addr] at h1
        rw [h1, ← hv]
        simp
    · intro r hr
      obtain ⟨i, hi, rfl⟩ := List.mem_map.1 hr
      exact (hfx i (by simpa using hi)).1
end
/-- The numbers as naturals. -/
theorem nats_of (zs : List Int) (h : ∀ z ∈ zs, (Lit.int .u64 z).wf = true) : ∃ xs : List Nat, xs.length = zs.length ∧ zs.map (Value.int .u64) = nv xs ∧ ∀ x ∈ xs, x < 18446744073709551616 := by
  refine ⟨zs.map Int.toNat, by simp, ?_, ?_⟩
  · simp only [nv, List.map_map]
    apply List.map_congr_left
    intro z hz
    have := h z hz
    simp [Lit.wf, IntKind.min, IntKind.max, IntKind.bits, IntKind.signed] at this
    simp
    omega
  · intro x hx
    obtain ⟨z, hz, rfl⟩ := List.mem_map.1 hx
    have := h z hz
    simp [Lit.wf, IntKind.min, IntKind.max, IntKind.bits, IntKind.signed] at this
    omega
end Go.Proofs.Eng
