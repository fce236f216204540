/- A part of the proof: what functions of the program do, step by step. -/
import Derived.Test.YtiadbheejlhimaaWa
import Derived.Deep.Slices
import Derived.ChangeArms
import Derived.ChangeShapes
import Derived.ChangeMaps5
import Derived.Below
set_option linter.unusedVariables false
set_option linter.unusedSimpArgs false
namespace Go.Proofs.Eng
open Go.RowKit Go.Deep Go.ChangeShapes
instance : Inhabited LArc := ⟨⟨0, 0⟩⟩
instance : Inhabited LStM := ⟨⟨⟨0, [], 0, false⟩, none, 0⟩⟩
section
variable {H : Type} {enc : TypeId × Value → H} {P : Program} {w : World} {held : Bool}
theorem open_lar {e : TypeId} {fs : Array Field} {fuel : Nat} {cs : List Value} {x : DataW H × List MemPlace} (he : P.underlying e = some (.struct fs)) (hc : P.cellsOf e = 2)
    (hf : fs.toList.map (fun f => (f.offset, P.underlying f.type, P.cellsOf f.type)) = [(0, some (.int .i32), 1), (1, some (.int .i64), 1)])
    (h : DataW.trod enc P w 0 (fun _ => true) held fuel e cs = some x) : ∃ r : LArc, (-2147483648 ≤ r.r ∧ r.r ≤ 2147483647) ∧ cs = larV r := by
  obtain ⟨xs, n, _, _, hl, hxl, hx⟩ := DataW.trod_struct he h
  have hsz : fs.size = 2 := by have := congrArg List.length hf; simpa using this
  have field : ∀ (i : Nat) (k : IntKind), (fs.toList.map (fun f => (f.offset, P.underlying f.type, P.cellsOf f.type)))[i]? = some (i, some (.int k), 1) → ∃ z : Int, cs[i]? = some (.int k z) ∧ (Lit.int k z).wf = true := by
    intro i k hi
    rw [List.getElem?_map, Option.map_eq_some_iff] at hi
    obtain ⟨f, hfi, hfe⟩ := hi
    simp only [Prod.mk.injEq] at hfe
    obtain ⟨h1, h2, h3⟩ := hfe
    have hxi := hx i f (by simpa using hfi)
    have hlt : i < xs.length := by
      have := (List.getElem?_eq_some_iff.1 hfi).1
      simp at this
      omega
    rw [List.getElem?_eq_getElem hlt, h1, h3] at hxi
    obtain ⟨z, hz1, _, hz2⟩ := DataW.trod_int h2 hxi
    exact ⟨z, takeQ hz1, hz2⟩
  rw [hf] at field
  obtain ⟨z0, a0, b0⟩ := field 0 _ rfl
  obtain ⟨z1, a1, b1⟩ := field 1 _ rfl
  simp [Lit.wf, IntKind.min, IntKind.max, IntKind.bits, IntKind.signed] at b0 b1
  refine ⟨⟨z0, z1⟩, by dsimp only; omega, ?_⟩
  rw [hc] at hl
  simp only [larV]
  apply List.ext_getElem?
  intro i
  match i with
  | 0 => exact a0
  | 1 => exact a1
  | i + 2 => rw [List.getElem?_eq_none (by omega)]; rfl
/-- A state that comes in, with what its cells hold. -/
theorem open_lst {e e2 : TypeId} {fs : Array Field} {fs2 : Array Field} {fuel : Nat} {cs : List Value} {x : DataW H × List MemPlace} (he : P.underlying e = some (.struct fs)) (hc : P.cellsOf e = 4)
    (hf : fs.toList.map (fun f => (f.offset, P.underlying f.type, P.cellsOf f.type)) = [(0, some (.int .i64), 1), (1, some (.slice e2), 1), (2, some (.int .u8), 1), (3, some .bool, 1)])
    (he2 : P.underlying e2 = some (.struct fs2)) (hc2 : P.cellsOf e2 = 2)
    (hf2 : fs2.toList.map (fun f => (f.offset, P.underlying f.type, P.cellsOf f.type)) = [(0, some (.int .i32), 1), (1, some (.int .i64), 1)])
    (h : DataW.trod enc P w 0 (fun _ => true) held fuel e cs = some x) : ∃ r : LStM, LIn w r ∧ cs = lstV r := by
  obtain ⟨xs, n, _, _, hl, hxl, hx⟩ := DataW.trod_struct he h
  have hsz : fs.size = 4 := by have := congrArg List.length hf; simpa using this
  have field : ∀ (i : Nat) T, (fs.toList.map (fun f => (f.offset, P.underlying f.type, P.cellsOf f.type)))[i]? = some (i, T, 1) → ∃ ft y, P.underlying ft = T ∧ DataW.trod enc P w 0 (fun _ => true) held n ft ((cs.drop i).take 1) = some y := by
    intro i T hi
    rw [List.getElem?_map, Option.map_eq_some_iff] at hi
    obtain ⟨f, hfi, hfe⟩ := hi
    simp only [Prod.mk.injEq] at hfe
    obtain ⟨h1, h2, h3⟩ := hfe
    have hxi := hx i f (by simpa using hfi)
    have hlt : i < xs.length := by
      have := (List.getElem?_eq_some_iff.1 hfi).1
      simp at this
      omega
    rw [List.getElem?_eq_getElem hlt, h1, h3] at hxi
    exact ⟨_, _, h2, hxi⟩
  rw [hf] at field
  obtain ⟨t0, y0, u0, g0⟩ := field 0 _ rfl
  obtain ⟨t1, y1, u1, g1⟩ := field 1 _ rfl
  obtain ⟨t2, y2, u2, g2⟩ := field 2 _ rfl
  obtain ⟨t3, y3, u3, g3⟩ := field 3 _ rfl
  obtain ⟨z0, a0, _, b0⟩ := DataW.trod_int u0 g0
  obtain ⟨A, len, cap, raw, a1, hl2, hm2, hr2, hg2⟩ := open_list (α := LArc) larV (fun _ => rfl) (fun a => -2147483648 ≤ a.r ∧ a.r ≤ 2147483647) (by omega) u1 hc2 (fun fuel cs x h => open_lar he2 hc2 hf2 h) g1
  obtain ⟨z2, a2, _, b2⟩ := DataW.trod_int u2 g2
  obtain ⟨z3, a3, _⟩ := DataW.trod_bool u3 g3
  simp [Lit.wf, IntKind.min, IntKind.max, IntKind.bits, IntKind.signed] at b2
  simp only [maxLen] at hm2
  refine ⟨⟨⟨z0, raw, z2.toNat, z3⟩, A, cap⟩, ⟨by dsimp only; omega, hr2, hg2⟩, ?_⟩
  rw [hc] at hl
  have e1 : ((z2.toNat : Nat) : Int) = z2 := by omega
  simp only [lstV, e1, hl2]
  apply List.ext_getElem?
  intro i
  match i with
  | 0 => exact takeQ a0
  | 1 => exact takeQ a1
  | 2 => exact takeQ a2
  | 3 => exact takeQ a3
  | i + 4 => rw [List.getElem?_eq_none (by omega)]; rfl
end
end Go.Proofs.Eng
