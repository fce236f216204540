/- What the listed variables hold. -/
import Derived.Test.YtjfpcckdelocpaaDoorC11
import Derived.Test.YtjfpcckdelocpaaDoorRows
import Derived.LaidMore
import Derived.LaidSub
import Derived.OpenShut
import Derived.ProofKit
import Derived.Stop.Joined
set_option linter.unusedVariables false
set_option linter.unusedSimpArgs false
namespace Go.Proofs.Eng
open Go.RowKit Go.ChangeShapes Go.Deep
section
variable {H : Type} {enc : TypeId × Value → H} {P : Program} {w : World} {held : Bool}
/-- A struct of two whole numbers, as it is read. -/
theorem struct2 {e : TypeId} {fs : Array Field} {fuel : Nat} {cs : List Value} {x : DataW H × List MemPlace} {k : IntKind} (he : P.underlying e = some (.struct fs)) (hc : P.cellsOf e = 2)
    (hf : fs.toList.map (fun f => (f.offset, P.underlying f.type, P.cellsOf f.type)) = [(0, some (.int k), 1), (1, some (.int k), 1)])
    (h : DataW.trod enc P w 0 (fun _ => true) held fuel e cs = some x) : ∃ a b : Int, cs = [.int k a, .int k b] ∧ x.1 = .agg [.lit (.int k a), .lit (.int k b)] := by
  obtain ⟨xs, n, _, hx0, hl, hxl, hx⟩ := DataW.trod_struct he h
  have hsz : fs.size = 2 := by have := congrArg List.length hf; simpa using this
  have field : ∀ (i : Nat), (fs.toList.map (fun f => (f.offset, P.underlying f.type, P.cellsOf f.type)))[i]? = some (i, some (.int k), 1) → ∃ z : Int, cs[i]? = some (.int k z) ∧ xs[i]? = some (.lit (.int k z), []) := by
    intro i hi
    rw [List.getElem?_map, Option.map_eq_some_iff] at hi
    obtain ⟨f, hfi, hfe⟩ := hi
    simp only [Prod.mk.injEq] at hfe
    obtain ⟨h1, h2, h3⟩ := hfe
    have hxi := hx i f (by simpa using hfi)
    have hlt : i < xs.length := by
      have := (List.getElem?_eq_some_iff.1 hfi).1
      simp at this
      omega
    rw [List.getElem?_eq_getElem hlt, h1, h3] at hxi
    obtain ⟨z, hz1, hz0, hz2⟩ := DataW.trod_int h2 hxi
    exact ⟨z, takeQ hz1, by rw [List.getElem?_eq_getElem hlt, hz0]⟩
  rw [hf] at field
  obtain ⟨a, a0, a1⟩ := field 0 rfl
  obtain ⟨b, b0, b1⟩ := field 1 rfl
  rw [hc] at hl
  rw [hsz] at hxl
  match cs, hl, a0, b0 with
  | [c0, c1], _, a0, b0 =>
    match xs, hxl, a1, b1, hx0 with
    | [x0, x1], _, a1, b1, hx0 =>
      simp only [List.getElem?_cons_zero, List.getElem?_cons_succ, Option.some.injEq] at a0 b0 a1 b1
      subst a0 b0 a1 b1
      exact ⟨a, b, rfl, by rw [hx0]; rfl⟩
end
end Go.Proofs.Eng
namespace Go.Proofs.YtjfpcckdelocpaaDoor
open Go.ChangeShapes Go.WideShapes Go.ChangeAt Go.RowKit Go.Proofs.Eng
theorem own : ownKnob Tryd.prog.godebug = none := by kernel_rfl
theorem laidOut : laidOutB Tryd.prog = true := by kernel_rfl
def laid2 : List (String × DataW Unit) := [("pub-goatskin/pub/vellum/utf8.nilRange", Rows.laid_pub_goatskin_pub_vellum_utf8_nilRange), ("pub-goatskin/pub/vellum/utf8.nilScalarRange", Rows.laid_pub_goatskin_pub_vellum_utf8_nilScalarRange)]
theorem gRange : Tryd.prog.globalNamed "pub-goatskin/pub/vellum/utf8.nilRange" = some 6 := by kernel_rfl
theorem gScalar : Tryd.prog.globalNamed "pub-goatskin/pub/vellum/utf8.nilScalarRange" = some 5 := by kernel_rfl
theorem tRange : (Tryd.prog.globals[6]?).map (·.type) = some 71 := by kernel_rfl
theorem tScalar : (Tryd.prog.globals[5]?).map (·.type) = some 113 := by kernel_rfl
theorem u71 : Tryd.prog.underlying 71 = some (.struct (Tryd.prog.fieldsOf 71)) := by kernel_rfl
theorem u113 : Tryd.prog.underlying 113 = some (.struct (Tryd.prog.fieldsOf 113)) := by kernel_rfl
/-- What the listed variables hold. -/
theorem of_laid {W : World} (h : laidMetH Tryd.prog laid2 W) : RdB W W.heap.size 5 (r2 (65535, 0)) ∧ RdB W W.heap.size 6 [.int .u8 255, .int .u8 0] := by
  rw [MakeChecks.laidMetH_plain _ _ _ (by kernel_rfl)] at h
  obtain ⟨ps, ⟨g0, t0, cs0, f0, p0, q0, hg0, ht0, hv0, hd0, ⟨g1, t1, cs1, f1, p1, q1, hg1, ht1, hv1, hd1, _, _⟩, _⟩, _, _⟩ := h
  obtain rfl := Option.some.inj (gRange.symm.trans hg0)
  obtain rfl := Option.some.inj (gScalar.symm.trans hg1)
  obtain rfl := Option.some.inj (tRange.symm.trans ht0)
  obtain rfl := Option.some.inj (tScalar.symm.trans ht1)
  obtain ⟨a, b, h1, h2⟩ := struct2 (k := .u8) u71 (by kernel_rfl) (by kernel_rfl) hd0
  obtain ⟨c, d, h3, h4⟩ := struct2 (k := .i32) u113 (by kernel_rfl) (by kernel_rfl) hd1
  simp only [Rows.laid_pub_goatskin_pub_vellum_utf8_nilRange, Rows.laid_pub_goatskin_pub_vellum_utf8_nilScalarRange, DataW.agg.injEq, List.cons.injEq, DataW.lit.injEq, Lit.int.injEq, and_true, true_and] at h2 h4
  obtain ⟨rfl, rfl⟩ := h2
  obtain ⟨rfl, rfl⟩ := h4
  have k0 := World.var?_cell hg0 hv0
  have k1 := World.var?_cell hg1 hv1
  refine ⟨⟨World.block_lt_of_cell? W ⟨5, 0, none⟩ (u := .int .i32 65535) ?_, fun j v hv => ?_⟩, ⟨World.block_lt_of_cell? W ⟨6, 0, none⟩ (u := .int .u8 255) ?_, fun j v hv => ?_⟩⟩
  · rw [k1, ← Array.getElem?_toList, h3]; rfl
  · rw [k1, ← Array.getElem?_toList, h3]; exact hv
  · rw [k0, ← Array.getElem?_toList, h1]; rfl
  · rw [k0, ← Array.getElem?_toList, h1]; exact hv
end Go.Proofs.YtjfpcckdelocpaaDoor
