/- Proved: the law FnPlacesVectors returns true at whatever input, and each argument reads behind the call as it read before; without any condition. -/
import Derived.Test.YtiadbheejlhimaaRows
import Derived.Test.YtiadbheejlhimaaXn
import Derived.Test.YtiadbheejlhimaaXo
import Derived.WalkKit
import Derived.ProofKit
import Derived.OpenShut
import Derived.ChangeOld
import Derived.Below
import Derived.Carry
import Derived.SizedLaws
namespace Go.Proofs.Ytiadbheejlhimaa.FnPlacesVectors
open Go.ChangeShapes Go.WideShapes Go.ChangeAt Go.RowKit Go.Proofs.Eng
set_option linter.unusedVariables false
theorem own : ownKnob Try.prog.godebug = none := by kernel_rfl
theorem laidOut : laidOutB Try.prog = true := by kernel_rfl
set_option maxRecDepth 100000 in
theorem lifted (os : Os) (started : os.Started) (H : Type) (enc : TypeId × Value → H) :
    ReturnsInHanded {} Try.checked os 6 .any (Rows.fnPlacesVectorsSpec.pre6 enc Try.prog Try.f6 Rows.fnPlacesVectorsRow.domain false) (Rows.fnPlacesVectorsSpec.post enc Try.prog Try.f6 false true false false) := by
  refine returnsInHanded_of_change_sized (C := Try.checked) own started (by kernel_rfl) Try.func6
    (ChangeSpec.witness6 (enc := enc) (C := Try.checked) false ⟨#[], #[.slice none 0 0, .int .u8 0, .int .u8 0, .bool false], []⟩ 8 (by kernel_rfl) (by kernel_rfl) (by kernel_rfl) (by kernel_rfl)) ?_
  intro W base args ds gs before hval0 hW hcnd hsz0 _
  have hval : ∀ (j : Nat) t v, Try.f6.params[j]? = some t → args[j]? = some v → Value.okWide Try.prog W .any base t v := hval0
  have hW' := hW
  obtain ⟨p, q, hA0, hV, rfl, hfz, hnd⟩ := hW
  have hA : DataW.TrodAll enc Try.prog W 0 (fun _ => true) true Try.f6.params.toList args.toList ds p := hA0
  rw [Try.params6] at hA hval
  obtain ⟨v0, vs0, d0, ds0, p0, q0, hargs, rfl, rfl, h0, r0⟩ := trodAll_cons hA
  obtain ⟨v1, vs1, d1, ds1, p1, q1, rfl, rfl, rfl, h1, r1⟩ := trodAll_cons r0
  obtain ⟨v2, vs2, d2, ds2, p2, q2, rfl, rfl, rfl, h2, r2⟩ := trodAll_cons r1
  obtain ⟨v3, vs3, d3, ds3, p3, q3, rfl, rfl, rfl, h3, r3⟩ := trodAll_cons r2
  obtain ⟨rfl, rfl, rfl⟩ := trodAll_nil r3
  obtain rfl : args = #[v0, v1, v2, v3] := by cases args; simp_all
  obtain ⟨rfl, rfl⟩ := trodVars_none hV
  obtain ⟨a0, len0, cap0, rfl⟩ := okWide_slice Try.underlying51 (hval 0 51 v0 rfl rfl)
  obtain ⟨a1, rfl, rfl, rfl, w1⟩ := open_int Try.underlying5 (hval 1 5 v1 rfl rfl) h1
  obtain ⟨a2, rfl, rfl, rfl, w2⟩ := open_int Try.underlying5 (hval 2 5 v2 rfl rfl) h2
  obtain ⟨a3, rfl, rfl, rfl⟩ := open_bool Try.underlying4 (hval 3 4 v3 rfl rfl) h3
  have k0 := h0
  have lt0 : ∀ x ∈ p0, x.block < W.heap.size := by obtain ⟨m, hm⟩ := k0; exact DataW.trod_lt m _ _ _ hm
  obtain ⟨fu0, hf0⟩ := h0
  obtain ⟨A0, n0, c0, raw, e0, hl0, hm0, hr0, hg0⟩ := open_list (α := Nat) (k := 1) (fun x : Nat => [.int .u64 (x : Nat)]) (fun _ => rfl) (fun r => r < 18446744073709551616) (by omega) Try.underlying51 (by kernel_rfl) (fun fuel cs x h => open_u64 Try.underlying28 h) hf0
  rw [flat_one (fun x => .int .u64 (x : Nat))] at hr0
  simp only [Value.cells, List.cons.injEq, Value.slice.injEq, and_true] at e0
  obtain ⟨rfl, rfl, rfl⟩ := e0
  clear hA0 hval0 hsz0
  simp only [maxLen] at hm0
  obtain ⟨b1, rfl, hb1⟩ := wf_u8 w1
  obtain ⟨b2, rfl, hb2⟩ := wf_u8 w2
  refine (lawPV_any W a0 len0 cap0 raw hl0 (by omega) hr0 hg0 b1 b2 a3 hb1 hb2).mono fun e W' hp => ?_
  obtain ⟨_, _, he, hgo⟩ := hp
  have bel := Goes.below0 hgo
  subst he
  exact ⟨_, rfl, _, _, _, [], _, [], hW', trodAll_mk1 (shut_bool Try.underlying4 _), (trodAll_cons_mk (Below.trod laidOut (by kernel_rfl) (of_decide_eq_true (by kernel_rfl)) k0 bel lt0) (trodAll_cons_mk (shut_int Try.underlying5 w1) (trodAll_cons_mk (shut_int Try.underlying5 w2) (trodAll_cons_mk (shut_bool Try.underlying4 _) trodAll_mk0)))), rfl, bel.frame _, fun h => by cases h⟩
theorem over : Rows.fnPlacesVectorsRow.holds Try.pinned (OpenSpec.ofChange Rows.fnPlacesVectorsSpec) :=
  OpenClaim.holds_of_wide 6 Try.f6 rfl rfl rfl rfl rfl rfl rfl ⟨rfl, rfl, rfl, rfl, rfl⟩ rfl rfl rfl rfl rfl (by kernel_rfl) Try.func6 (by kernel_rfl)
    (of_decide_eq_true (by kernel_rfl)) (by unfold Func.isWrapper; first | (rw [if_pos (by decide +kernel)]; kernel_rfl) | (rw [if_neg (by decide +kernel)]; exact ⟨rfl, rfl⟩))
    (fun os started H enc _ => lifted os started H enc)
end Go.Proofs.Ytiadbheejlhimaa.FnPlacesVectors
namespace Go.Proofs.Ytiadbheejlhimaa
theorem fnPlacesVectors_holds : Rows.FnPlacesVectorsSaid := FnPlacesVectors.over
#print axioms fnPlacesVectors_holds
end Go.Proofs.Ytiadbheejlhimaa
