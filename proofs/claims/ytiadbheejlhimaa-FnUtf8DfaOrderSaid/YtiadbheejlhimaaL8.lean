/- Proved: the law FnUtf8DfaOrder returns true at whatever input, and each argument reads behind the call as it read before; without any condition. -/
import Derived.Test.YtiadbheejlhimaaRows
import Derived.Test.YtiadbheejlhimaaWo
import Derived.Test.YtiadbheejlhimaaWc
import Derived.WalkKit
import Derived.ProofKit
import Derived.OpenShut
import Derived.ChangeOld
import Derived.Below
import Derived.Carry
import Derived.SizedLaws
namespace Go.Proofs.Ytiadbheejlhimaa.FnUtf8DfaOrder
open Go.ChangeShapes Go.WideShapes Go.ChangeAt Go.RowKit Go.Proofs.Eng
set_option linter.unusedVariables false
theorem own : ownKnob Try.prog.godebug = none := by kernel_rfl
theorem laidOut : laidOutB Try.prog = true := by kernel_rfl
set_option maxRecDepth 100000 in
theorem lifted (os : Os) (started : os.Started) (H : Type) (enc : TypeId × Value → H) :
    ReturnsInHanded {} Try.checked os 5 .any (Rows.fnUtf8DfaOrderSpec.pre6 enc Try.prog Try.f5 Rows.fnUtf8DfaOrderRow.domain false) (Rows.fnUtf8DfaOrderSpec.post enc Try.prog Try.f5 false true false false) := by
  refine returnsInHanded_of_change_sized (C := Try.checked) own started (by kernel_rfl) Try.func5
    (ChangeSpec.witness6 (enc := enc) (C := Try.checked) false ⟨#[], #[.slice none 0 0, .int .i64 0, .int .i64 0, .agg #[.int .i64 0, .slice none 0 0, .int .u8 0, .bool false], .string ⟨#[]⟩], []⟩ 8 (by kernel_rfl) (by kernel_rfl) (by kernel_rfl) (by kernel_rfl)) ?_
  intro W base args ds gs before hval0 hW hcnd hsz0 _
  have hval : ∀ (j : Nat) t v, Try.f5.params[j]? = some t → args[j]? = some v → Value.okWide Try.prog W .any base t v := hval0
  have hW' := hW
  obtain ⟨p, q, hA0, hV, rfl, hfz, hnd⟩ := hW
  have hA : DataW.TrodAll enc Try.prog W 0 (fun _ => true) true Try.f5.params.toList args.toList ds p := hA0
  rw [Try.params5] at hA hval
  obtain ⟨v0, vs0, d0, ds0, p0, q0, hargs, rfl, rfl, h0, r0⟩ := trodAll_cons hA
  obtain ⟨v1, vs1, d1, ds1, p1, q1, rfl, rfl, rfl, h1, r1⟩ := trodAll_cons r0
  obtain ⟨v2, vs2, d2, ds2, p2, q2, rfl, rfl, rfl, h2, r2⟩ := trodAll_cons r1
  obtain ⟨v3, vs3, d3, ds3, p3, q3, rfl, rfl, rfl, h3, r3⟩ := trodAll_cons r2
  obtain ⟨v4, vs4, d4, ds4, p4, q4, rfl, rfl, rfl, h4, r4⟩ := trodAll_cons r3
  obtain ⟨rfl, rfl, rfl⟩ := trodAll_nil r4
  obtain rfl : args = #[v0, v1, v2, v3, v4] := by cases args; simp_all
  obtain ⟨rfl, rfl⟩ := trodVars_none hV
  obtain ⟨a0, len0, cap0, rfl⟩ := okWide_slice Try.underlying31 (hval 0 31 v0 rfl rfl)
  obtain ⟨a1, rfl, rfl, rfl, w1⟩ := open_int Try.underlying3 (hval 1 3 v1 rfl rfl) h1
  obtain ⟨a2, rfl, rfl, rfl, w2⟩ := open_int Try.underlying3 (hval 2 3 v2 rfl rfl) h2
  obtain ⟨cs3, rfl, hsz3⟩ := okWide_struct Try.underlying45 (hval 3 45 v3 rfl rfl)
  obtain ⟨a4, rfl, rfl, rfl, w4⟩ := Go.ChangeMaps.open_string Try.underlying9 (hval 4 9 v4 rfl rfl) h4
  have k3 := h3
  have lt3 : ∀ x ∈ p3, x.block < W.heap.size := by obtain ⟨m, hm⟩ := k3; exact DataW.trod_lt m _ _ _ hm
  obtain ⟨fu3, hf3⟩ := h3
  obtain ⟨r3', _, e3⟩ := open_lst Try.underlying45 (by kernel_rfl) (by kernel_rfl) Try.underlying49 (by kernel_rfl) (by kernel_rfl) hf3
  obtain rfl : cs3 = (lstV r3').toArray := by
    apply Array.ext'
    simpa [Value.cells] using e3
  have k0 := h0
  have lt0 : ∀ x ∈ p0, x.block < W.heap.size := by obtain ⟨m, hm⟩ := k0; exact DataW.trod_lt m _ _ _ hm
  obtain ⟨fu0, hf0⟩ := h0
  obtain ⟨A0, n0, c0, raw, e0, hl0, hm0, hr0, hg0⟩ := open_list (α := LStM) (k := 4) lstV (fun _ => rfl) (fun r : LStM => LIn W r) (by omega) Try.underlying31 (by kernel_rfl) (fun fuel cs x h => open_lst Try.underlying45 (by kernel_rfl) (by kernel_rfl) Try.underlying49 (by kernel_rfl) (by kernel_rfl) h) hf0
  simp only [Value.cells, List.cons.injEq, Value.slice.injEq, and_true] at e0
  obtain ⟨rfl, rfl, rfl⟩ := e0
  clear hA0 hval0 hsz0
  simp only [maxLen] at hm0
  refine (lawUO_any W a0 len0 cap0 a1 a2 r3'.st.dflt r3'.A r3'.st.arcs.length r3'.c r3'.st.dist r3'.st.ex a4 raw hl0 (by omega) hr0 (fun j h => hg0 _ (List.getElem_mem h))).mono fun e W' hp => ?_
  obtain ⟨_, _, he, hgo⟩ := hp
  have bel := Goes.below0 hgo
  subst he
  exact ⟨_, rfl, _, _, _, [], _, [], hW', trodAll_mk1 (shut_bool Try.underlying4 _), (trodAll_cons_mk (Below.trod laidOut (by kernel_rfl) (of_decide_eq_true (by kernel_rfl)) k0 bel lt0) (trodAll_cons_mk (shut_int Try.underlying3 w1) (trodAll_cons_mk (shut_int Try.underlying3 w2) (trodAll_cons_mk (Below.trod laidOut (by kernel_rfl) (of_decide_eq_true (by kernel_rfl)) k3 bel lt3) (trodAll_cons_mk (Go.ChangeMaps.shut_string Try.underlying9 w4) trodAll_mk0))))), rfl, bel.frame _, fun h => by cases h⟩
theorem over : Rows.fnUtf8DfaOrderRow.holds Try.pinned (OpenSpec.ofChange Rows.fnUtf8DfaOrderSpec) :=
  OpenClaim.holds_of_wide 5 Try.f5 rfl rfl rfl rfl rfl rfl rfl ⟨rfl, rfl, rfl, rfl, rfl⟩ rfl rfl rfl rfl rfl (by kernel_rfl) Try.func5 (by kernel_rfl)
    (of_decide_eq_true (by kernel_rfl)) (by unfold Func.isWrapper; first | (rw [if_pos (by decide +kernel)]; kernel_rfl) | (rw [if_neg (by decide +kernel)]; exact ⟨rfl, rfl⟩))
    (fun os started H enc _ => lifted os started H enc)
end Go.Proofs.Ytiadbheejlhimaa.FnUtf8DfaOrder
namespace Go.Proofs.Ytiadbheejlhimaa
theorem fnUtf8DfaOrder_holds : Rows.FnUtf8DfaOrderSaid := FnUtf8DfaOrder.over
#print axioms fnUtf8DfaOrder_holds
end Go.Proofs.Ytiadbheejlhimaa
