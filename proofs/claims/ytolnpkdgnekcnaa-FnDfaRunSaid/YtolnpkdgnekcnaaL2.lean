/- Proved: the law FnDfaRun returns true at whatever input, and each argument reads behind the call as it read before; without any condition. -/
import Derived.Test.YtolnpkdgnekcnaaRows
import Derived.Test.YtolnpkdgnekcnaaR4
import Derived.Test.YtolnpkdgnekcnaaP6
import Derived.WalkKit
import Derived.ProofKit
import Derived.OpenShut
import Derived.ChangeOld
import Derived.Below
import Derived.Carry
import Derived.SizedLaws
namespace Go.Proofs.Ytolnpkdgnekcnaa.FnDfaRun
open Go.ChangeShapes Go.WideShapes Go.ChangeAt Go.RowKit Go.Proofs.Eng
set_option linter.unusedVariables false
theorem own : ownKnob Try.prog.godebug = none := by kernel_rfl
theorem laidOut : laidOutB Try.prog = true := by kernel_rfl
set_option maxRecDepth 100000 in
theorem lifted (os : Os) (started : os.Started) (H : Type) (enc : TypeId × Value → H) :
    ReturnsInHanded {} Try.checked os 4 .any (Rows.fnDfaRunSpec.pre6 enc Try.prog Try.f4 Rows.fnDfaRunRow.domain false) (Rows.fnDfaRunSpec.post enc Try.prog Try.f4 false true false false) := by
  refine returnsInHanded_of_change_sized (C := Try.checked) own started (by kernel_rfl) Try.func4
    (ChangeSpec.witness6 (enc := enc) (C := Try.checked) false ⟨#[], #[.slice none 0 0, .slice none 0 0, .int .u8 0], []⟩ 8 (by kernel_rfl) (by kernel_rfl) (by kernel_rfl) (by kernel_rfl)) ?_
  intro W base args ds gs before hval0 hW hcnd hsz0 _
  have hval : ∀ (j : Nat) t v, Try.f4.params[j]? = some t → args[j]? = some v → Value.okWide Try.prog W .any base t v := hval0
  have hW' := hW
  obtain ⟨p, q, hA0, hV, rfl, hfz, hnd⟩ := hW
  have hA : DataW.TrodAll enc Try.prog W 0 (fun _ => true) true Try.f4.params.toList args.toList ds p := hA0
  rw [Try.params4] at hA hval
  obtain ⟨v0, vs0, d0, ds0, p0, q0, hargs, rfl, rfl, h0, r0⟩ := trodAll_cons hA
  obtain ⟨v1, vs1, d1, ds1, p1, q1, rfl, rfl, rfl, h1, r1⟩ := trodAll_cons r0
  obtain ⟨v2, vs2, d2, ds2, p2, q2, rfl, rfl, rfl, h2, r2⟩ := trodAll_cons r1
  obtain ⟨rfl, rfl, rfl⟩ := trodAll_nil r2
  obtain rfl : args = #[v0, v1, v2] := by cases args; simp_all
  obtain ⟨rfl, rfl⟩ := trodVars_none hV
  obtain ⟨a0, len0, cap0, rfl⟩ := okWide_slice Try.underlying22 (hval 0 22 v0 rfl rfl)
  obtain ⟨a1, len1, cap1, rfl⟩ := okWide_slice Try.underlying23 (hval 1 23 v1 rfl rfl)
  obtain ⟨a2, rfl, rfl, rfl, w2⟩ := open_int Try.underlying5 (hval 2 5 v2 rfl rfl) h2
  have u2 : 0 ≤ a2 ∧ a2 < 256 := by have := bounds_u8 w2; omega
  have k0 := h0
  have k1 := h1
  have lt0 : ∀ x ∈ p0, x.block < W.heap.size := by obtain ⟨m, hm⟩ := k0; exact DataW.trod_lt m _ _ _ hm
  have lt1 : ∀ x ∈ p1, x.block < W.heap.size := by obtain ⟨m, hm⟩ := k1; exact DataW.trod_lt m _ _ _ hm
  obtain ⟨raw, hl0, hm0, hr0, hg0⟩ := open_raws Try.underlying22 Try.underlying37 (by kernel_rfl) (by kernel_rfl) h0
  obtain ⟨zs, hl1, hm1, hr1, hg1⟩ := open_nums Try.underlying23 Try.underlying27 (by kernel_rfl) h1
  obtain ⟨xs, hxl, hxe, hxb⟩ := nats_of zs hg1
  rw [hxe] at hr1
  clear hA0 hval0 hsz0
  simp only [maxLen] at hm0 hm1
  have L := lawRun_any W a0 len0 cap0 raw hl0 hm0 hr0 hg0 a1 len1 cap1 xs (hxl.trans hl1) hm1 hr1 hxb a2.toNat (by omega)
  rw [show ((a2.toNat : Nat) : Int) = a2 by omega] at L
  refine L.mono fun e W' hp => ?_
  obtain ⟨_, _, he, hgo⟩ := hp
  have bel := Goes.below0 hgo
  subst he
  exact ⟨_, rfl, _, _, _, [], _, [], hW', trodAll_mk1 (shut_bool Try.underlying4 _), (trodAll_cons_mk (Below.trod laidOut (by kernel_rfl) (of_decide_eq_true (by kernel_rfl)) k0 bel lt0) (trodAll_cons_mk (Below.trod laidOut (by kernel_rfl) (of_decide_eq_true (by kernel_rfl)) k1 bel lt1) (trodAll_cons_mk (shut_int Try.underlying5 w2) trodAll_mk0))), rfl, bel.frame _, fun h => by cases h⟩
theorem over : Rows.fnDfaRunRow.holds Try.pinned (OpenSpec.ofChange Rows.fnDfaRunSpec) :=
  OpenClaim.holds_of_wide 4 Try.f4 rfl rfl rfl rfl rfl rfl rfl ⟨rfl, rfl, rfl, rfl, rfl⟩ rfl rfl rfl rfl rfl (by kernel_rfl) Try.func4 (by kernel_rfl)
    (of_decide_eq_true (by kernel_rfl)) (by unfold Func.isWrapper; first | (rw [if_pos (by decide +kernel)]; kernel_rfl) | (rw [if_neg (by decide +kernel)]; exact ⟨rfl, rfl⟩))
    (fun os started H enc _ => lifted os started H enc)
end Go.Proofs.Ytolnpkdgnekcnaa.FnDfaRun
namespace Go.Proofs.Ytolnpkdgnekcnaa
theorem fnDfaRun_holds : Rows.FnDfaRunSaid := FnDfaRun.over
#print axioms fnDfaRun_holds
end Go.Proofs.Ytolnpkdgnekcnaa
