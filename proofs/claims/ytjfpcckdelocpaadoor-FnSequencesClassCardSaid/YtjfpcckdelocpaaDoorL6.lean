/- Proved: the law FnSequencesClass returns true at whatever input, and each argument reads behind the call as it read before; the two package variables that it reads hold what the program's text lays. -/
import Derived.Test.YtjfpcckdelocpaaDoorZi
import Derived.Test.YtjfpcckdelocpaaDoorCards
import Derived.Test.YtjfpcckdelocpaaDoorTie
import Derived.WalkKit
import Derived.ProofKit
import Derived.OpenShut
import Derived.ChangeOld
import Derived.Below
import Derived.Carry
import Derived.SizedLaws
import Derived.SevenTiedAt
namespace Go.Proofs.YtjfpcckdelocpaaDoor.FnSequencesClass
open Go.ChangeShapes Go.WideShapes Go.ChangeAt Go.RowKit Go.Proofs.Eng
set_option linter.unusedVariables false
set_option maxRecDepth 100000 in
theorem lifted (os : Os) (started : os.Started) (H : Type) (enc : TypeId × Value → H) :
    ReturnsInHanded {} Tryd.checked os 5 .any (fun w args => (Rows.fnSequencesClassSpec.pre enc Tryd.prog Tryd.f5 [] false w args ∧ laidMetH Tryd.prog laid2 w) ∧ sizedMet enc Tryd.prog Tryd.f5 (OpenSpec.ofChange Rows.fnSequencesClassSpec) false w args)
      (Rows.fnSequencesClassSpec.post enc Tryd.prog Tryd.f5 false true false false) := by
  refine returnsInHanded_of_change_and (C := Tryd.checked) (X := fun w _ => laidMetH Tryd.prog laid2 w) (fun _ _ _ hh h => h.of_heap hh) own started (by kernel_rfl) Tryd.func5
    (ChangeSpec.witness_shaped (enc := enc) (C := Tryd.checked) (os := os) (X := fun w _ => laidMetH Tryd.prog laid2 w) false (World.doorLaid Tryd.prog 4000 os) #[.slice none 0 0, .slice none 0 0] 8 rfl (World.shaped_of_RefB (by kernel_rfl) (by kernel_rfl)) (by kernel_rfl) (by kernel_rfl) (by kernel_rfl) (door_met os _)) ?_
  intro W base args ds gs before hval0 hW _ _ hL _
  have hval : ∀ (j : Nat) t v, Tryd.f5.params[j]? = some t → args[j]? = some v → Value.okWide Tryd.prog W .any base t v := hval0
  have hW' := hW
  obtain ⟨p, q, hA0, hV, rfl, hfz, hnd⟩ := hW
  have hA : DataW.TrodAll enc Tryd.prog W 0 (fun _ => true) true Tryd.f5.params.toList args.toList ds p := hA0
  rw [Tryd.params5] at hA hval
  obtain ⟨v0, vs0, d0, ds0, p0, q0, hargs, rfl, rfl, h0, r0⟩ := trodAll_cons hA
  obtain ⟨v1, vs1, d1, ds1, p1, q1, rfl, rfl, rfl, h1, r1⟩ := trodAll_cons r0
  obtain ⟨rfl, rfl, rfl⟩ := trodAll_nil r1
  obtain rfl : args = #[v0, v1] := by cases args; simp_all
  obtain ⟨rfl, rfl⟩ := trodVars_none hV
  obtain ⟨a0, len0, cap0, rfl⟩ := okWide_slice Tryd.underlying34 (hval 0 34 v0 rfl rfl)
  have k0 := h0
  have lt0 : ∀ x ∈ p0, x.block < W.heap.size := by obtain ⟨m, hm⟩ := k0; exact DataW.trod_lt m _ _ _ hm
  obtain ⟨fu0, hf0⟩ := h0
  obtain ⟨A0, n0, c0, raw0, e0, hl0, hm0, hr0, hg0⟩ := open_list (α := (Int × Int)) (k := 2) p2 (fun _ => rfl) (fun _ => True) (by omega) Tryd.underlying34 (by kernel_rfl) (fun fuel cs x h => open_pair Tryd.underlying35 (by kernel_rfl) Tryd.underlying21 (by kernel_rfl) h) hf0
  simp only [Value.cells, List.cons.injEq, Value.slice.injEq, and_true] at e0
  obtain ⟨rfl, rfl, rfl⟩ := e0
  subst hl0
  obtain ⟨a1, len1, cap1, rfl⟩ := okWide_slice Tryd.underlying22 (hval 1 22 v1 rfl rfl)
  have k1 := h1
  have lt1 : ∀ x ∈ p1, x.block < W.heap.size := by obtain ⟨m, hm⟩ := k1; exact DataW.trod_lt m _ _ _ hm
  obtain ⟨fu1, hf1⟩ := h1
  obtain ⟨A1, n1, c1, raw1, e1, hl1, hm1, hr1, hg1⟩ := open_list (α := Nat) (k := 1) (fun x : Nat => [.int .u8 (x : Nat)]) (fun _ => rfl) (fun x => x ≤ 255) (by omega) Tryd.underlying22 (by kernel_rfl) (fun fuel cs x h => open_byte Tryd.underlying5 h) hf1
  simp only [Value.cells, List.cons.injEq, Value.slice.injEq, and_true] at e1
  obtain ⟨rfl, rfl, rfl⟩ := e1
  subst hl1
  have hr1' : Rd W W.heap.size a1 (u8s raw1) := by rw [u8s, ← flat_u8]; exact hr1
  clear hA0 hval0
  obtain ⟨hgl, hgl6⟩ := of_laid hL
  refine (lawClass_any W a0 raw0 cap0 hm0 hr0 a1 raw1 cap1 hg1 hm1 hr1' hgl hgl6).mono fun e W' hp => ?_
  obtain ⟨_, _, he, hgo⟩ := hp
  have bel := Goes.below0 hgo
  subst he
  exact ⟨_, rfl, _, _, _, [], _, [], hW', trodAll_mk1 (shut_bool Tryd.underlying4 _), (trodAll_cons_mk (Below.trod laidOut (by kernel_rfl) (of_decide_eq_true (by kernel_rfl)) k0 bel lt0) (trodAll_cons_mk (Below.trod laidOut (by kernel_rfl) (of_decide_eq_true (by kernel_rfl)) k1 bel lt1) trodAll_mk0)), rfl, bel.frame _, fun h => by cases h⟩
theorem over : Rows.FnSequencesClassSaid :=
  OpenClaim.holds_of_wide 5 Tryd.f5 rfl rfl rfl rfl rfl rfl rfl ⟨rfl, rfl, rfl, rfl, rfl⟩ rfl rfl rfl rfl rfl (by kernel_rfl) Tryd.func5 (by kernel_rfl)
    (of_decide_eq_true (by kernel_rfl)) (by unfold Func.isWrapper; first | (rw [if_pos (by decide +kernel)]; kernel_rfl) | (rw [if_neg (by decide +kernel)]; exact ⟨rfl, rfl⟩))
    (fun os started H enc _ => lifted os started H enc)
theorem card : Rows.FnSequencesClassCardSaid :=
  Claim7.holds_tied_plain_at .later [] [.data, .data] true (true, "710ae524fccc494d7b7b5a8982daadcae5433c72111cd0ada9330ae0c09b71e3") true
    over (fun _ h => by cases h) (by kernel_rfl) (fun _ h => by cases h) fnSequencesClass_row_tie rfl ⟨rfl, rfl⟩ (by kernel_rfl) rfl
    (fun f fn hf hfn => by
      obtain rfl : f = 5 := Option.some.inj ((show Tryd.prog.funcNamed "pub-goatskin/laws.FnSequencesClass" = some 5 by kernel_rfl).symm.trans hf) |>.symm
      obtain rfl : fn = Tryd.f5 := (Option.some.inj (Tryd.func5.symm.trans hfn)).symm
      exact ⟨by kernel_rfl, fun j t ht => by
        rw [Tryd.params5] at ht
        have hm : t ∈ [34, 22] := by simpa using Array.mem_of_getElem? ht
        have hall : ([34, 22].all fun u => !Tryd.prog.wantsStandIn u) = true := by kernel_rfl
        exact (show Tryd.prog.wantsStandIn t = false by simpa using List.all_eq_true.1 hall t hm)⟩)
    (by kernel_rfl)
end Go.Proofs.YtjfpcckdelocpaaDoor.FnSequencesClass
namespace Go.Proofs.YtjfpcckdelocpaaDoor
theorem fnSequencesClass_holds : Rows.FnSequencesClassCardSaid := FnSequencesClass.card
#print axioms fnSequencesClass_holds
end Go.Proofs.YtjfpcckdelocpaaDoor
