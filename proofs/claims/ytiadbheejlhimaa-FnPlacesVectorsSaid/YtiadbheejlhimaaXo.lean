/- A part of the proof: what functions of the program do, step by step. -/
import Derived.Test.YtiadbheejlhimaaXh
import Derived.Deep.Slices
import Derived.ChangeArms
import Derived.ChangeShapes
import Derived.Below
set_option linter.unusedVariables false
set_option linter.unusedSimpArgs false
namespace Go.Proofs.Eng
open Go.RowKit Go.Deep Go.ChangeShapes
section
variable {H : Type} {enc : TypeId × Value → H} {P : Program} {w : World} {held : Bool}
theorem open_u32 {e : TypeId} (he : P.underlying e = some (.int .u32)) {fuel : Nat} {cs : List Value} {x : DataW H × List MemPlace} (h : DataW.trod enc P w 0 (fun _ => true) held fuel e cs = some x) : ∃ r : Nat, r < 4294967296 ∧ cs = [.int .u32 r] := by
  obtain ⟨z, hz1, _, hz2⟩ := DataW.trod_int he h
  simp [Lit.wf, IntKind.min, IntKind.max, IntKind.bits, IntKind.signed] at hz2
  refine ⟨z.toNat, by omega, ?_⟩
  rw [hz1, show ((z.toNat : Nat) : Int) = z by omega]
theorem open_u64 {e : TypeId} (he : P.underlying e = some (.int .u64)) {fuel : Nat} {cs : List Value} {x : DataW H × List MemPlace} (h : DataW.trod enc P w 0 (fun _ => true) held fuel e cs = some x) : ∃ r : Nat, r < 18446744073709551616 ∧ cs = [.int .u64 r] := by
  obtain ⟨z, hz1, _, hz2⟩ := DataW.trod_int he h
  simp [Lit.wf, IntKind.min, IntKind.max, IntKind.bits, IntKind.signed] at hz2
  refine ⟨z.toNat, by omega, ?_⟩
  rw [hz1, show ((z.toNat : Nat) : Int) = z by omega]
theorem wf_u8 {z : Int} (h : (Lit.int .u8 z).wf = true) : ∃ b : Nat, z = b ∧ b ≤ 255 := by
  simp [Lit.wf, IntKind.min, IntKind.max, IntKind.bits, IntKind.signed] at h
  exact ⟨z.toNat, by omega, by omega⟩
theorem wf_u32 {z : Int} (h : (Lit.int .u32 z).wf = true) : ∃ b : Nat, z = b ∧ b < 4294967296 := by
  simp [Lit.wf, IntKind.min, IntKind.max, IntKind.bits, IntKind.signed] at h
  exact ⟨z.toNat, by omega, by omega⟩
theorem flat_one (f : Nat → Value) (l : List Nat) : l.flatMap (fun x : Nat => [f x]) = l.map f := by
  induction l with
  | nil => rfl
  | cons x r ih => simp [List.flatMap_cons, ih]
end
end Go.Proofs.Eng
