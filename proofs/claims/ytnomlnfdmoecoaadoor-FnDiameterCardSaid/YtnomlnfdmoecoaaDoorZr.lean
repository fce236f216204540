/- What the table of sha256's constants holds: whatever numbers of its kind. -/
import Derived.Test.YtnomlnfdmoecoaaDoorM6
import Derived.Shaped
import Derived.Handed
import Derived.Lay
import Derived.WalkKit
import Derived.ProofKit
import Derived.OpenShut
import Derived.ChangeOld
import Derived.ChangeMaps5
import Derived.Below
import Derived.Carry
import Derived.SizedLaws
namespace Go.Proofs.Eng
open Go.RowKit
set_option linter.unusedVariables false
def kOf (cs : Array Value) (i : Nat) : Int := match cs[i]? with
  | some (.int _ n) => n
  | _ => 0
set_option maxRecDepth 100000 in
theorem of_shaped {w : World} (h : w.ShapedOpen Tryd.prog) : ∃ (K : Nat → Int) (kv : List Value), RdB w w.heap.size 1 kv ∧ ∀ i, i < 64 → kv[i]? = some (.int .u32 (K i)) := by
  obtain ⟨h1, _⟩ := h
  have hz : (((begin Tryd.prog (fun _ _ => 0) default).world.heap[1]?).bind Obj.row?).map (fun x => (x.1.size, x.2)) = some (64, 160) := by kernel_rfl
  cases hr : ((begin Tryd.prog (fun _ _ => 0) default).world.heap[1]?).bind Obj.row? with
  | none => rw [hr] at hz; cases hz
  | some x =>
    obtain ⟨zero, t⟩ := x
    rw [hr] at hz
    simp only [Option.map_some, Option.some.injEq, Prod.mk.injEq] at hz
    obtain ⟨hz1, rfl⟩ := hz
    have hg1 : Nat.blt 1 Tryd.prog.globals.size = true := by kernel_rfl
    obtain ⟨cs, hb, hcs, hok⟩ := h1 1 zero 160 (Nat.le_of_ble_eq_true hg1) hr
    have hok2 := hok (by kernel_rfl)
    obtain ⟨ts, ht, _, hv⟩ := hok2
    have ht2 : Tryd.prog.cellTypes Tryd.prog.depth 160 = some (List.replicate 64 22) := by kernel_rfl
    rw [ht2] at ht
    obtain rfl := Option.some.inj ht
    have hlt := (Array.getElem?_eq_some_iff.1 hb).1
    refine ⟨kOf cs, cs.toList, ⟨hlt, fun j v hj => ?_⟩, fun i hi => ?_⟩
    · rw [cell_of_heap hb]
      simpa using hj
    · have hi2 : i < cs.size := by rw [hcs, hz1]; exact hi
      have e : cs[i]? = some cs[i] := Array.getElem?_eq_getElem hi2
      obtain ⟨u, hu, hc⟩ := hv i cs[i] e
      have hu2 : u = 22 := by
        have := List.mem_of_getElem? hu
        exact List.eq_of_mem_replicate this
      subst hu2
      have hty : Tryd.prog.underlying 22 = some (.int .u32) := by kernel_rfl
      unfold Cell.ok at hc
      rw [hty] at hc
      have hcv : ∃ n, cs[i] = .int .u32 n := by
        cases hcc : cs[i] with
        | int k n =>
          rw [hcc] at hc
          obtain ⟨rfl, _⟩ := hc
          exact ⟨n, rfl⟩
        | _ => rw [hcc] at hc; exact absurd hc (by simp)
      obtain ⟨n, hn⟩ := hcv
      have : kOf cs i = n := by unfold kOf; rw [e, hn]
      rw [this, Array.getElem?_toList, e, hn]
end Go.Proofs.Eng
