/-
  No cell of these rows narrows 'for every input' (looked for: loops, veiled, ifaces, maps, wideKeys, modest, calm, conditions, laid).
  DERIVED. THE GIVEN ROWS OF THIS SEAT. 3 by the template 'for every input the law returns true; each argument reads behind the call as it read before'; 0 by the template 'total and deterministic' (their statements: YtolnpkdgnekcnaaTotals.lean).
  GIVEN WITH THE SEED: the statements are not yours to turn. If you find one false, say at which input.
  Laid BY PROGRAM, IN A SANDBOX (cutbox-rows.mjs): the forced cells as the released guide's own fill.sh prints them over the translation 5b2bd7b69545b436… (all of the seat's roots in one cut). By AI agents, Wed Nov 11 2026. No macro, syntax, notation, axiom, sorry.
-/
import Derived.Test.YtolnpkdgnekcnaaChecked
import GoSem.Claim
import GoSem.ClaimJoined
import GoSem.ClaimMapViews
import Derived.JoinedTies
import Derived.KernelRfl
namespace Go.Proofs.Ytolnpkdgnekcnaa
/- THE CELL 'sum', in the pinned program and in every row, IS THE sha256 OF THE DUMP (.gsa) THAT YtolnpkdgnekcnaaProg.lean LOADS. Nothing in Lean hashes anything: it is a label: what it is worth is what the hold of that sum in a sandbox is worth. -/
noncomputable def Try.pinned : Pinned := { name := "ytolnpkdgnekcnaa", sum := "5b2bd7b69545b436c34dc8175f3c6c0f69083fbe205f0ba8e2aa05c5e6946b16", checked := Try.checked }
namespace Rows
def none {H : Type} : Left H := { results := [], args := [] }

/-- 'laws.FnDfaAdd': WHATEVER THE INPUT: true; the input reads as it did. -/
def fnDfaAddSpec : ChangeSpec := { name := "fnDfaAdd", fn := fun _ => fun
  | [d1, d2] => { results := [.lit (.bool true)], args := [d1, d2] }
  | _ => none }
def fnDfaAddRow : OpenClaim := { program := "ytolnpkdgnekcnaa", sum := "5b2bd7b69545b436c34dc8175f3c6c0f69083fbe205f0ba8e2aa05c5e6946b16", func := "pub-goatskin/laws.FnDfaAdd", spec := "fnDfaAdd", recurses := true, apart := false }
def FnDfaAddSaid : Prop := fnDfaAddRow.holds Try.pinned (OpenSpec.ofChange fnDfaAddSpec)

/-- ITS FALSE NEIGHBOUR: 'it returns false'. Refute it at one input. -/
def fnDfaAddWrong : ChangeSpec := { name := "fnDfaAdd", fn := fun _ => fun
  | [d1, d2] => { results := [.lit (.bool false)], args := [d1, d2] }
  | _ => none }
def FnDfaAddWrongFalsely : Prop := fnDfaAddRow.holds Try.pinned (OpenSpec.ofChange fnDfaAddWrong)

/-- 'laws.FnDfaRun': WHATEVER THE INPUT: true; the input reads as it did. -/
def fnDfaRunSpec : ChangeSpec := { name := "fnDfaRun", fn := fun _ => fun
  | [d1, d2, d3] => { results := [.lit (.bool true)], args := [d1, d2, d3] }
  | _ => none }
def fnDfaRunRow : OpenClaim := { program := "ytolnpkdgnekcnaa", sum := "5b2bd7b69545b436c34dc8175f3c6c0f69083fbe205f0ba8e2aa05c5e6946b16", func := "pub-goatskin/laws.FnDfaRun", spec := "fnDfaRun", recurses := true, apart := false }
def FnDfaRunSaid : Prop := fnDfaRunRow.holds Try.pinned (OpenSpec.ofChange fnDfaRunSpec)

/-- ITS FALSE NEIGHBOUR: 'it returns false'. Refute it at one input. -/
def fnDfaRunWrong : ChangeSpec := { name := "fnDfaRun", fn := fun _ => fun
  | [d1, d2, d3] => { results := [.lit (.bool false)], args := [d1, d2, d3] }
  | _ => none }
def FnDfaRunWrongFalsely : Prop := fnDfaRunRow.holds Try.pinned (OpenSpec.ofChange fnDfaRunWrong)

/-- 'laws.FnRegistryOrder': WHATEVER THE INPUT: true; the input reads as it did. -/
def fnRegistryOrderSpec : ChangeSpec := { name := "fnRegistryOrder", fn := fun _ => fun
  | [d1, d2, d3] => { results := [.lit (.bool true)], args := [d1, d2, d3] }
  | _ => none }
def fnRegistryOrderRow : OpenClaim := { program := "ytolnpkdgnekcnaa", sum := "5b2bd7b69545b436c34dc8175f3c6c0f69083fbe205f0ba8e2aa05c5e6946b16", func := "pub-goatskin/laws.FnRegistryOrder", spec := "fnRegistryOrder", apart := false }
def FnRegistryOrderSaid : Prop := fnRegistryOrderRow.holds Try.pinned (OpenSpec.ofChange fnRegistryOrderSpec)

/-- ITS FALSE NEIGHBOUR: 'it returns false'. Refute it at one input. -/
def fnRegistryOrderWrong : ChangeSpec := { name := "fnRegistryOrder", fn := fun _ => fun
  | [d1, d2, d3] => { results := [.lit (.bool false)], args := [d1, d2, d3] }
  | _ => none }
def FnRegistryOrderWrongFalsely : Prop := fnRegistryOrderRow.holds Try.pinned (OpenSpec.ofChange fnRegistryOrderWrong)

/- THE SECOND FORM. 'bulk': how many values and letters a reading holds, each counted each time it is reached (what is shared counts as often as it is met; a slice's spare places count too). A statement '..UptoSaid' is the law's where the arguments, and the package variables that the reading takes, are together of bulk at most 1048576: NARROWER than '..Said'. Prove '..Said' where nothing that the law and all that it calls make is longer than what came in: it says more and counts as full. Else prove '..UptoSaid'. A law counts once. -/
mutual
def uptoBulk {H : Type} : DataW H → Nat
  | .lit (.string bytes) => bytes.length + 1
  | .lit _ => 1
  | .nil => 1
  | .ptr d => uptoBulk d + 1
  | .slice elems spare => uptoBulkAll elems + uptoBulkAll spare + 1
  | .agg parts => uptoBulkAll parts + 1
  | .iface _ d => uptoBulk d + 1
  | .map entries => uptoBulkEntries entries + 1
  | .held _ => 1
def uptoBulkAll {H : Type} : List (DataW H) → Nat
  | [] => 0
  | d :: r => uptoBulk d + uptoBulkAll r
def uptoBulkEntries {H : Type} : List (Lit × DataW H) → Nat
  | [] => 0
  | x :: r => uptoBulkEntry x + uptoBulkEntries r
def uptoBulkEntry {H : Type} : Lit × DataW H → Nat
  | (.string bytes, d) => bytes.length + uptoBulk d + 1
  | (_, d) => uptoBulk d + 1
 end
def uptoSmall : (H : Type) → List (DataW H) → Bool := fun _ ds => decide (uptoBulkAll ds ≤ 1048576)
def OpenSpec.upto (s : _root_.Go.ChangeSpec) : _root_.Go.OpenSpec := { _root_.Go.OpenSpec.ofChange s with cond := some uptoSmall }

/-- 'laws.FnDfaAdd', WHERE WHAT IT READS IS OF BULK AT MOST 1048576: true; the input reads as it did. -/
def fnDfaAddUptoRow : OpenClaim := { program := "ytolnpkdgnekcnaa", sum := "5b2bd7b69545b436c34dc8175f3c6c0f69083fbe205f0ba8e2aa05c5e6946b16", func := "pub-goatskin/laws.FnDfaAdd", spec := "fnDfaAdd", recurses := true, apart := false, narrowed := true }
def FnDfaAddUptoSaid : Prop := fnDfaAddUptoRow.holds Try.pinned (OpenSpec.upto fnDfaAddSpec)

/-- 'laws.FnDfaRun', WHERE WHAT IT READS IS OF BULK AT MOST 1048576: true; the input reads as it did. -/
def fnDfaRunUptoRow : OpenClaim := { program := "ytolnpkdgnekcnaa", sum := "5b2bd7b69545b436c34dc8175f3c6c0f69083fbe205f0ba8e2aa05c5e6946b16", func := "pub-goatskin/laws.FnDfaRun", spec := "fnDfaRun", recurses := true, apart := false, narrowed := true }
def FnDfaRunUptoSaid : Prop := fnDfaRunUptoRow.holds Try.pinned (OpenSpec.upto fnDfaRunSpec)

/-- 'laws.FnRegistryOrder', WHERE WHAT IT READS IS OF BULK AT MOST 1048576: true; the input reads as it did. -/
def fnRegistryOrderUptoRow : OpenClaim := { program := "ytolnpkdgnekcnaa", sum := "5b2bd7b69545b436c34dc8175f3c6c0f69083fbe205f0ba8e2aa05c5e6946b16", func := "pub-goatskin/laws.FnRegistryOrder", spec := "fnRegistryOrder", apart := false, narrowed := true }
def FnRegistryOrderUptoSaid : Prop := fnRegistryOrderUptoRow.holds Try.pinned (OpenSpec.upto fnRegistryOrderSpec)

end Rows
end Go.Proofs.Ytolnpkdgnekcnaa
