/-
  No cell of these rows narrows 'for every input' (looked for: loops, veiled, ifaces, maps, wideKeys, modest, calm, conditions, laid).
  DERIVED. THE GIVEN ROWS OF THIS SEAT. 4 by the template 'for every input the law returns true; each argument reads behind the call as it read before'; 0 by the template 'total and deterministic' (their statements: YtiadbheejlhimaaTotals.lean).
  GIVEN WITH THE SEED: the statements are not yours to turn. If you find one false, say at which input.
  Laid BY PROGRAM, IN A SANDBOX (cutbox-rows.mjs): the forced cells as the released guide's own fill.sh prints them over the translation 6f4ba00330a4f14c… (all of the seat's roots in one cut). By AI agents, Wed Nov 11 2026. No macro, syntax, notation, axiom, sorry.
-/
import Derived.Test.YtiadbheejlhimaaChecked
import GoSem.Claim
import GoSem.ClaimJoined
import GoSem.ClaimMapViews
import Derived.JoinedTies
import Derived.KernelRfl
namespace Go.Proofs.Ytiadbheejlhimaa
/- THE CELL 'sum', in the pinned program and in every row, IS THE sha256 OF THE DUMP (.gsa) THAT YtiadbheejlhimaaProg.lean LOADS. Nothing in Lean hashes anything: it is a label: what it is worth is what the hold of that sum in a sandbox is worth. -/
noncomputable def Try.pinned : Pinned := { name := "ytiadbheejlhimaa", sum := "6f4ba00330a4f14ca421c17d56b3da8bc8f8aa84490989cb436b67de3b401598", checked := Try.checked }
namespace Rows
def none {H : Type} : Left H := { results := [], args := [] }

/-- 'laws.FnPlacesStart': WHATEVER THE INPUT: true; the input reads as it did. -/
def fnPlacesStartSpec : ChangeSpec := { name := "fnPlacesStart", fn := fun _ => fun
  | [d1, d2, d3, d4, d5] => { results := [.lit (.bool true)], args := [d1, d2, d3, d4, d5] }
  | _ => none }
def fnPlacesStartRow : OpenClaim := { program := "ytiadbheejlhimaa", sum := "6f4ba00330a4f14ca421c17d56b3da8bc8f8aa84490989cb436b67de3b401598", func := "pub-goatskin/laws.FnPlacesStart", spec := "fnPlacesStart", unfollowed := true, recurses := true, apart := false }
def FnPlacesStartSaid : Prop := fnPlacesStartRow.holds Try.pinned (OpenSpec.ofChange fnPlacesStartSpec)

/-- ITS FALSE NEIGHBOUR: 'it returns false'. Refute it at one input. -/
def fnPlacesStartWrong : ChangeSpec := { name := "fnPlacesStart", fn := fun _ => fun
  | [d1, d2, d3, d4, d5] => { results := [.lit (.bool false)], args := [d1, d2, d3, d4, d5] }
  | _ => none }
def FnPlacesStartWrongFalsely : Prop := fnPlacesStartRow.holds Try.pinned (OpenSpec.ofChange fnPlacesStartWrong)

/-- 'laws.FnUtf8Dfa': WHATEVER THE INPUT: true; the input reads as it did. -/
def fnUtf8DfaSpec : ChangeSpec := { name := "fnUtf8Dfa", fn := fun _ => fun
  | [d1, d2, d3] => { results := [.lit (.bool true)], args := [d1, d2, d3] }
  | _ => none }
def fnUtf8DfaRow : OpenClaim := { program := "ytiadbheejlhimaa", sum := "6f4ba00330a4f14ca421c17d56b3da8bc8f8aa84490989cb436b67de3b401598", func := "pub-goatskin/laws.FnUtf8Dfa", spec := "fnUtf8Dfa", unfollowed := true, recurses := true, apart := false }
def FnUtf8DfaSaid : Prop := fnUtf8DfaRow.holds Try.pinned (OpenSpec.ofChange fnUtf8DfaSpec)

/-- ITS FALSE NEIGHBOUR: 'it returns false'. Refute it at one input. -/
def fnUtf8DfaWrong : ChangeSpec := { name := "fnUtf8Dfa", fn := fun _ => fun
  | [d1, d2, d3] => { results := [.lit (.bool false)], args := [d1, d2, d3] }
  | _ => none }
def FnUtf8DfaWrongFalsely : Prop := fnUtf8DfaRow.holds Try.pinned (OpenSpec.ofChange fnUtf8DfaWrong)

/-- 'laws.FnUtf8DfaOrder': WHATEVER THE INPUT: true; the input reads as it did. -/
def fnUtf8DfaOrderSpec : ChangeSpec := { name := "fnUtf8DfaOrder", fn := fun _ => fun
  | [d1, d2, d3, d4, d5] => { results := [.lit (.bool true)], args := [d1, d2, d3, d4, d5] }
  | _ => none }
def fnUtf8DfaOrderRow : OpenClaim := { program := "ytiadbheejlhimaa", sum := "6f4ba00330a4f14ca421c17d56b3da8bc8f8aa84490989cb436b67de3b401598", func := "pub-goatskin/laws.FnUtf8DfaOrder", spec := "fnUtf8DfaOrder", unfollowed := true, recurses := true, apart := false }
def FnUtf8DfaOrderSaid : Prop := fnUtf8DfaOrderRow.holds Try.pinned (OpenSpec.ofChange fnUtf8DfaOrderSpec)

/-- ITS FALSE NEIGHBOUR: 'it returns false'. Refute it at one input. -/
def fnUtf8DfaOrderWrong : ChangeSpec := { name := "fnUtf8DfaOrder", fn := fun _ => fun
  | [d1, d2, d3, d4, d5] => { results := [.lit (.bool false)], args := [d1, d2, d3, d4, d5] }
  | _ => none }
def FnUtf8DfaOrderWrongFalsely : Prop := fnUtf8DfaOrderRow.holds Try.pinned (OpenSpec.ofChange fnUtf8DfaOrderWrong)

/-- 'laws.FnPlacesVectors': WHATEVER THE INPUT: true; the input reads as it did. -/
def fnPlacesVectorsSpec : ChangeSpec := { name := "fnPlacesVectors", fn := fun _ => fun
  | [d1, d2, d3, d4] => { results := [.lit (.bool true)], args := [d1, d2, d3, d4] }
  | _ => none }
def fnPlacesVectorsRow : OpenClaim := { program := "ytiadbheejlhimaa", sum := "6f4ba00330a4f14ca421c17d56b3da8bc8f8aa84490989cb436b67de3b401598", func := "pub-goatskin/laws.FnPlacesVectors", spec := "fnPlacesVectors", unfollowed := true, recurses := true, apart := false }
def FnPlacesVectorsSaid : Prop := fnPlacesVectorsRow.holds Try.pinned (OpenSpec.ofChange fnPlacesVectorsSpec)

/-- ITS FALSE NEIGHBOUR: 'it returns false'. Refute it at one input. -/
def fnPlacesVectorsWrong : ChangeSpec := { name := "fnPlacesVectors", fn := fun _ => fun
  | [d1, d2, d3, d4] => { results := [.lit (.bool false)], args := [d1, d2, d3, d4] }
  | _ => none }
def FnPlacesVectorsWrongFalsely : Prop := fnPlacesVectorsRow.holds Try.pinned (OpenSpec.ofChange fnPlacesVectorsWrong)

/- THE SECOND FORM. 'bulk': how many values and letters a reading holds, each counted each time it is reached (what is shared counts as often as it is met; a slice's spare places count too). A statement '..UptoSaid' is the law's where the arguments, and the package variables that the reading takes, are together of bulk at most 1048576: NARROWER than '..Said'. Prove '..Said' where nothing that the law and all that it calls make is longer than what came in: it says more and counts as full. Else prove '..UptoSaid'. A law counts once. -/
mutual
def uptoBulk {H : Type} : DataW H → Nat
  | .lit (.string bytes) => bytes.length + 1
  | .lit _ => 1
  | .nil => 1
  | .ptr d => uptoBulk d + 1
  | .slice elems spare => uptoBulkAll elems + uptoBulkAll spare + 1
  | .agg parts => uptoBulkAll parts + 1
  | .iface _ d => uptoBulk d + 1
  | .map entries => uptoBulkEntries entries + 1
  | .held _ => 1
def uptoBulkAll {H : Type} : List (DataW H) → Nat
  | [] => 0
  | d :: r => uptoBulk d + uptoBulkAll r
def uptoBulkEntries {H : Type} : List (Lit × DataW H) → Nat
  | [] => 0
  | x :: r => uptoBulkEntry x + uptoBulkEntries r
def uptoBulkEntry {H : Type} : Lit × DataW H → Nat
  | (.string bytes, d) => bytes.length + uptoBulk d + 1
  | (_, d) => uptoBulk d + 1
 end
def uptoSmall : (H : Type) → List (DataW H) → Bool := fun _ ds => decide (uptoBulkAll ds ≤ 1048576)
def OpenSpec.upto (s : _root_.Go.ChangeSpec) : _root_.Go.OpenSpec := { _root_.Go.OpenSpec.ofChange s with cond := some uptoSmall }

/-- 'laws.FnPlacesStart', WHERE WHAT IT READS IS OF BULK AT MOST 1048576: true; the input reads as it did. -/
def fnPlacesStartUptoRow : OpenClaim := { program := "ytiadbheejlhimaa", sum := "6f4ba00330a4f14ca421c17d56b3da8bc8f8aa84490989cb436b67de3b401598", func := "pub-goatskin/laws.FnPlacesStart", spec := "fnPlacesStart", unfollowed := true, recurses := true, apart := false, narrowed := true }
def FnPlacesStartUptoSaid : Prop := fnPlacesStartUptoRow.holds Try.pinned (OpenSpec.upto fnPlacesStartSpec)

/-- 'laws.FnUtf8Dfa', WHERE WHAT IT READS IS OF BULK AT MOST 1048576: true; the input reads as it did. -/
def fnUtf8DfaUptoRow : OpenClaim := { program := "ytiadbheejlhimaa", sum := "6f4ba00330a4f14ca421c17d56b3da8bc8f8aa84490989cb436b67de3b401598", func := "pub-goatskin/laws.FnUtf8Dfa", spec := "fnUtf8Dfa", unfollowed := true, recurses := true, apart := false, narrowed := true }
def FnUtf8DfaUptoSaid : Prop := fnUtf8DfaUptoRow.holds Try.pinned (OpenSpec.upto fnUtf8DfaSpec)

/-- 'laws.FnUtf8DfaOrder', WHERE WHAT IT READS IS OF BULK AT MOST 1048576: true; the input reads as it did. -/
def fnUtf8DfaOrderUptoRow : OpenClaim := { program := "ytiadbheejlhimaa", sum := "6f4ba00330a4f14ca421c17d56b3da8bc8f8aa84490989cb436b67de3b401598", func := "pub-goatskin/laws.FnUtf8DfaOrder", spec := "fnUtf8DfaOrder", unfollowed := true, recurses := true, apart := false, narrowed := true }
def FnUtf8DfaOrderUptoSaid : Prop := fnUtf8DfaOrderUptoRow.holds Try.pinned (OpenSpec.upto fnUtf8DfaOrderSpec)

/-- 'laws.FnPlacesVectors', WHERE WHAT IT READS IS OF BULK AT MOST 1048576: true; the input reads as it did. -/
def fnPlacesVectorsUptoRow : OpenClaim := { program := "ytiadbheejlhimaa", sum := "6f4ba00330a4f14ca421c17d56b3da8bc8f8aa84490989cb436b67de3b401598", func := "pub-goatskin/laws.FnPlacesVectors", spec := "fnPlacesVectors", unfollowed := true, recurses := true, apart := false, narrowed := true }
def FnPlacesVectorsUptoSaid : Prop := fnPlacesVectorsUptoRow.holds Try.pinned (OpenSpec.upto fnPlacesVectorsSpec)

end Rows
end Go.Proofs.Ytiadbheejlhimaa
