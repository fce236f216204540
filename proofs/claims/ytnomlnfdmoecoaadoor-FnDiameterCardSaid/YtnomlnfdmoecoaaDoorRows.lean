/-
  NARROWER THAN 'FOR EVERY INPUT', by the rows' own cells (each row's printed sentence says how): FnDiameter: laid · FnParamWindow: laid.
  DERIVED. THE GIVEN ROWS OF THIS SEAT. 2 by the template 'for every input the law returns true; each argument reads behind the call as it read before'; 0 by the template 'total and deterministic' (their statements: YtnomlnfdmoecoaaDoorTotals.lean).
  GIVEN WITH THE SEED: the statements are not yours to turn. If you find one false, say at which input.
  Laid BY PROGRAM, IN A SANDBOX (cutbox-rows.mjs): the forced cells as the released guide's own fill.sh prints them over the translation 684a35beb433a609… (all of the seat's roots in one cut). By AI agents, Wed Nov 11 2026. No macro, syntax, notation, axiom, sorry.
-/
import Derived.Test.YtnomlnfdmoecoaaDoorChecked
import GoSem.Claim
import GoSem.ClaimJoined
import GoSem.ClaimMapViews
import Derived.JoinedTies
import Derived.KernelRfl
namespace Go.Proofs.YtnomlnfdmoecoaaDoor
/- THE CELL 'sum', in the pinned program and in every row, IS THE sha256 OF THE DUMP (.gsa) THAT YtnomlnfdmoecoaaDoorProg.lean LOADS. Nothing in Lean hashes anything: it is a label: what it is worth is what the hold of that sum in a sandbox is worth. -/
noncomputable def Tryd.pinned : Pinned := { name := "ytnomlnfdmoecoaadoor", sum := "684a35beb433a60922f743b7ae57259280036161c2b2e38c1330bd16f589e66d", checked := Tryd.checked }
namespace Rows
def none {H : Type} : Left H := { results := [], args := [] }

/- WHAT THE LISTED PACKAGE-LEVEL VARIABLES READ AS WHEN THE CALL BEGINS. Each datum BY PROGRAM (the guide's laid-datum.mjs) off the statement by which the dump's own 'gosem.cut.vars' lays the variable. In a bare row this is a premise. The card (YtnomlnfdmoecoaaDoorCards.lean) ties it to the program's text. -/
def laid_pub_goatskin_pub_vellum_levenshtein_ErrTooManyStates {H : Type} : DataW H := .iface "*errors.errorString" (.ptr (.agg [.lit (.string [100, 102, 97, 32, 99, 111, 110, 116, 97, 105, 110, 115, 32, 109, 111, 114, 101, 32, 116, 104, 97, 110, 32, 49, 48, 48, 48, 48, 32, 115, 116, 97, 116, 101, 115])]))

/-- 'laws.FnDiameter': WHATEVER THE INPUT: true; the input reads as it did. -/
def fnDiameterSpec : ChangeSpec := { name := "fnDiameter", fn := fun _ => fun
  | [d1, d2] => { results := [.lit (.bool true)], args := [d1, d2] }
  | _ => none }
def fnDiameterRow : OpenClaim := { program := "ytnomlnfdmoecoaadoor", sum := "684a35beb433a60922f743b7ae57259280036161c2b2e38c1330bd16f589e66d", func := "pub-goatskin/laws.FnDiameter", spec := "fnDiameter", unfollowed := true, recurses := true, named := ["pub-goatskin/pub/vellum/levenshtein.ErrTooManyStates"], plainKeys := false, apart := false, laid := [("pub-goatskin/pub/vellum/levenshtein.ErrTooManyStates", laid_pub_goatskin_pub_vellum_levenshtein_ErrTooManyStates)] }
def FnDiameterSaid : Prop := fnDiameterRow.holds Tryd.pinned (OpenSpec.ofChange fnDiameterSpec)

/-- ITS FALSE NEIGHBOUR: 'it returns false'. Refute it at one input. -/
def fnDiameterWrong : ChangeSpec := { name := "fnDiameter", fn := fun _ => fun
  | [d1, d2] => { results := [.lit (.bool false)], args := [d1, d2] }
  | _ => none }
def FnDiameterWrongFalsely : Prop := fnDiameterRow.holds Tryd.pinned (OpenSpec.ofChange fnDiameterWrong)

/-- 'laws.FnParamWindow': WHATEVER THE INPUT: true; the input reads as it did. -/
def fnParamWindowSpec : ChangeSpec := { name := "fnParamWindow", fn := fun _ => fun
  | [d1, d2, d3, d4, d5] => { results := [.lit (.bool true)], args := [d1, d2, d3, d4, d5] }
  | _ => none }
def fnParamWindowRow : OpenClaim := { program := "ytnomlnfdmoecoaadoor", sum := "684a35beb433a60922f743b7ae57259280036161c2b2e38c1330bd16f589e66d", func := "pub-goatskin/laws.FnParamWindow", spec := "fnParamWindow", unfollowed := true, recurses := true, named := ["pub-goatskin/pub/vellum/levenshtein.ErrTooManyStates"], plainKeys := false, apart := false, laid := [("pub-goatskin/pub/vellum/levenshtein.ErrTooManyStates", laid_pub_goatskin_pub_vellum_levenshtein_ErrTooManyStates)] }
def FnParamWindowSaid : Prop := fnParamWindowRow.holds Tryd.pinned (OpenSpec.ofChange fnParamWindowSpec)

/-- ITS FALSE NEIGHBOUR: 'it returns false'. Refute it at one input. -/
def fnParamWindowWrong : ChangeSpec := { name := "fnParamWindow", fn := fun _ => fun
  | [d1, d2, d3, d4, d5] => { results := [.lit (.bool false)], args := [d1, d2, d3, d4, d5] }
  | _ => none }
def FnParamWindowWrongFalsely : Prop := fnParamWindowRow.holds Tryd.pinned (OpenSpec.ofChange fnParamWindowWrong)

/- THE SECOND FORM. 'bulk': how many values and letters a reading holds, each counted each time it is reached (what is shared counts as often as it is met; a slice's spare places count too). A statement '..UptoSaid' is the law's where the arguments, and the package variables that the reading takes, are together of bulk at most 1048576: NARROWER than '..Said'. Prove '..Said' where nothing that the law and all that it calls make is longer than what came in: it says more and counts as full. Else prove '..UptoSaid'. A law counts once. -/
mutual
def uptoBulk {H : Type} : DataW H → Nat
  | .lit (.string bytes) => bytes.length + 1
  | .lit _ => 1
  | .nil => 1
  | .ptr d => uptoBulk d + 1
  | .slice elems spare => uptoBulkAll elems + uptoBulkAll spare + 1
  | .agg parts => uptoBulkAll parts + 1
  | .iface _ d => uptoBulk d + 1
  | .map entries => uptoBulkEntries entries + 1
  | .held _ => 1
def uptoBulkAll {H : Type} : List (DataW H) → Nat
  | [] => 0
  | d :: r => uptoBulk d + uptoBulkAll r
def uptoBulkEntries {H : Type} : List (Lit × DataW H) → Nat
  | [] => 0
  | x :: r => uptoBulkEntry x + uptoBulkEntries r
def uptoBulkEntry {H : Type} : Lit × DataW H → Nat
  | (.string bytes, d) => bytes.length + uptoBulk d + 1
  | (_, d) => uptoBulk d + 1
 end
def uptoSmall : (H : Type) → List (DataW H) → Bool := fun _ ds => decide (uptoBulkAll ds ≤ 1048576)
def OpenSpec.upto (s : _root_.Go.ChangeSpec) : _root_.Go.OpenSpec := { _root_.Go.OpenSpec.ofChange s with cond := some uptoSmall }

/-- 'laws.FnDiameter', WHERE WHAT IT READS IS OF BULK AT MOST 1048576: true; the input reads as it did. -/
def fnDiameterUptoRow : OpenClaim := { program := "ytnomlnfdmoecoaadoor", sum := "684a35beb433a60922f743b7ae57259280036161c2b2e38c1330bd16f589e66d", func := "pub-goatskin/laws.FnDiameter", spec := "fnDiameter", unfollowed := true, recurses := true, named := ["pub-goatskin/pub/vellum/levenshtein.ErrTooManyStates"], plainKeys := false, apart := false, laid := [("pub-goatskin/pub/vellum/levenshtein.ErrTooManyStates", laid_pub_goatskin_pub_vellum_levenshtein_ErrTooManyStates)], narrowed := true }
def FnDiameterUptoSaid : Prop := fnDiameterUptoRow.holds Tryd.pinned (OpenSpec.upto fnDiameterSpec)

/-- 'laws.FnParamWindow', WHERE WHAT IT READS IS OF BULK AT MOST 1048576: true; the input reads as it did. -/
def fnParamWindowUptoRow : OpenClaim := { program := "ytnomlnfdmoecoaadoor", sum := "684a35beb433a60922f743b7ae57259280036161c2b2e38c1330bd16f589e66d", func := "pub-goatskin/laws.FnParamWindow", spec := "fnParamWindow", unfollowed := true, recurses := true, named := ["pub-goatskin/pub/vellum/levenshtein.ErrTooManyStates"], plainKeys := false, apart := false, laid := [("pub-goatskin/pub/vellum/levenshtein.ErrTooManyStates", laid_pub_goatskin_pub_vellum_levenshtein_ErrTooManyStates)], narrowed := true }
def FnParamWindowUptoSaid : Prop := fnParamWindowUptoRow.holds Tryd.pinned (OpenSpec.upto fnParamWindowSpec)

end Rows
end Go.Proofs.YtnomlnfdmoecoaaDoor
