/-
  DERIVED. GIVEN WITH THE SEED: THE CARDS: each row of YtnomlnfdmoecoaaDoorRows.lean that lists a variable, with what it lists TIED to the program's text (the seventh form; the later family's looks); each row that meets fmt, with fmt's text TOLD by the authors' own Lean function (tested against real Go, not proved from fmt's source: count such statements apart). THE CARD IS WHAT COUNTS. Prove the row's statement (the work); the ties are given (YtnomlnfdmoecoaaDoorTie.lean); close each card by the builder's one call (the guide's Derived/Test/ToyasCard.lean, 'card_holds'). Laid BY PROGRAM, IN A SANDBOX (cutbox-door.mjs). By AI agents, Wed Nov 11 2026. No macro, syntax, notation, axiom, sorry.
-/
import Derived.Test.YtnomlnfdmoecoaaDoorRows
import GoSem.ClaimSeven
namespace Go.Proofs.YtnomlnfdmoecoaaDoor
namespace Rows

/-- THE TIED CARD OF 'laws.FnDiameter'. -/
def fnDiameterCard : Claim7 := { stood := { row := fnDiameterRow, standIns := [], harness := (true, "efe45d1e0f82c54419afca5ec016ac0abcfa8ab333275b2fae5a528b9ef7462d"), looks := false }, kinds := [], alts := [], laidByText := true, laidKinds := [.sentinel], laidTests := true, laidLooks := .later }
def FnDiameterCardSaid : Prop := Claim7.holds Tryd.pinned (.plain (OpenSpec.ofChange fnDiameterSpec)) fnDiameterCard

/-- THE TIED CARD OF 'laws.FnParamWindow'. -/
def fnParamWindowCard : Claim7 := { stood := { row := fnParamWindowRow, standIns := [], harness := (true, "efe45d1e0f82c54419afca5ec016ac0abcfa8ab333275b2fae5a528b9ef7462d"), looks := false }, kinds := [], alts := [], laidByText := true, laidKinds := [.sentinel], laidTests := true, laidLooks := .later }
def FnParamWindowCardSaid : Prop := Claim7.holds Tryd.pinned (.plain (OpenSpec.ofChange fnParamWindowSpec)) fnParamWindowCard

/-- THE SECOND FORM's CARD OF 'laws.FnDiameter'. -/
def fnDiameterUptoCard : Claim7 := { stood := { row := fnDiameterUptoRow, standIns := [], harness := (true, "efe45d1e0f82c54419afca5ec016ac0abcfa8ab333275b2fae5a528b9ef7462d"), looks := false }, kinds := [], alts := [], laidByText := true, laidKinds := [.sentinel], laidTests := true, laidLooks := .later }
def FnDiameterUptoCardSaid : Prop := Claim7.holds Tryd.pinned (.plain (OpenSpec.upto fnDiameterSpec)) fnDiameterUptoCard

/-- THE SECOND FORM's CARD OF 'laws.FnParamWindow'. -/
def fnParamWindowUptoCard : Claim7 := { stood := { row := fnParamWindowUptoRow, standIns := [], harness := (true, "efe45d1e0f82c54419afca5ec016ac0abcfa8ab333275b2fae5a528b9ef7462d"), looks := false }, kinds := [], alts := [], laidByText := true, laidKinds := [.sentinel], laidTests := true, laidLooks := .later }
def FnParamWindowUptoCardSaid : Prop := Claim7.holds Tryd.pinned (.plain (OpenSpec.upto fnParamWindowSpec)) fnParamWindowUptoCard
end Rows
end Go.Proofs.YtnomlnfdmoecoaaDoor
