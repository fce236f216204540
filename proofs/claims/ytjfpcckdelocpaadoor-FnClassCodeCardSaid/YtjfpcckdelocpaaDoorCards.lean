/-
  DERIVED. GIVEN WITH THE SEED: THE CARDS: each row of YtjfpcckdelocpaaDoorRows.lean that lists a variable, with what it lists TIED to the program's text (the seventh form; the later family's looks); each row that meets fmt, with fmt's text TOLD by the authors' own Lean function (tested against real Go, not proved from fmt's source: count such statements apart). THE CARD IS WHAT COUNTS. Prove the row's statement (the work); the ties are given (YtjfpcckdelocpaaDoorTie.lean); close each card by the builder's one call (the guide's Derived/Test/ToyasCard.lean, 'card_holds'). Laid BY PROGRAM, IN A SANDBOX (cutbox-door.mjs). By AI agents, Wed Nov 11 2026. No macro, syntax, notation, axiom, sorry.
-/
import Derived.Test.YtjfpcckdelocpaaDoorRows
import GoSem.ClaimSeven
namespace Go.Proofs.YtjfpcckdelocpaaDoor
namespace Rows

/-- THE TIED CARD OF 'laws.FnSequencesInner'. -/
def fnSequencesInnerCard : Claim7 := { stood := { row := fnSequencesInnerRow, standIns := [], harness := (true, "710ae524fccc494d7b7b5a8982daadcae5433c72111cd0ada9330ae0c09b71e3"), looks := true }, kinds := [], alts := [], laidByText := true, laidKinds := [.data, .data], laidTests := true, laidLooks := .later }
def FnSequencesInnerCardSaid : Prop := Claim7.holds Tryd.pinned (.plain (OpenSpec.ofChange fnSequencesInnerSpec)) fnSequencesInnerCard

/-- THE TIED CARD OF 'laws.FnSequencesWidth'. -/
def fnSequencesWidthCard : Claim7 := { stood := { row := fnSequencesWidthRow, standIns := [], harness := (true, "710ae524fccc494d7b7b5a8982daadcae5433c72111cd0ada9330ae0c09b71e3"), looks := true }, kinds := [], alts := [], laidByText := true, laidKinds := [.data, .data], laidTests := true, laidLooks := .later }
def FnSequencesWidthCardSaid : Prop := Claim7.holds Tryd.pinned (.plain (OpenSpec.ofChange fnSequencesWidthSpec)) fnSequencesWidthCard

/-- THE TIED CARD OF 'laws.FnSequencesClass'. -/
def fnSequencesClassCard : Claim7 := { stood := { row := fnSequencesClassRow, standIns := [], harness := (true, "710ae524fccc494d7b7b5a8982daadcae5433c72111cd0ada9330ae0c09b71e3"), looks := true }, kinds := [], alts := [], laidByText := true, laidKinds := [.data, .data], laidTests := true, laidLooks := .later }
def FnSequencesClassCardSaid : Prop := Claim7.holds Tryd.pinned (.plain (OpenSpec.ofChange fnSequencesClassSpec)) fnSequencesClassCard

/-- THE TIED CARD OF 'laws.FnClassCode'. -/
def fnClassCodeCard : Claim7 := { stood := { row := fnClassCodeRow, standIns := [], harness := (true, "710ae524fccc494d7b7b5a8982daadcae5433c72111cd0ada9330ae0c09b71e3"), looks := true }, kinds := [], alts := [], laidByText := true, laidKinds := [.data, .data, .data, .data, .sentinel, .sentinel, .sentinel, .sentinel, .sentinel, .pinned], laidTests := true, laidLooks := .later }
def FnClassCodeCardSaid : Prop := Claim7.holds Tryd.pinned (.plain (OpenSpec.ofChange fnClassCodeSpec)) fnClassCodeCard

/-- THE SECOND FORM's CARD OF 'laws.FnSequencesInner'. -/
def fnSequencesInnerUptoCard : Claim7 := { stood := { row := fnSequencesInnerUptoRow, standIns := [], harness := (true, "710ae524fccc494d7b7b5a8982daadcae5433c72111cd0ada9330ae0c09b71e3"), looks := true }, kinds := [], alts := [], laidByText := true, laidKinds := [.data, .data], laidTests := true, laidLooks := .later }
def FnSequencesInnerUptoCardSaid : Prop := Claim7.holds Tryd.pinned (.plain (OpenSpec.upto fnSequencesInnerSpec)) fnSequencesInnerUptoCard

/-- THE SECOND FORM's CARD OF 'laws.FnSequencesWidth'. -/
def fnSequencesWidthUptoCard : Claim7 := { stood := { row := fnSequencesWidthUptoRow, standIns := [], harness := (true, "710ae524fccc494d7b7b5a8982daadcae5433c72111cd0ada9330ae0c09b71e3"), looks := true }, kinds := [], alts := [], laidByText := true, laidKinds := [.data, .data], laidTests := true, laidLooks := .later }
def FnSequencesWidthUptoCardSaid : Prop := Claim7.holds Tryd.pinned (.plain (OpenSpec.upto fnSequencesWidthSpec)) fnSequencesWidthUptoCard

/-- THE SECOND FORM's CARD OF 'laws.FnSequencesClass'. -/
def fnSequencesClassUptoCard : Claim7 := { stood := { row := fnSequencesClassUptoRow, standIns := [], harness := (true, "710ae524fccc494d7b7b5a8982daadcae5433c72111cd0ada9330ae0c09b71e3"), looks := true }, kinds := [], alts := [], laidByText := true, laidKinds := [.data, .data], laidTests := true, laidLooks := .later }
def FnSequencesClassUptoCardSaid : Prop := Claim7.holds Tryd.pinned (.plain (OpenSpec.upto fnSequencesClassSpec)) fnSequencesClassUptoCard

/-- THE SECOND FORM's CARD OF 'laws.FnClassCode'. -/
def fnClassCodeUptoCard : Claim7 := { stood := { row := fnClassCodeUptoRow, standIns := [], harness := (true, "710ae524fccc494d7b7b5a8982daadcae5433c72111cd0ada9330ae0c09b71e3"), looks := true }, kinds := [], alts := [], laidByText := true, laidKinds := [.data, .data, .data, .data, .sentinel, .sentinel, .sentinel, .sentinel, .sentinel, .pinned], laidTests := true, laidLooks := .later }
def FnClassCodeUptoCardSaid : Prop := Claim7.holds Tryd.pinned (.plain (OpenSpec.upto fnClassCodeSpec)) fnClassCodeUptoCard
end Rows
end Go.Proofs.YtjfpcckdelocpaaDoor
