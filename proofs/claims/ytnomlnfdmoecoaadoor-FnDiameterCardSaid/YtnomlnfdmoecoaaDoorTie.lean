/-
  DERIVED. GIVEN WITH THE SEED: THE PROGRAM's TIES (one call each: nine closed facts by the kernel) AND EACH ROW's TIE, after the 31st guide's Derived/Test/Toyas{Tie, Card}.lean. No idea stands in it: it is a product of the set-up. Laid BY PROGRAM, IN A SANDBOX (cutbox-door.mjs). By AI agents, Wed Nov 11 2026. No macro, syntax, notation, axiom, sorry.
-/
import Derived.Test.YtnomlnfdmoecoaaDoorRows
import Derived.LaidByTextLater
import Derived.SevenTiedAt
import Derived.LaidSub
import Derived.LaidOnce
namespace Go.Proofs.YtnomlnfdmoecoaaDoor
open Go
set_option maxRecDepth 100000
theorem seatTie1 : Tryd.prog.laidByTextLater [("pub-goatskin/pub/vellum/levenshtein.ErrTooManyStates", Rows.laid_pub_goatskin_pub_vellum_levenshtein_ErrTooManyStates)] [.sentinel] true :=
  Program.laidByTextLater_by_one 33 8 65 (by kernel_rfl) (by kernel_rfl) (by kernel_rfl) (by kernel_rfl) (by kernel_rfl) (by kernel_rfl) (fun _ _ => by kernel_rfl)
theorem noOwnUnsafe : Tryd.pinned.checked.prog.headLifts.contains "ownunsafe" = false := by kernel_rfl
theorem tie : Tryd.prog.laidByTextLater [("pub-goatskin/pub/vellum/levenshtein.ErrTooManyStates", Rows.laid_pub_goatskin_pub_vellum_levenshtein_ErrTooManyStates)] [.sentinel] true :=
  Program.laidByTextLater.sub seatTie1 ["pub-goatskin/pub/vellum/levenshtein.ErrTooManyStates"] (by kernel_rfl) (by kernel_rfl)
theorem fnDiameter_row_tie : Rows.fnDiameterRow.laidByTextAt .later Tryd.pinned [.sentinel] true :=
  OpenClaim.laidByTextAt_later rfl rfl tie noOwnUnsafe
theorem fnParamWindow_row_tie : Rows.fnParamWindowRow.laidByTextAt .later Tryd.pinned [.sentinel] true :=
  OpenClaim.laidByTextAt_later rfl rfl tie noOwnUnsafe
theorem fnDiameterUpto_row_tie : Rows.fnDiameterUptoRow.laidByTextAt .later Tryd.pinned [.sentinel] true :=
  OpenClaim.laidByTextAt_later rfl rfl tie noOwnUnsafe
theorem fnParamWindowUpto_row_tie : Rows.fnParamWindowUptoRow.laidByTextAt .later Tryd.pinned [.sentinel] true :=
  OpenClaim.laidByTextAt_later rfl rfl tie noOwnUnsafe
end Go.Proofs.YtnomlnfdmoecoaaDoor
