/-
  DERIVED. GIVEN WITH THE SEED: THE PROGRAM's TIES (one call each: nine closed facts by the kernel) AND EACH ROW's TIE, after the 31st guide's Derived/Test/Toyas{Tie, Card}.lean. No idea stands in it: it is a product of the set-up. Laid BY PROGRAM, IN A SANDBOX (cutbox-door.mjs). By AI agents, Wed Nov 11 2026. No macro, syntax, notation, axiom, sorry.
-/
import Derived.Test.YtjfpcckdelocpaaDoorRows
import Derived.LaidByTextLater
import Derived.SevenTiedAt
import Derived.LaidSub
import Derived.LaidOnce
namespace Go.Proofs.YtjfpcckdelocpaaDoor
open Go
set_option maxRecDepth 100000
theorem seatTie1 : Tryd.prog.laidByTextLater [("pub-goatskin/pub/vellum/utf8.nilRange", Rows.laid_pub_goatskin_pub_vellum_utf8_nilRange), ("pub-goatskin/pub/vellum/utf8.nilScalarRange", Rows.laid_pub_goatskin_pub_vellum_utf8_nilScalarRange)] [.data, .data] true :=
  Program.laidByTextLater_by_one 218 8 189 (by kernel_rfl) (by kernel_rfl) (by kernel_rfl) (by kernel_rfl) (by kernel_rfl) (by kernel_rfl) (fun _ _ => by kernel_rfl)
theorem seatTie2 : Tryd.prog.laidByTextLater [("pub-goatskin/pub/vellum/utf8.nilRange", Rows.laid_pub_goatskin_pub_vellum_utf8_nilRange), ("pub-goatskin/pub/vellum/utf8.nilScalarRange", Rows.laid_pub_goatskin_pub_vellum_utf8_nilScalarRange), ("unicode.asciiFold", Rows.laid_unicode_asciiFold), ("unicode.caseOrbit", Rows.laid_unicode_caseOrbit), ("pub-goatskin/pub/vellum/regexp.ErrTooManyStates", Rows.laid_pub_goatskin_pub_vellum_regexp_ErrTooManyStates), ("pub-goatskin/pub/vellum/regexp.ErrNoEmpty", Rows.laid_pub_goatskin_pub_vellum_regexp_ErrNoEmpty), ("pub-goatskin/pub/vellum/regexp.ErrNoWordBoundary", Rows.laid_pub_goatskin_pub_vellum_regexp_ErrNoWordBoundary), ("pub-goatskin/pub/vellum/regexp.ErrNoLazy", Rows.laid_pub_goatskin_pub_vellum_regexp_ErrNoLazy), ("pub-goatskin/pub/vellum/regexp.ErrCompiledTooBig", Rows.laid_pub_goatskin_pub_vellum_regexp_ErrCompiledTooBig)] [.data, .data, .data, .data, .sentinel, .sentinel, .sentinel, .sentinel, .sentinel] true :=
  Program.laidByTextLater_by_one 218 8 189 (by kernel_rfl) (by kernel_rfl) (by kernel_rfl) (by kernel_rfl) (by kernel_rfl) (by kernel_rfl) (fun _ _ => by kernel_rfl)
theorem pin_laid_unicode_CaseRanges : Tryd.pinned.checked.prog.pinnedFits "unicode.CaseRanges" = true := by kernel_rfl
theorem noOwnUnsafe : Tryd.pinned.checked.prog.headLifts.contains "ownunsafe" = false := by kernel_rfl
theorem tie : Tryd.prog.laidByTextLater [("pub-goatskin/pub/vellum/utf8.nilRange", Rows.laid_pub_goatskin_pub_vellum_utf8_nilRange), ("pub-goatskin/pub/vellum/utf8.nilScalarRange", Rows.laid_pub_goatskin_pub_vellum_utf8_nilScalarRange)] [.data, .data] true :=
  Program.laidByTextLater.sub seatTie1 ["pub-goatskin/pub/vellum/utf8.nilRange", "pub-goatskin/pub/vellum/utf8.nilScalarRange"] (by kernel_rfl) (by kernel_rfl)
theorem fnSequencesInner_row_tie : Rows.fnSequencesInnerRow.laidByTextAt .later Tryd.pinned [.data, .data] true :=
  OpenClaim.laidByTextAt_later rfl rfl tie noOwnUnsafe
theorem fnSequencesWidth_row_tie : Rows.fnSequencesWidthRow.laidByTextAt .later Tryd.pinned [.data, .data] true :=
  OpenClaim.laidByTextAt_later rfl rfl tie noOwnUnsafe
theorem fnSequencesClass_row_tie : Rows.fnSequencesClassRow.laidByTextAt .later Tryd.pinned [.data, .data] true :=
  OpenClaim.laidByTextAt_later rfl rfl tie noOwnUnsafe
theorem fits2 : Tryd.pinned.checked.prog.listedFits [("pub-goatskin/pub/vellum/utf8.nilRange", Rows.laid_pub_goatskin_pub_vellum_utf8_nilRange), ("pub-goatskin/pub/vellum/utf8.nilScalarRange", Rows.laid_pub_goatskin_pub_vellum_utf8_nilScalarRange), ("unicode.asciiFold", Rows.laid_unicode_asciiFold), ("unicode.caseOrbit", Rows.laid_unicode_caseOrbit), ("pub-goatskin/pub/vellum/regexp.ErrTooManyStates", Rows.laid_pub_goatskin_pub_vellum_regexp_ErrTooManyStates), ("pub-goatskin/pub/vellum/regexp.ErrNoEmpty", Rows.laid_pub_goatskin_pub_vellum_regexp_ErrNoEmpty), ("pub-goatskin/pub/vellum/regexp.ErrNoWordBoundary", Rows.laid_pub_goatskin_pub_vellum_regexp_ErrNoWordBoundary), ("pub-goatskin/pub/vellum/regexp.ErrNoLazy", Rows.laid_pub_goatskin_pub_vellum_regexp_ErrNoLazy), ("pub-goatskin/pub/vellum/regexp.ErrCompiledTooBig", Rows.laid_pub_goatskin_pub_vellum_regexp_ErrCompiledTooBig), ("unicode.CaseRanges", Rows.laid_unicode_CaseRanges)] = true := by
  unfold Program.listedFits
  rw [noOwnUnsafe]
  kernel_rfl
theorem tie2 : Tryd.prog.laidByTextLater [("pub-goatskin/pub/vellum/utf8.nilRange", Rows.laid_pub_goatskin_pub_vellum_utf8_nilRange), ("pub-goatskin/pub/vellum/utf8.nilScalarRange", Rows.laid_pub_goatskin_pub_vellum_utf8_nilScalarRange), ("unicode.asciiFold", Rows.laid_unicode_asciiFold), ("unicode.caseOrbit", Rows.laid_unicode_caseOrbit), ("pub-goatskin/pub/vellum/regexp.ErrTooManyStates", Rows.laid_pub_goatskin_pub_vellum_regexp_ErrTooManyStates), ("pub-goatskin/pub/vellum/regexp.ErrNoEmpty", Rows.laid_pub_goatskin_pub_vellum_regexp_ErrNoEmpty), ("pub-goatskin/pub/vellum/regexp.ErrNoWordBoundary", Rows.laid_pub_goatskin_pub_vellum_regexp_ErrNoWordBoundary), ("pub-goatskin/pub/vellum/regexp.ErrNoLazy", Rows.laid_pub_goatskin_pub_vellum_regexp_ErrNoLazy), ("pub-goatskin/pub/vellum/regexp.ErrCompiledTooBig", Rows.laid_pub_goatskin_pub_vellum_regexp_ErrCompiledTooBig)] [.data, .data, .data, .data, .sentinel, .sentinel, .sentinel, .sentinel, .sentinel] true :=
  Program.laidByTextLater.sub seatTie2 ["pub-goatskin/pub/vellum/utf8.nilRange", "pub-goatskin/pub/vellum/utf8.nilScalarRange", "unicode.asciiFold", "unicode.caseOrbit", "pub-goatskin/pub/vellum/regexp.ErrTooManyStates", "pub-goatskin/pub/vellum/regexp.ErrNoEmpty", "pub-goatskin/pub/vellum/regexp.ErrNoWordBoundary", "pub-goatskin/pub/vellum/regexp.ErrNoLazy", "pub-goatskin/pub/vellum/regexp.ErrCompiledTooBig"] (by kernel_rfl) (by kernel_rfl)
theorem fnClassCode_row_tie : Rows.fnClassCodeRow.laidByTextAt .later Tryd.pinned [.data, .data, .data, .data, .sentinel, .sentinel, .sentinel, .sentinel, .sentinel, .pinned] true :=
  OpenClaim.laidByTextAt_pinned rfl rfl tie2 rfl rfl rfl rfl (fun y hy _e => by
    simp only [Rows.fnClassCodeRow, List.zip_cons_cons, List.zip_nil_right, List.mem_cons, List.mem_nil_iff, or_false] at hy
    rcases hy with rfl | rfl | rfl | rfl | rfl | rfl | rfl | rfl | rfl | rfl
    · cases _e
    · cases _e
    · cases _e
    · cases _e
    · cases _e
    · cases _e
    · cases _e
    · cases _e
    · cases _e
    · exact ⟨pin_laid_unicode_CaseRanges, by kernel_rfl⟩) fits2
theorem fnSequencesInnerUpto_row_tie : Rows.fnSequencesInnerUptoRow.laidByTextAt .later Tryd.pinned [.data, .data] true :=
  OpenClaim.laidByTextAt_later rfl rfl tie noOwnUnsafe
theorem fnSequencesWidthUpto_row_tie : Rows.fnSequencesWidthUptoRow.laidByTextAt .later Tryd.pinned [.data, .data] true :=
  OpenClaim.laidByTextAt_later rfl rfl tie noOwnUnsafe
theorem fnSequencesClassUpto_row_tie : Rows.fnSequencesClassUptoRow.laidByTextAt .later Tryd.pinned [.data, .data] true :=
  OpenClaim.laidByTextAt_later rfl rfl tie noOwnUnsafe
theorem fnClassCodeUpto_row_tie : Rows.fnClassCodeUptoRow.laidByTextAt .later Tryd.pinned [.data, .data, .data, .data, .sentinel, .sentinel, .sentinel, .sentinel, .sentinel, .pinned] true :=
  OpenClaim.laidByTextAt_pinned rfl rfl tie2 rfl rfl rfl rfl (fun y hy _e => by
    simp only [Rows.fnClassCodeUptoRow, List.zip_cons_cons, List.zip_nil_right, List.mem_cons, List.mem_nil_iff, or_false] at hy
    rcases hy with rfl | rfl | rfl | rfl | rfl | rfl | rfl | rfl | rfl | rfl
    · cases _e
    · cases _e
    · cases _e
    · cases _e
    · cases _e
    · cases _e
    · cases _e
    · cases _e
    · cases _e
    · exact ⟨pin_laid_unicode_CaseRanges, by kernel_rfl⟩) fits2
end Go.Proofs.YtjfpcckdelocpaaDoor
