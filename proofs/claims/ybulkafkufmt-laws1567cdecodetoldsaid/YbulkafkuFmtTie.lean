/-
  DERIVED. GIVEN WITH THE SEED: THE PROGRAM's TIES (one call each: nine closed facts by the kernel) AND EACH ROW's TIE, after the 31st guide's Derived/Test/Toyas{Tie, Card}.lean. No idea stands in it: it is a product of the set-up. Laid BY PROGRAM, IN A SANDBOX (cutbox-door.mjs). By AI agents, Wed Nov 11 2026. No macro, syntax, notation, axiom, sorry.
-/
import Derived.Test.YbulkafkuFmtRows
import Derived.LaidByTextLater
import Derived.SevenTiedAt
import Derived.LaidSub
import Derived.LaidOnce
namespace Go.Proofs.YbulkafkuFmt
open Go
set_option maxRecDepth 100000
theorem seatTie1 : Ybaf.prog.laidByTextLater [("unicode/utf8.acceptRanges", Rows.laid_unicode_utf8_acceptRanges), ("example.com/pagewright/pagewright/internal/record.ErrMalformed", Rows.laid_example_com_pagewright_pagewright_internal_record_ErrMalformed), ("example.com/pagewright/pagewright.ErrCorrupt", Rows.laid_example_com_pagewright_pagewright_ErrCorrupt)] [.data, .sentinel, .wider] true :=
  Program.laidByTextLater_by_one 62 8 33 (by kernel_rfl) (by kernel_rfl) (by kernel_rfl) (by kernel_rfl) (by kernel_rfl) (by kernel_rfl) (fun _ _ => by kernel_rfl)
theorem pin_laid_unicode_utf8_first : Ybaf.pinned.checked.prog.pinnedFits "unicode/utf8.first" = true := by kernel_rfl
theorem noOwnUnsafe : Ybaf.pinned.checked.prog.headLifts.contains "ownunsafe" = false := by kernel_rfl
theorem fits1 : Ybaf.pinned.checked.prog.listedFits [("unicode/utf8.acceptRanges", Rows.laid_unicode_utf8_acceptRanges), ("example.com/pagewright/pagewright.ErrCorrupt", Rows.laid_example_com_pagewright_pagewright_ErrCorrupt), ("unicode/utf8.first", Rows.laid_unicode_utf8_first)] = true := by
  unfold Program.listedFits
  rw [noOwnUnsafe]
  kernel_rfl
theorem tie : Ybaf.prog.laidByTextLater [("unicode/utf8.acceptRanges", Rows.laid_unicode_utf8_acceptRanges), ("example.com/pagewright/pagewright.ErrCorrupt", Rows.laid_example_com_pagewright_pagewright_ErrCorrupt)] [.data, .wider] true :=
  Program.laidByTextLater.sub seatTie1 ["unicode/utf8.acceptRanges", "example.com/pagewright/pagewright.ErrCorrupt"] (by kernel_rfl) (by kernel_rfl)
theorem lawS1567ACorrupt_row_tie : Rows.lawS1567ACorruptRow.laidByTextAt .later Ybaf.pinned [.data, .wider, .pinned] true :=
  OpenClaim.laidByTextAt_pinned rfl rfl tie rfl rfl rfl rfl (fun y hy _e => by
    simp only [Rows.lawS1567ACorruptRow, List.zip_cons_cons, List.zip_nil_right, List.mem_cons, List.mem_nil_iff, or_false] at hy
    rcases hy with rfl | rfl | rfl
    · cases _e
    · cases _e
    · exact ⟨pin_laid_unicode_utf8_first, by kernel_rfl⟩) fits1
theorem tie2 : Ybaf.prog.laidByTextLater [("example.com/pagewright/pagewright/internal/record.ErrMalformed", Rows.laid_example_com_pagewright_pagewright_internal_record_ErrMalformed)] [.sentinel] true :=
  Program.laidByTextLater.sub seatTie1 ["example.com/pagewright/pagewright/internal/record.ErrMalformed"] (by kernel_rfl) (by kernel_rfl)
theorem lawS1567CDecode_row_tie : Rows.lawS1567CDecodeRow.laidByTextAt .later Ybaf.pinned [.sentinel] true :=
  OpenClaim.laidByTextAt_later rfl rfl tie2 noOwnUnsafe
theorem lawS1567CTextRoundTrip_row_tie : Rows.lawS1567CTextRoundTripRow.laidByTextAt .later Ybaf.pinned [.sentinel] true :=
  OpenClaim.laidByTextAt_later rfl rfl tie2 noOwnUnsafe
end Go.Proofs.YbulkafkuFmt
