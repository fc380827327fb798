/-
  DERIVED. GIVEN WITH THE SEED: THE PROGRAM's TIES (one call each: nine closed facts by the kernel) AND EACH ROW's TIE, after the 31st guide's Derived/Test/Toyas{Tie, Card}.lean. No idea stands in it: it is a product of the set-up. Laid BY PROGRAM, IN A SANDBOX (cutbox-door.mjs). By AI agents, Wed Nov 11 2026. No macro, syntax, notation, axiom, sorry.
-/
import Derived.Test.YtkljpbpojbhbbaaDoorRows
import Derived.LaidByTextLater
import Derived.SevenTiedAt
import Derived.LaidSub
import Derived.LaidOnce
namespace Go.Proofs.YtkljpbpojbhbbaaDoor
open Go
set_option maxRecDepth 100000
theorem seatTie1 : Tryd.prog.laidByTextLater [("unicode.White_Space", Rows.laid_unicode_White_Space), ("unicode.properties", Rows.laid_unicode_properties), ("bytes.ErrTooLarge", Rows.laid_bytes_ErrTooLarge), ("given.example/pub-typebar/pub/readline.runes", Rows.laid_given_example_pub_typebar_pub_readline_runes)] [.listed, .data, .sentinel, .wider] true :=
  Program.laidByTextLater_by_one 57 8 257 (by kernel_rfl) (by kernel_rfl) (by kernel_rfl) (by kernel_rfl) (by kernel_rfl) (by kernel_rfl) (fun _ _ => by kernel_rfl)
theorem pin_laid_unicode_Number : Tryd.pinned.checked.prog.pinnedFits "unicode.Number" = true := by kernel_rfl
theorem noOwnUnsafe : Tryd.pinned.checked.prog.headLifts.contains "ownunsafe" = false := by kernel_rfl
theorem tie : Tryd.prog.laidByTextLater [("given.example/pub-typebar/pub/readline.runes", Rows.laid_given_example_pub_typebar_pub_readline_runes)] [.wider] true :=
  Program.laidByTextLater.sub seatTie1 ["given.example/pub-typebar/pub/readline.runes"] (by kernel_rfl) (by kernel_rfl)
theorem fnColourlessParts_row_tie : Rows.fnColourlessPartsRow.laidByTextAt .later Tryd.pinned [.wider] true :=
  OpenClaim.laidByTextAt_later rfl rfl tie noOwnUnsafe
theorem fnAggregated_row_tie : Rows.fnAggregatedRow.laidByTextAt .later Tryd.pinned [.wider] true :=
  OpenClaim.laidByTextAt_later rfl rfl tie noOwnUnsafe
theorem fnPastFound_row_tie : Rows.fnPastFoundRow.laidByTextAt .later Tryd.pinned [.wider] true :=
  OpenClaim.laidByTextAt_later rfl rfl tie noOwnUnsafe
theorem fits2 : Tryd.pinned.checked.prog.listedFits [("unicode.properties", Rows.laid_unicode_properties), ("bytes.ErrTooLarge", Rows.laid_bytes_ErrTooLarge), ("unicode.Number", Rows.laid_unicode_Number)] = true := by
  unfold Program.listedFits
  rw [noOwnUnsafe]
  kernel_rfl
theorem tie2 : Tryd.prog.laidByTextLater [("unicode.properties", Rows.laid_unicode_properties), ("bytes.ErrTooLarge", Rows.laid_bytes_ErrTooLarge)] [.data, .sentinel] true :=
  Program.laidByTextLater.sub seatTie1 ["unicode.properties", "bytes.ErrTooLarge"] (by kernel_rfl) (by kernel_rfl)
theorem fnEscapeRead_row_tie : Rows.fnEscapeReadRow.laidByTextAt .later Tryd.pinned [.data, .sentinel, .pinned] true :=
  OpenClaim.laidByTextAt_pinned rfl rfl tie2 rfl rfl rfl rfl (fun y hy _e => by
    simp only [Rows.fnEscapeReadRow, List.zip_cons_cons, List.zip_nil_right, List.mem_cons, List.mem_nil_iff, or_false] at hy
    rcases hy with rfl | rfl | rfl
    · cases _e
    · cases _e
    · exact ⟨pin_laid_unicode_Number, by kernel_rfl⟩) fits2
theorem tie3 : Tryd.prog.laidByTextLater [("bytes.ErrTooLarge", Rows.laid_bytes_ErrTooLarge), ("given.example/pub-typebar/pub/readline.runes", Rows.laid_given_example_pub_typebar_pub_readline_runes)] [.sentinel, .wider] true :=
  Program.laidByTextLater.sub seatTie1 ["bytes.ErrTooLarge", "given.example/pub-typebar/pub/readline.runes"] (by kernel_rfl) (by kernel_rfl)
theorem fnSwept_row_tie : Rows.fnSweptRow.laidByTextAt .later Tryd.pinned [.sentinel, .wider] true :=
  OpenClaim.laidByTextAt_later rfl rfl tie3 noOwnUnsafe
theorem tie4 : Tryd.prog.laidByTextLater [("unicode.White_Space", Rows.laid_unicode_White_Space), ("bytes.ErrTooLarge", Rows.laid_bytes_ErrTooLarge), ("given.example/pub-typebar/pub/readline.runes", Rows.laid_given_example_pub_typebar_pub_readline_runes)] [.listed, .sentinel, .wider] true :=
  Program.laidByTextLater.sub seatTie1 ["unicode.White_Space", "bytes.ErrTooLarge", "given.example/pub-typebar/pub/readline.runes"] (by kernel_rfl) (by kernel_rfl)
theorem fnTreeOf_row_tie : Rows.fnTreeOfRow.laidByTextAt .later Tryd.pinned [.listed, .sentinel, .wider] true :=
  OpenClaim.laidByTextAt_later rfl rfl tie4 noOwnUnsafe
theorem tie5 : Tryd.prog.laidByTextLater [("unicode.White_Space", Rows.laid_unicode_White_Space), ("given.example/pub-typebar/pub/readline.runes", Rows.laid_given_example_pub_typebar_pub_readline_runes)] [.listed, .wider] true :=
  Program.laidByTextLater.sub seatTie1 ["unicode.White_Space", "given.example/pub-typebar/pub/readline.runes"] (by kernel_rfl) (by kernel_rfl)
theorem fnCompleted_row_tie : Rows.fnCompletedRow.laidByTextAt .later Tryd.pinned [.listed, .wider] true :=
  OpenClaim.laidByTextAt_later rfl rfl tie5 noOwnUnsafe
theorem fnOffersCommon_row_tie : Rows.fnOffersCommonRow.laidByTextAt .later Tryd.pinned [.listed, .wider] true :=
  OpenClaim.laidByTextAt_later rfl rfl tie5 noOwnUnsafe
theorem fnColourlessPartsUpto_row_tie : Rows.fnColourlessPartsUptoRow.laidByTextAt .later Tryd.pinned [.wider] true :=
  OpenClaim.laidByTextAt_later rfl rfl tie noOwnUnsafe
theorem fnAggregatedUpto_row_tie : Rows.fnAggregatedUptoRow.laidByTextAt .later Tryd.pinned [.wider] true :=
  OpenClaim.laidByTextAt_later rfl rfl tie noOwnUnsafe
theorem fnEscapeReadUpto_row_tie : Rows.fnEscapeReadUptoRow.laidByTextAt .later Tryd.pinned [.data, .sentinel, .pinned] true :=
  OpenClaim.laidByTextAt_pinned rfl rfl tie2 rfl rfl rfl rfl (fun y hy _e => by
    simp only [Rows.fnEscapeReadUptoRow, List.zip_cons_cons, List.zip_nil_right, List.mem_cons, List.mem_nil_iff, or_false] at hy
    rcases hy with rfl | rfl | rfl
    · cases _e
    · cases _e
    · exact ⟨pin_laid_unicode_Number, by kernel_rfl⟩) fits2
theorem fnSweptUpto_row_tie : Rows.fnSweptUptoRow.laidByTextAt .later Tryd.pinned [.sentinel, .wider] true :=
  OpenClaim.laidByTextAt_later rfl rfl tie3 noOwnUnsafe
theorem fnPastFoundUpto_row_tie : Rows.fnPastFoundUptoRow.laidByTextAt .later Tryd.pinned [.wider] true :=
  OpenClaim.laidByTextAt_later rfl rfl tie noOwnUnsafe
theorem fnTreeOfUpto_row_tie : Rows.fnTreeOfUptoRow.laidByTextAt .later Tryd.pinned [.listed, .sentinel, .wider] true :=
  OpenClaim.laidByTextAt_later rfl rfl tie4 noOwnUnsafe
theorem fnCompletedUpto_row_tie : Rows.fnCompletedUptoRow.laidByTextAt .later Tryd.pinned [.listed, .wider] true :=
  OpenClaim.laidByTextAt_later rfl rfl tie5 noOwnUnsafe
theorem fnOffersCommonUpto_row_tie : Rows.fnOffersCommonUptoRow.laidByTextAt .later Tryd.pinned [.listed, .wider] true :=
  OpenClaim.laidByTextAt_later rfl rfl tie5 noOwnUnsafe
end Go.Proofs.YtkljpbpojbhbbaaDoor
