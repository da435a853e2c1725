/-
  DERIVED. GIVEN WITH THE SEED: THE PROGRAM's TIES (one call each: nine closed facts by the kernel) AND EACH ROW's TIE, after the 31st guide's Derived/Test/Toyas{Tie, Card}.lean. No idea stands in it: it is a product of the set-up. Laid BY PROGRAM, IN A SANDBOX (cutbox-door.mjs). By AI agents, Wed Nov 11 2026. No macro, syntax, notation, axiom, sorry.
-/
import Derived.Test.YbulkbuxwDoorRows
import Derived.LaidByTextLater
import Derived.SevenTiedAt
import Derived.LaidSub
import Derived.LaidOnce
namespace Go.Proofs.YbulkbuxwDoor
open Go
set_option maxRecDepth 100000
theorem seatTie1 : Ybad.prog.laidByTextLater [("math/bits.deBruijn32tab", Rows.laid_math_bits_deBruijn32tab), ("math/bits.deBruijn64tab", Rows.laid_math_bits_deBruijn64tab), ("internal/strconv.uint64pow10", Rows.laid_internal_strconv_uint64pow10), ("knotwork.example/knotwork.errDivisionByZero", Rows.laid_knotwork_example_knotwork_errDivisionByZero)] [.data, .data, .data, .called] true :=
  Program.laidByTextLater_by_one 43 8 65 (by kernel_rfl) (by kernel_rfl) (by kernel_rfl) (by kernel_rfl) (by kernel_rfl) (by kernel_rfl) (fun _ _ => by kernel_rfl)
theorem noOwnUnsafe : Ybad.pinned.checked.prog.headLifts.contains "ownunsafe" = false := by kernel_rfl
theorem tie : Ybad.prog.laidByTextLater [("math/bits.deBruijn32tab", Rows.laid_math_bits_deBruijn32tab), ("math/bits.deBruijn64tab", Rows.laid_math_bits_deBruijn64tab), ("internal/strconv.uint64pow10", Rows.laid_internal_strconv_uint64pow10)] [.data, .data, .data] true :=
  Program.laidByTextLater.sub seatTie1 ["math/bits.deBruijn32tab", "math/bits.deBruijn64tab", "internal/strconv.uint64pow10"] (by kernel_rfl) (by kernel_rfl)
theorem lawS3571BModel_row_tie : Rows.lawS3571BModelRow.laidByTextAt .later Ybad.pinned [.data, .data, .data] true :=
  OpenClaim.laidByTextAt_later rfl rfl tie noOwnUnsafe
theorem lawS3571BMutant_row_tie : Rows.lawS3571BMutantRow.laidByTextAt .later Ybad.pinned [.data, .data, .data] true :=
  OpenClaim.laidByTextAt_later rfl rfl tie noOwnUnsafe
theorem lawS3571BGraph_row_tie : Rows.lawS3571BGraphRow.laidByTextAt .later Ybad.pinned [.data, .data, .data] true :=
  OpenClaim.laidByTextAt_later rfl rfl tie noOwnUnsafe
theorem tie2 : Ybad.prog.laidByTextLater [("knotwork.example/knotwork.errDivisionByZero", Rows.laid_knotwork_example_knotwork_errDivisionByZero)] [.called] true :=
  Program.laidByTextLater.sub seatTie1 ["knotwork.example/knotwork.errDivisionByZero"] (by kernel_rfl) (by kernel_rfl)
theorem lawS3571CExact_row_tie : Rows.lawS3571CExactRow.laidByTextAt .later Ybad.pinned [.called] true :=
  OpenClaim.laidByTextAt_later rfl rfl tie2 noOwnUnsafe
theorem lawS3571CRange_row_tie : Rows.lawS3571CRangeRow.laidByTextAt .later Ybad.pinned [.called] true :=
  OpenClaim.laidByTextAt_later rfl rfl tie2 noOwnUnsafe
end Go.Proofs.YbulkbuxwDoor
