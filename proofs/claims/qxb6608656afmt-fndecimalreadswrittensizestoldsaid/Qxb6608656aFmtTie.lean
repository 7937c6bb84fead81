/-
  DERIVED. GIVEN WITH THE SEED: THE PROGRAM's TIES (one call each: nine closed facts by the kernel) AND EACH ROW's TIE, after the 31st guide's Derived/Test/Toyas{Tie, Card}.lean. No idea stands in it: it is a product of the set-up. Laid BY PROGRAM, IN A SANDBOX (cutbox-door.mjs). By AI agents, Wed Nov 11 2026. No macro, syntax, notation, axiom, sorry.
-/
import Derived.Test.Qxb6608656aFmtRows
import Derived.LaidByTextLater
import Derived.SevenTiedAt
import Derived.LaidSub
import Derived.LaidOnce
namespace Go.Proofs.Qxb6608656aFmt
open Go
set_option maxRecDepth 100000
theorem seatTie1 : Tryf.prog.laidByTextLater [("math/bits.deBruijn32tab", Rows.laid_math_bits_deBruijn32tab), ("math/bits.deBruijn64tab", Rows.laid_math_bits_deBruijn64tab), ("internal/strconv.uint64pow10", Rows.laid_internal_strconv_uint64pow10), ("strconv.ErrRange", Rows.laid_strconv_ErrRange), ("strconv.ErrSyntax", Rows.laid_strconv_ErrSyntax), ("example.com/packwire/packwire/object.typeNames", Rows.laid_example_com_packwire_packwire_object_typeNames)] [.data, .data, .data, .sentinel, .sentinel, .data] true :=
  Program.laidByTextLater_by_one 67 8 65 (by kernel_rfl) (by kernel_rfl) (by kernel_rfl) (by kernel_rfl) (by kernel_rfl) (by kernel_rfl) (fun _ _ => by kernel_rfl)
theorem noOwnUnsafe : Tryf.pinned.checked.prog.headLifts.contains "ownunsafe" = false := by kernel_rfl
theorem tie : Tryf.prog.laidByTextLater [("math/bits.deBruijn32tab", Rows.laid_math_bits_deBruijn32tab), ("math/bits.deBruijn64tab", Rows.laid_math_bits_deBruijn64tab), ("internal/strconv.uint64pow10", Rows.laid_internal_strconv_uint64pow10), ("strconv.ErrRange", Rows.laid_strconv_ErrRange), ("strconv.ErrSyntax", Rows.laid_strconv_ErrSyntax), ("example.com/packwire/packwire/object.typeNames", Rows.laid_example_com_packwire_packwire_object_typeNames)] [.data, .data, .data, .sentinel, .sentinel, .data] true :=
  Program.laidByTextLater.sub seatTie1 ["math/bits.deBruijn32tab", "math/bits.deBruijn64tab", "internal/strconv.uint64pow10", "strconv.ErrRange", "strconv.ErrSyntax", "example.com/packwire/packwire/object.typeNames"] (by kernel_rfl) (by kernel_rfl)
theorem fnDecimalReadsWrittenSizes_row_tie : Rows.fnDecimalReadsWrittenSizesRow.laidByTextAt .later Tryf.pinned [.data, .data, .data, .sentinel, .sentinel, .data] true :=
  OpenClaim.laidByTextAt_later rfl rfl tie noOwnUnsafe
theorem tie2 : Tryf.prog.laidByTextLater [("math/bits.deBruijn32tab", Rows.laid_math_bits_deBruijn32tab), ("math/bits.deBruijn64tab", Rows.laid_math_bits_deBruijn64tab), ("internal/strconv.uint64pow10", Rows.laid_internal_strconv_uint64pow10), ("example.com/packwire/packwire/object.typeNames", Rows.laid_example_com_packwire_packwire_object_typeNames)] [.data, .data, .data, .data] true :=
  Program.laidByTextLater.sub seatTie1 ["math/bits.deBruijn32tab", "math/bits.deBruijn64tab", "internal/strconv.uint64pow10", "example.com/packwire/packwire/object.typeNames"] (by kernel_rfl) (by kernel_rfl)
theorem fnWriteScriptAgainstSum_row_tie : Rows.fnWriteScriptAgainstSumRow.laidByTextAt .later Tryf.pinned [.data, .data, .data, .data] true :=
  OpenClaim.laidByTextAt_later rfl rfl tie2 noOwnUnsafe
theorem fnWriteSplitAnywhere_row_tie : Rows.fnWriteSplitAnywhereRow.laidByTextAt .later Tryf.pinned [.data, .data, .data, .data] true :=
  OpenClaim.laidByTextAt_later rfl rfl tie2 noOwnUnsafe
end Go.Proofs.Qxb6608656aFmt
