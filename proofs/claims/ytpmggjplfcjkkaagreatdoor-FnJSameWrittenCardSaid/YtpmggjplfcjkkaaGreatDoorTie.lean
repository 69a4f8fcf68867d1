/-
  DERIVED. GIVEN WITH THE SEED: THE PROGRAM's TIES (one call each: nine closed facts by the kernel) AND EACH ROW's TIE, after the 31st guide's Derived/Test/Toyas{Tie, Card}.lean. No idea stands in it: it is a product of the set-up. Laid BY PROGRAM, IN A SANDBOX (cutbox-door.mjs). By AI agents, Wed Nov 11 2026. No macro, syntax, notation, axiom, sorry.
-/
import Derived.Test.YtpmggjplfcjkkaaGreatDoorRows
import Derived.LaidByTextLater
import Derived.SevenTiedAt
import Derived.LaidSub
import Derived.LaidOnce
namespace Go.Proofs.YtpmggjplfcjkkaaGreatDoor
open Go
set_option maxRecDepth 100000
theorem seatTie1 : Tryz.prog.laidByTextLater [("math/bits.deBruijn32tab", Rows.laid_math_bits_deBruijn32tab), ("math/bits.deBruijn64tab", Rows.laid_math_bits_deBruijn64tab), ("internal/strconv.uint64pow10", Rows.laid_internal_strconv_uint64pow10), ("strconv.ErrRange", Rows.laid_strconv_ErrRange), ("strconv.ErrSyntax", Rows.laid_strconv_ErrSyntax), ("io.EOF", Rows.laid_io_EOF), ("given.example/pub-querent/pub/bigall.errNoDigits", Rows.laid_given_example_pub_querent_pub_bigall_errNoDigits), ("given.example/pub-querent/pub/bigall.errInvalSep", Rows.laid_given_example_pub_querent_pub_bigall_errInvalSep), ("given.example/pub-querent/pub/bigall.divRecursiveThreshold", Rows.laid_given_example_pub_querent_pub_bigall_divRecursiveThreshold), ("given.example/pub-querent/pub/bigall.karatsubaThreshold", Rows.laid_given_example_pub_querent_pub_bigall_karatsubaThreshold), ("given.example/pub-querent/pub/bigall.basicSqrThreshold", Rows.laid_given_example_pub_querent_pub_bigall_basicSqrThreshold), ("given.example/pub-querent/pub/bigall.karatsubaSqrThreshold", Rows.laid_given_example_pub_querent_pub_bigall_karatsubaSqrThreshold)] [.data, .data, .data, .sentinel, .sentinel, .sentinel, .sentinel, .sentinel, .data, .data, .data, .data] true :=
  Program.laidByTextLater_by_one 139 8 65 (by kernel_rfl) (by kernel_rfl) (by kernel_rfl) (by kernel_rfl) (by kernel_rfl) (by kernel_rfl) (fun _ _ => by kernel_rfl)
theorem noOwnUnsafe : Tryz.pinned.checked.prog.headLifts.contains "ownunsafe" = false := by kernel_rfl
theorem tie : Tryz.prog.laidByTextLater [("math/bits.deBruijn32tab", Rows.laid_math_bits_deBruijn32tab), ("math/bits.deBruijn64tab", Rows.laid_math_bits_deBruijn64tab), ("internal/strconv.uint64pow10", Rows.laid_internal_strconv_uint64pow10), ("strconv.ErrRange", Rows.laid_strconv_ErrRange), ("strconv.ErrSyntax", Rows.laid_strconv_ErrSyntax), ("io.EOF", Rows.laid_io_EOF), ("given.example/pub-querent/pub/bigall.errNoDigits", Rows.laid_given_example_pub_querent_pub_bigall_errNoDigits), ("given.example/pub-querent/pub/bigall.errInvalSep", Rows.laid_given_example_pub_querent_pub_bigall_errInvalSep), ("given.example/pub-querent/pub/bigall.divRecursiveThreshold", Rows.laid_given_example_pub_querent_pub_bigall_divRecursiveThreshold), ("given.example/pub-querent/pub/bigall.karatsubaThreshold", Rows.laid_given_example_pub_querent_pub_bigall_karatsubaThreshold), ("given.example/pub-querent/pub/bigall.basicSqrThreshold", Rows.laid_given_example_pub_querent_pub_bigall_basicSqrThreshold), ("given.example/pub-querent/pub/bigall.karatsubaSqrThreshold", Rows.laid_given_example_pub_querent_pub_bigall_karatsubaSqrThreshold)] [.data, .data, .data, .sentinel, .sentinel, .sentinel, .sentinel, .sentinel, .data, .data, .data, .data] true :=
  Program.laidByTextLater.sub seatTie1 ["math/bits.deBruijn32tab", "math/bits.deBruijn64tab", "internal/strconv.uint64pow10", "strconv.ErrRange", "strconv.ErrSyntax", "io.EOF", "given.example/pub-querent/pub/bigall.errNoDigits", "given.example/pub-querent/pub/bigall.errInvalSep", "given.example/pub-querent/pub/bigall.divRecursiveThreshold", "given.example/pub-querent/pub/bigall.karatsubaThreshold", "given.example/pub-querent/pub/bigall.basicSqrThreshold", "given.example/pub-querent/pub/bigall.karatsubaSqrThreshold"] (by kernel_rfl) (by kernel_rfl)
theorem fnJMultiple_row_tie : Rows.fnJMultipleRow.laidByTextAt .later Tryz.pinned [.data, .data, .data, .sentinel, .sentinel, .sentinel, .sentinel, .sentinel, .data, .data, .data, .data] true :=
  OpenClaim.laidByTextAt_later rfl rfl tie noOwnUnsafe
theorem fnJSameWritten_row_tie : Rows.fnJSameWrittenRow.laidByTextAt .later Tryz.pinned [.data, .data, .data, .sentinel, .sentinel, .sentinel, .sentinel, .sentinel, .data, .data, .data, .data] true :=
  OpenClaim.laidByTextAt_later rfl rfl tie noOwnUnsafe
theorem fnJMultipleUpto_row_tie : Rows.fnJMultipleUptoRow.laidByTextAt .later Tryz.pinned [.data, .data, .data, .sentinel, .sentinel, .sentinel, .sentinel, .sentinel, .data, .data, .data, .data] true :=
  OpenClaim.laidByTextAt_later rfl rfl tie noOwnUnsafe
theorem fnJSameWrittenUpto_row_tie : Rows.fnJSameWrittenUptoRow.laidByTextAt .later Tryz.pinned [.data, .data, .data, .sentinel, .sentinel, .sentinel, .sentinel, .sentinel, .data, .data, .data, .data] true :=
  OpenClaim.laidByTextAt_later rfl rfl tie noOwnUnsafe
end Go.Proofs.YtpmggjplfcjkkaaGreatDoor
