/-
  DERIVED. GIVEN WITH THE SEED: THE PROGRAM's TIES (one call each: nine closed facts by the kernel) AND EACH ROW's TIE, after the 31st guide's Derived/Test/Toyas{Tie, Card}.lean. No idea stands in it: it is a product of the set-up. Laid BY PROGRAM, IN A SANDBOX (cutbox-door.mjs). By AI agents, Wed Nov 11 2026. No macro, syntax, notation, axiom, sorry.
-/
import Derived.Test.YbulkcydcDoorRows
import Derived.LaidByTextLater
import Derived.SevenTiedAt
import Derived.LaidSub
import Derived.LaidOnce
namespace Go.Proofs.YbulkcydcDoor
open Go
set_option maxRecDepth 100000
theorem seatTie1 : Ybad.prog.laidByTextLater [("math/bits.deBruijn32tab", Rows.laid_math_bits_deBruijn32tab), ("math/bits.deBruijn64tab", Rows.laid_math_bits_deBruijn64tab), ("internal/strconv.uint64pow10", Rows.laid_internal_strconv_uint64pow10), ("example.com/tickspan/tickspan/internal/labeled.Units", Rows.laid_example_com_tickspan_tickspan_internal_labeled_Units), ("example.com/tickspan/tickspan.zoneLayout", Rows.laid_example_com_tickspan_tickspan_zoneLayout)] [.data, .data, .data, .data, .widerDeep] true :=
  Program.laidByTextLater_by_one 34 8 65 (by kernel_rfl) (by kernel_rfl) (by kernel_rfl) (by kernel_rfl) (by kernel_rfl) (by kernel_rfl) (fun _ _ => by kernel_rfl)
theorem noOwnUnsafe : Ybad.pinned.checked.prog.headLifts.contains "ownunsafe" = false := by kernel_rfl
theorem tie : Ybad.prog.laidByTextLater [("math/bits.deBruijn32tab", Rows.laid_math_bits_deBruijn32tab), ("math/bits.deBruijn64tab", Rows.laid_math_bits_deBruijn64tab), ("internal/strconv.uint64pow10", Rows.laid_internal_strconv_uint64pow10), ("example.com/tickspan/tickspan.zoneLayout", Rows.laid_example_com_tickspan_tickspan_zoneLayout)] [.data, .data, .data, .widerDeep] true :=
  Program.laidByTextLater.sub seatTie1 ["math/bits.deBruijn32tab", "math/bits.deBruijn64tab", "internal/strconv.uint64pow10", "example.com/tickspan/tickspan.zoneLayout"] (by kernel_rfl) (by kernel_rfl)
theorem lawS4981AExact_row_tie : Rows.lawS4981AExactRow.laidByTextAt .later Ybad.pinned [.data, .data, .data, .widerDeep] true :=
  OpenClaim.laidByTextAt_later rfl rfl tie noOwnUnsafe
theorem lawS4981ASign_row_tie : Rows.lawS4981ASignRow.laidByTextAt .later Ybad.pinned [.data, .data, .data, .widerDeep] true :=
  OpenClaim.laidByTextAt_later rfl rfl tie noOwnUnsafe
theorem tie2 : Ybad.prog.laidByTextLater [("example.com/tickspan/tickspan/internal/labeled.Units", Rows.laid_example_com_tickspan_tickspan_internal_labeled_Units)] [.data] true :=
  Program.laidByTextLater.sub seatTie1 ["example.com/tickspan/tickspan/internal/labeled.Units"] (by kernel_rfl) (by kernel_rfl)
theorem lawS4981BModel_row_tie : Rows.lawS4981BModelRow.laidByTextAt .later Ybad.pinned [.data] true :=
  OpenClaim.laidByTextAt_later rfl rfl tie2 noOwnUnsafe
end Go.Proofs.YbulkcydcDoor
