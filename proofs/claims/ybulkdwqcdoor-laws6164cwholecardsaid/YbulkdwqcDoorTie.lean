/-
  DERIVED. GIVEN WITH THE SEED: THE PROGRAM's TIES (one call each: nine closed facts by the kernel) AND EACH ROW's TIE, after the 31st guide's Derived/Test/Toyas{Tie, Card}.lean. No idea stands in it: it is a product of the set-up. Laid BY PROGRAM, IN A SANDBOX (cutbox-door.mjs). By AI agents, Wed Nov 11 2026. No macro, syntax, notation, axiom, sorry.
-/
import Derived.Test.YbulkdwqcDoorRows
import Derived.LaidByTextLater
import Derived.SevenTiedAt
import Derived.LaidSub
import Derived.LaidOnce
namespace Go.Proofs.YbulkdwqcDoor
open Go
set_option maxRecDepth 100000
theorem seatTie1 : Ybad.prog.laidByTextLater [("math/bits.deBruijn64tab", Rows.laid_math_bits_deBruijn64tab), ("example.com/ebbwatch/ebbwatch/pkg/record.pow10", Rows.laid_example_com_ebbwatch_ebbwatch_pkg_record_pow10)] [.data, .data] true :=
  Program.laidByTextLater_by_one 19 8 65 (by kernel_rfl) (by kernel_rfl) (by kernel_rfl) (by kernel_rfl) (by kernel_rfl) (by kernel_rfl) (fun _ _ => by kernel_rfl)
theorem noOwnUnsafe : Ybad.pinned.checked.prog.headLifts.contains "ownunsafe" = false := by kernel_rfl
theorem tie : Ybad.prog.laidByTextLater [("math/bits.deBruijn64tab", Rows.laid_math_bits_deBruijn64tab)] [.data] true :=
  Program.laidByTextLater.sub seatTie1 ["math/bits.deBruijn64tab"] (by kernel_rfl) (by kernel_rfl)
theorem lawS6164AWhole_row_tie : Rows.lawS6164AWholeRow.laidByTextAt .later Ybad.pinned [.data] true :=
  OpenClaim.laidByTextAt_later rfl rfl tie noOwnUnsafe
theorem tie2 : Ybad.prog.laidByTextLater [("example.com/ebbwatch/ebbwatch/pkg/record.pow10", Rows.laid_example_com_ebbwatch_ebbwatch_pkg_record_pow10)] [.data] true :=
  Program.laidByTextLater.sub seatTie1 ["example.com/ebbwatch/ebbwatch/pkg/record.pow10"] (by kernel_rfl) (by kernel_rfl)
theorem lawS6164CWhole_row_tie : Rows.lawS6164CWholeRow.laidByTextAt .later Ybad.pinned [.data] true :=
  OpenClaim.laidByTextAt_later rfl rfl tie2 noOwnUnsafe
end Go.Proofs.YbulkdwqcDoor
