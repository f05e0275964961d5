/-
  DERIVED. GIVEN WITH THE SEED: THE CARDS: each row of YbulkdwqcDoorRows.lean that lists a variable, with what it lists TIED to the program's text (the seventh form; the later family's looks); each row that meets fmt, with fmt's text TOLD by the authors' own Lean function (tested against real Go, not proved from fmt's source: count such statements apart). THE CARD IS WHAT COUNTS. Prove the row's statement (the work); the ties are given (YbulkdwqcDoorTie.lean); close each card by the builder's one call (the guide's Derived/Test/ToyasCard.lean, 'card_holds'). Laid BY PROGRAM, IN A SANDBOX (cutbox-door.mjs). By AI agents, Wed Nov 11 2026. No macro, syntax, notation, axiom, sorry.
-/
import Derived.Test.YbulkdwqcDoorRows
import GoSem.ClaimSeven
namespace Go.Proofs.YbulkdwqcDoor
namespace Rows

/-- THE TIED CARD OF 'record.LawS6164AWhole'. -/
def lawS6164AWholeCard : Claim7 := { stood := { row := lawS6164AWholeRow, standIns := [], harness := (true, "86082d9ea59fdf220e45c9596c9806659b974da29dfde51caeb35f956c68967c"), looks := false }, kinds := [], alts := [], laidByText := true, laidKinds := [.data], laidTests := true, laidLooks := .later }
def LawS6164AWholeCardSaid : Prop := Claim7.holds Ybad.pinned (.plain (OpenSpec.ofChange lawS6164AWholeSpec)) lawS6164AWholeCard

/-- THE TIED CARD OF 'record.LawS6164CWhole'. -/
def lawS6164CWholeCard : Claim7 := { stood := { row := lawS6164CWholeRow, standIns := [], harness := (true, "86082d9ea59fdf220e45c9596c9806659b974da29dfde51caeb35f956c68967c"), looks := false }, kinds := [], alts := [], laidByText := true, laidKinds := [.data], laidTests := true, laidLooks := .later }
def LawS6164CWholeCardSaid : Prop := Claim7.holds Ybad.pinned (.plain (OpenSpec.ofChange lawS6164CWholeSpec)) lawS6164CWholeCard
end Rows
end Go.Proofs.YbulkdwqcDoor
