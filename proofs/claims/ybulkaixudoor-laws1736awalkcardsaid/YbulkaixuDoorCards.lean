/-
  DERIVED. GIVEN WITH THE SEED: THE CARDS: each row of YbulkaixuDoorRows.lean that lists a variable, with what it lists TIED to the program's text (the seventh form; the later family's looks); each row that meets fmt, with fmt's text TOLD by the authors' own Lean function (tested against real Go, not proved from fmt's source: count such statements apart). THE CARD IS WHAT COUNTS. Prove the row's statement (the work); the ties are given (YbulkaixuDoorTie.lean); close each card by the builder's one call (the guide's Derived/Test/ToyasCard.lean, 'card_holds'). Laid BY PROGRAM, IN A SANDBOX (cutbox-door.mjs). By AI agents, Wed Nov 11 2026. No macro, syntax, notation, axiom, sorry.
-/
import Derived.Test.YbulkaixuDoorRows
import GoSem.ClaimSeven
namespace Go.Proofs.YbulkaixuDoor
namespace Rows

/-- THE TIED CARD OF 'lockwright.LawS1736AWalk'. -/
def lawS1736AWalkCard : Claim7 := { stood := { row := lawS1736AWalkRow, standIns := [], harness := (true, "75206e1c025f686685a45f7966c1b26495ef414f031fbeb1a65d70a0df86322d"), looks := false }, kinds := [], alts := [], laidByText := true, laidKinds := [.data], laidTests := true, laidLooks := .later }
def LawS1736AWalkCardSaid : Prop := Claim7.holds Ybad.pinned (.plain (OpenSpec.ofChange lawS1736AWalkSpec)) lawS1736AWalkCard

/-- THE TIED CARD OF 'lockwright.LawS1736ACounted'. -/
def lawS1736ACountedCard : Claim7 := { stood := { row := lawS1736ACountedRow, standIns := [], harness := (true, "75206e1c025f686685a45f7966c1b26495ef414f031fbeb1a65d70a0df86322d"), looks := false }, kinds := [], alts := [], laidByText := true, laidKinds := [.data], laidTests := true, laidLooks := .later }
def LawS1736ACountedCardSaid : Prop := Claim7.holds Ybad.pinned (.plain (OpenSpec.ofChange lawS1736ACountedSpec)) lawS1736ACountedCard
end Rows
end Go.Proofs.YbulkaixuDoor
