/-
  DERIVED. GIVEN WITH THE SEED: THE CARDS: each row of YbulkaiywFmtRows.lean that lists a variable, with what it lists TIED to the program's text (the seventh form; the later family's looks); each row that meets fmt, with fmt's text TOLD by the authors' own Lean function (tested against real Go, not proved from fmt's source: count such statements apart). THE CARD IS WHAT COUNTS. Prove the row's statement (the work); the ties are given (YbulkaiywFmtTie.lean); close each card by the builder's one call (the guide's Derived/Test/ToyasCard.lean, 'card_holds'). Laid BY PROGRAM, IN A SANDBOX (cutbox-door.mjs). By AI agents, Wed Nov 11 2026. No macro, syntax, notation, axiom, sorry.
-/
import Derived.Test.YbulkaiywFmtRows
import GoSem.ClaimSeven
namespace Go.Proofs.YbulkaiywFmt
namespace Rows

/-- THE TOLD CARD OF 'prices.LawS1738ARefuses'. -/
def lawS1738ARefusesCard : Claim7 := { stood := { row := lawS1738ARefusesRow, standIns := [], harness := (true, "49a177b0514b858288bee9be517990c60f082c5af4edd6aa0ba653a851a45961"), looks := false }, told := true, goes := false }
def LawS1738ARefusesToldSaid : Prop := Claim7.holds Ybaf.pinned (.plain (OpenSpec.ofChange lawS1738ARefusesSpec)) lawS1738ARefusesCard
/-- ITS FALSE NEIGHBOUR. Refute it at one input. -/
def LawS1738ARefusesToldWrongFalsely : Prop := Claim7.holds Ybaf.pinned (.plain (OpenSpec.ofChange lawS1738ARefusesWrong)) lawS1738ARefusesCard
end Rows
end Go.Proofs.YbulkaiywFmt
