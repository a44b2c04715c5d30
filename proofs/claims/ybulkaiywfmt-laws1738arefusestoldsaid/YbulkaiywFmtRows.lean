/-
  No cell of these rows narrows 'for every input' (looked for: loops, veiled, ifaces, maps, wideKeys, modest, calm, conditions, laid).
  DERIVED. THE GIVEN ROWS OF THIS SEAT. 1 by the template 'for every input the law returns true; each argument reads behind the call as it read before'; 0 by the template 'total and deterministic' (their statements: YbulkaiywFmtTotals.lean).
  GIVEN WITH THE SEED: the statements are not yours to turn. If you find one false, say at which input.
  Laid BY PROGRAM, IN A SANDBOX (cutbox-rows.mjs): the forced cells as the released guide's own fill.sh prints them over the translation 11557b1a2b48b8ef… (all of the seat's roots in one cut). By AI agents, Wed Nov 11 2026. No macro, syntax, notation, axiom, sorry.
-/
import Derived.Test.YbulkaiywFmtChecked
import GoSem.Claim
import GoSem.ClaimJoined
import GoSem.ClaimMapViews
import Derived.JoinedTies
import Derived.KernelRfl
namespace Go.Proofs.YbulkaiywFmt
/- THE CELL 'sum', in the pinned program and in every row, IS THE sha256 OF THE DUMP (.gsa) THAT YbulkaiywFmtProg.lean LOADS. Nothing in Lean hashes anything: it is a label: what it is worth is what the hold of that sum in a sandbox is worth. -/
noncomputable def Ybaf.pinned : Pinned := { name := "ybulkaiywfmt", sum := "11557b1a2b48b8ef9c0d82c15873124b156d2db471966f060207890ec862a13b", checked := Ybaf.checked }
namespace Rows
def none {H : Type} : Left H := { results := [], args := [] }

/-- 'prices.LawS1738ARefuses': WHATEVER THE INPUT: true; the input reads as it did. -/
def lawS1738ARefusesSpec : ChangeSpec := { name := "lawS1738ARefuses", fn := fun _ => fun
  | [d1, d2, d3] => { results := [.lit (.bool true)], args := [d1, d2, d3] }
  | _ => none }
def lawS1738ARefusesRow : OpenClaim := { program := "ybulkaiywfmt", sum := "11557b1a2b48b8ef9c0d82c15873124b156d2db471966f060207890ec862a13b", func := "example.com/custos/custos/internal/prices.LawS1738ARefuses", spec := "lawS1738ARefuses", stops := ["fmt.errorf"], inPlace := ["fmt.errorf"], apart := false }
/-- NO THEOREM (fmt's text is open here; it may be false): for the released tool's asking of the row's closed facts alone. THE STATEMENT IS 'LawS1738ARefusesToldSaid' (YbulkaiywFmtCards.lean). -/
def LawS1738ARefusesFormAsk : Prop := lawS1738ARefusesRow.holds Ybaf.pinned (OpenSpec.ofChange lawS1738ARefusesSpec)

/-- ITS FALSE NEIGHBOUR: 'it returns false'. Refute it at one input. -/
def lawS1738ARefusesWrong : ChangeSpec := { name := "lawS1738ARefuses", fn := fun _ => fun
  | [d1, d2, d3] => { results := [.lit (.bool false)], args := [d1, d2, d3] }
  | _ => none }
def LawS1738ARefusesWrongFormAsk : Prop := lawS1738ARefusesRow.holds Ybaf.pinned (OpenSpec.ofChange lawS1738ARefusesWrong)

end Rows
end Go.Proofs.YbulkaiywFmt
