/-
  No cell of these rows narrows 'for every input' (looked for: loops, veiled, ifaces, maps, wideKeys, modest, calm, conditions, laid).
  DERIVED. THE GIVEN ROWS OF THIS SEAT. 2 by the template 'for every input the law returns true; each argument reads behind the call as it read before'; 0 by the template 'total and deterministic' (their statements: YbulkaixuTotals.lean).
  GIVEN WITH THE SEED: the statements are not yours to turn. If you find one false, say at which input.
  Laid BY PROGRAM, IN A SANDBOX (cutbox-rows.mjs): the forced cells as the released guide's own fill.sh prints them over the translation 3cd957883efac6a5… (all of the seat's roots in one cut). By AI agents, Wed Nov 11 2026. No macro, syntax, notation, axiom, sorry.
-/
import Derived.Test.YbulkaixuChecked
import GoSem.Claim
import GoSem.ClaimJoined
import GoSem.ClaimMapViews
import Derived.JoinedTies
import Derived.KernelRfl
namespace Go.Proofs.Ybulkaixu
/- THE CELL 'sum', in the pinned program and in every row, IS THE sha256 OF THE DUMP (.gsa) THAT YbulkaixuProg.lean LOADS. Nothing in Lean hashes anything: it is a label: what it is worth is what the hold of that sum in a sandbox is worth. -/
noncomputable def Yba.pinned : Pinned := { name := "ybulkaixu", sum := "3cd957883efac6a566725001192b9abae1719abc795372185eb465e1b277c729", checked := Yba.checked }
namespace Rows
def none {H : Type} : Left H := { results := [], args := [] }

/-- 'lockwright.LawS1736CQuiet': WHATEVER THE INPUT: true; the input reads as it did. -/
def lawS1736CQuietSpec : ChangeSpec := { name := "lawS1736CQuiet", fn := fun _ => fun
  | [d1, d2] => { results := [.lit (.bool true)], args := [d1, d2] }
  | _ => none }
def lawS1736CQuietRow : OpenClaim := { program := "ybulkaixu", sum := "3cd957883efac6a566725001192b9abae1719abc795372185eb465e1b277c729", func := "example.com/lockwright/lockwright.LawS1736CQuiet", spec := "lawS1736CQuiet", unfollowed := true, recurses := true, plainKeys := false, apart := false }
def LawS1736CQuietSaid : Prop := lawS1736CQuietRow.holds Yba.pinned (OpenSpec.ofChange lawS1736CQuietSpec)

/-- ITS FALSE NEIGHBOUR: 'it returns false'. Refute it at one input. -/
def lawS1736CQuietWrong : ChangeSpec := { name := "lawS1736CQuiet", fn := fun _ => fun
  | [d1, d2] => { results := [.lit (.bool false)], args := [d1, d2] }
  | _ => none }
def LawS1736CQuietWrongFalsely : Prop := lawS1736CQuietRow.holds Yba.pinned (OpenSpec.ofChange lawS1736CQuietWrong)

/-- 'lockwright.LawS1736CCounted': WHATEVER THE INPUT: true; the input reads as it did. -/
def lawS1736CCountedSpec : ChangeSpec := { name := "lawS1736CCounted", fn := fun _ => fun
  | [d1, d2] => { results := [.lit (.bool true)], args := [d1, d2] }
  | _ => none }
def lawS1736CCountedRow : OpenClaim := { program := "ybulkaixu", sum := "3cd957883efac6a566725001192b9abae1719abc795372185eb465e1b277c729", func := "example.com/lockwright/lockwright.LawS1736CCounted", spec := "lawS1736CCounted", unfollowed := true, recurses := true, plainKeys := false, apart := false }
def LawS1736CCountedSaid : Prop := lawS1736CCountedRow.holds Yba.pinned (OpenSpec.ofChange lawS1736CCountedSpec)

/-- ITS FALSE NEIGHBOUR: 'it returns false'. Refute it at one input. -/
def lawS1736CCountedWrong : ChangeSpec := { name := "lawS1736CCounted", fn := fun _ => fun
  | [d1, d2] => { results := [.lit (.bool false)], args := [d1, d2] }
  | _ => none }
def LawS1736CCountedWrongFalsely : Prop := lawS1736CCountedRow.holds Yba.pinned (OpenSpec.ofChange lawS1736CCountedWrong)

end Rows
end Go.Proofs.Ybulkaixu
