/-
  No cell of these rows narrows 'for every input' (looked for: loops, veiled, ifaces, maps, wideKeys, modest, calm, conditions, laid).
  DERIVED. THE GIVEN ROWS OF THIS SEAT. 5 by the template 'for every input the law returns true; each argument reads behind the call as it read before'; 0 by the template 'total and deterministic' (their statements: YbulkaixgTotals.lean).
  GIVEN WITH THE SEED: the statements are not yours to turn. If you find one false, say at which input.
  Laid BY PROGRAM, IN A SANDBOX (cutbox-rows.mjs): the forced cells as the released guide's own fill.sh prints them over the translation 21bc004563c25357… (all of the seat's roots in one cut). By AI agents, Wed Nov 11 2026. No macro, syntax, notation, axiom, sorry.
-/
import Derived.Test.YbulkaixgChecked
import GoSem.Claim
import GoSem.ClaimJoined
import GoSem.ClaimMapViews
import Derived.JoinedTies
import Derived.KernelRfl
namespace Go.Proofs.Ybulkaixg
/- THE CELL 'sum', in the pinned program and in every row, IS THE sha256 OF THE DUMP (.gsa) THAT YbulkaixgProg.lean LOADS. Nothing in Lean hashes anything: it is a label: what it is worth is what the hold of that sum in a sandbox is worth. -/
noncomputable def Yba.pinned : Pinned := { name := "ybulkaixg", sum := "21bc004563c25357542a6689a51cd0a5b21d4617885e73e833e5842e2f084394", checked := Yba.checked }
namespace Rows
def none {H : Type} : Left H := { results := [], args := [] }

/-- 'replica.LawS1735ALapse': WHATEVER THE INPUT: true; the input reads as it did. -/
def lawS1735ALapseSpec : ChangeSpec := { name := "lawS1735ALapse", fn := fun _ => fun
  | [d1, d2, d3, d4, d5, d6] => { results := [.lit (.bool true)], args := [d1, d2, d3, d4, d5, d6] }
  | _ => none }
def lawS1735ALapseRow : OpenClaim := { program := "ybulkaixg", sum := "21bc004563c25357542a6689a51cd0a5b21d4617885e73e833e5842e2f084394", func := "example.com/quorate/quorate/internal/replica.LawS1735ALapse", spec := "lawS1735ALapse", inPlace := ["(*sync.RWMutex).Lock", "internal/race.Read", "internal/race.Disable", "(*internal/sync.Mutex).Lock", "sync/atomic.CompareAndSwapInt32", "internal/race.Enable", "internal/race.Acquire", "(*internal/sync.Mutex).lockSlow", "internal/sync.runtime_canSpin", "internal/sync.runtime_doSpin", "internal/sync.throw", "internal/sync.runtime_nanotime", "internal/sync.runtime_SemacquireMutex", "sync/atomic.AddInt32", "sync.runtime_SemacquireRWMutex", "(*sync.RWMutex).Unlock", "internal/race.Release", "internal/race.ReleaseMerge", "sync.fatal", "sync.runtime_Semrelease", "(*internal/sync.Mutex).Unlock", "(*internal/sync.Mutex).unlockSlow", "internal/sync.fatal", "internal/sync.runtime_Semrelease", "internal/bytealg.abigen_runtime_cmpstring"], unfollowed := true, recurses := true, plainKeys := false, apart := false }
def LawS1735ALapseSaid : Prop := lawS1735ALapseRow.holds Yba.pinned (OpenSpec.ofChange lawS1735ALapseSpec)

/-- ITS FALSE NEIGHBOUR: 'it returns false'. Refute it at one input. -/
def lawS1735ALapseWrong : ChangeSpec := { name := "lawS1735ALapse", fn := fun _ => fun
  | [d1, d2, d3, d4, d5, d6] => { results := [.lit (.bool false)], args := [d1, d2, d3, d4, d5, d6] }
  | _ => none }
def LawS1735ALapseWrongFalsely : Prop := lawS1735ALapseRow.holds Yba.pinned (OpenSpec.ofChange lawS1735ALapseWrong)

/-- 'replica.LawS1735AMark': WHATEVER THE INPUT: true; the input reads as it did. -/
def lawS1735AMarkSpec : ChangeSpec := { name := "lawS1735AMark", fn := fun _ => fun
  | [d1, d2, d3, d4, d5, d6, d7, d8, d9] => { results := [.lit (.bool true)], args := [d1, d2, d3, d4, d5, d6, d7, d8, d9] }
  | _ => none }
def lawS1735AMarkRow : OpenClaim := { program := "ybulkaixg", sum := "21bc004563c25357542a6689a51cd0a5b21d4617885e73e833e5842e2f084394", func := "example.com/quorate/quorate/internal/replica.LawS1735AMark", spec := "lawS1735AMark", inPlace := ["(*sync.RWMutex).Lock", "internal/race.Read", "internal/race.Disable", "(*internal/sync.Mutex).Lock", "sync/atomic.CompareAndSwapInt32", "internal/race.Enable", "internal/race.Acquire", "(*internal/sync.Mutex).lockSlow", "internal/sync.runtime_canSpin", "internal/sync.runtime_doSpin", "internal/sync.throw", "internal/sync.runtime_nanotime", "internal/sync.runtime_SemacquireMutex", "sync/atomic.AddInt32", "sync.runtime_SemacquireRWMutex", "(*sync.RWMutex).Unlock", "internal/race.Release", "internal/race.ReleaseMerge", "sync.fatal", "sync.runtime_Semrelease", "(*internal/sync.Mutex).Unlock", "(*internal/sync.Mutex).unlockSlow", "internal/sync.fatal", "internal/sync.runtime_Semrelease", "internal/bytealg.abigen_runtime_cmpstring"], unfollowed := true, recurses := true, plainKeys := false, apart := false }
def LawS1735AMarkSaid : Prop := lawS1735AMarkRow.holds Yba.pinned (OpenSpec.ofChange lawS1735AMarkSpec)

/-- ITS FALSE NEIGHBOUR: 'it returns false'. Refute it at one input. -/
def lawS1735AMarkWrong : ChangeSpec := { name := "lawS1735AMark", fn := fun _ => fun
  | [d1, d2, d3, d4, d5, d6, d7, d8, d9] => { results := [.lit (.bool false)], args := [d1, d2, d3, d4, d5, d6, d7, d8, d9] }
  | _ => none }
def LawS1735AMarkWrongFalsely : Prop := lawS1735AMarkRow.holds Yba.pinned (OpenSpec.ofChange lawS1735AMarkWrong)

/-- 'replica.LawS1735BOrder': WHATEVER THE INPUT: true; the input reads as it did. -/
def lawS1735BOrderSpec : ChangeSpec := { name := "lawS1735BOrder", fn := fun _ => fun
  | [d1, d2] => { results := [.lit (.bool true)], args := [d1, d2] }
  | _ => none }
def lawS1735BOrderRow : OpenClaim := { program := "ybulkaixg", sum := "21bc004563c25357542a6689a51cd0a5b21d4617885e73e833e5842e2f084394", func := "example.com/quorate/quorate/internal/replica.LawS1735BOrder", spec := "lawS1735BOrder", unfollowed := true, recurses := true, plainKeys := false, apart := false }
def LawS1735BOrderSaid : Prop := lawS1735BOrderRow.holds Yba.pinned (OpenSpec.ofChange lawS1735BOrderSpec)

/-- ITS FALSE NEIGHBOUR: 'it returns false'. Refute it at one input. -/
def lawS1735BOrderWrong : ChangeSpec := { name := "lawS1735BOrder", fn := fun _ => fun
  | [d1, d2] => { results := [.lit (.bool false)], args := [d1, d2] }
  | _ => none }
def LawS1735BOrderWrongFalsely : Prop := lawS1735BOrderRow.holds Yba.pinned (OpenSpec.ofChange lawS1735BOrderWrong)

/-- 'quorum.LawS1735CExact': WHATEVER THE INPUT: true; the input reads as it did. -/
def lawS1735CExactSpec : ChangeSpec := { name := "lawS1735CExact", fn := fun _ => fun
  | [d1, d2, d3, d4, d5, d6, d7] => { results := [.lit (.bool true)], args := [d1, d2, d3, d4, d5, d6, d7] }
  | _ => none }
def lawS1735CExactRow : OpenClaim := { program := "ybulkaixg", sum := "21bc004563c25357542a6689a51cd0a5b21d4617885e73e833e5842e2f084394", func := "example.com/quorate/quorate/internal/quorum.LawS1735CExact", spec := "lawS1735CExact", inPlace := ["internal/bytealg.abigen_runtime_cmpstring"], plainKeys := false, apart := false }
def LawS1735CExactSaid : Prop := lawS1735CExactRow.holds Yba.pinned (OpenSpec.ofChange lawS1735CExactSpec)

/-- ITS FALSE NEIGHBOUR: 'it returns false'. Refute it at one input. -/
def lawS1735CExactWrong : ChangeSpec := { name := "lawS1735CExact", fn := fun _ => fun
  | [d1, d2, d3, d4, d5, d6, d7] => { results := [.lit (.bool false)], args := [d1, d2, d3, d4, d5, d6, d7] }
  | _ => none }
def LawS1735CExactWrongFalsely : Prop := lawS1735CExactRow.holds Yba.pinned (OpenSpec.ofChange lawS1735CExactWrong)

/-- 'quorum.LawS1735CIdem': WHATEVER THE INPUT: true; the input reads as it did. -/
def lawS1735CIdemSpec : ChangeSpec := { name := "lawS1735CIdem", fn := fun _ => fun
  | [d1, d2, d3, d4, d5, d6, d7] => { results := [.lit (.bool true)], args := [d1, d2, d3, d4, d5, d6, d7] }
  | _ => none }
def lawS1735CIdemRow : OpenClaim := { program := "ybulkaixg", sum := "21bc004563c25357542a6689a51cd0a5b21d4617885e73e833e5842e2f084394", func := "example.com/quorate/quorate/internal/quorum.LawS1735CIdem", spec := "lawS1735CIdem", inPlace := ["internal/bytealg.abigen_runtime_cmpstring"], plainKeys := false, apart := false }
def LawS1735CIdemSaid : Prop := lawS1735CIdemRow.holds Yba.pinned (OpenSpec.ofChange lawS1735CIdemSpec)

/-- ITS FALSE NEIGHBOUR: 'it returns false'. Refute it at one input. -/
def lawS1735CIdemWrong : ChangeSpec := { name := "lawS1735CIdem", fn := fun _ => fun
  | [d1, d2, d3, d4, d5, d6, d7] => { results := [.lit (.bool false)], args := [d1, d2, d3, d4, d5, d6, d7] }
  | _ => none }
def LawS1735CIdemWrongFalsely : Prop := lawS1735CIdemRow.holds Yba.pinned (OpenSpec.ofChange lawS1735CIdemWrong)

end Rows
end Go.Proofs.Ybulkaixg
