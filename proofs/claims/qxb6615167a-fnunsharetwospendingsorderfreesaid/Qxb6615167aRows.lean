/-
  No cell of these rows narrows 'for every input' (looked for: loops, veiled, ifaces, maps, wideKeys, modest, calm, conditions, laid).
  DERIVED. THE GIVEN ROWS OF THIS SEAT. 2 by the template 'for every input the law returns true; each argument reads behind the call as it read before'; 0 by the template 'total and deterministic' (their statements: Qxb6615167aTotals.lean).
  GIVEN WITH THE SEED: the statements are not yours to turn. If you find one false, say at which input.
  Laid BY PROGRAM, IN A SANDBOX (cutbox-rows.mjs): the forced cells as the released guide's own fill.sh prints them over the translation 78cb5f1ef7afd3cf… (all of the seat's roots in one cut). By AI agents, Wed Nov 11 2026. No macro, syntax, notation, axiom, sorry.
-/
import Derived.Test.Qxb6615167aChecked
import GoSem.Claim
import GoSem.ClaimJoined
import GoSem.ClaimMapViews
import Derived.JoinedTies
import Derived.KernelRfl
namespace Go.Proofs.Qxb6615167a
/- THE CELL 'sum', in the pinned program and in every row, IS THE sha256 OF THE DUMP (.gsa) THAT Qxb6615167aProg.lean LOADS. Nothing in Lean hashes anything: it is a label: what it is worth is what the hold of that sum in a sandbox is worth. -/
noncomputable def Try.pinned : Pinned := { name := "qxb6615167a", sum := "78cb5f1ef7afd3cfd1a4545759ea0e2c53e31a2a056e423e2f2ff5b6f5abb148", checked := Try.checked }
namespace Rows
def none {H : Type} : Left H := { results := [], args := [] }

/-- 'zzlaws_pkg_budget_b1.FnUnshareOnceExactly': WHATEVER THE INPUT: true; the input reads as it did. -/
def fnUnshareOnceExactlySpec : ChangeSpec := { name := "fnUnshareOnceExactly", fn := fun _ => fun
  | [d1, d2, d3, d4, d5, d6, d7] => { results := [.lit (.bool true)], args := [d1, d2, d3, d4, d5, d6, d7] }
  | _ => none }
def fnUnshareOnceExactlyRow : OpenClaim := { program := "qxb6615167a", sum := "78cb5f1ef7afd3cfd1a4545759ea0e2c53e31a2a056e423e2f2ff5b6f5abb148", func := "example.com/tolld/tolld/zzlaws_pkg_budget_b1.FnUnshareOnceExactly", spec := "fnUnshareOnceExactly", inPlace := ["(*internal/sync.Mutex).Lock", "internal/race.Disable", "sync/atomic.CompareAndSwapInt32", "internal/race.Enable", "internal/race.Acquire", "(*internal/sync.Mutex).lockSlow", "internal/sync.runtime_canSpin", "internal/sync.runtime_doSpin", "internal/sync.throw", "internal/sync.runtime_nanotime", "internal/sync.runtime_SemacquireMutex", "sync/atomic.AddInt32", "(*internal/sync.Mutex).Unlock", "internal/race.ReleaseMerge", "(*internal/sync.Mutex).unlockSlow", "internal/sync.fatal", "internal/sync.runtime_Semrelease"], unfollowed := true, recurses := true, apart := false }
def FnUnshareOnceExactlySaid : Prop := fnUnshareOnceExactlyRow.holds Try.pinned (OpenSpec.ofChange fnUnshareOnceExactlySpec)

/-- ITS FALSE NEIGHBOUR: 'it returns false'. Refute it at one input. -/
def fnUnshareOnceExactlyWrong : ChangeSpec := { name := "fnUnshareOnceExactly", fn := fun _ => fun
  | [d1, d2, d3, d4, d5, d6, d7] => { results := [.lit (.bool false)], args := [d1, d2, d3, d4, d5, d6, d7] }
  | _ => none }
def FnUnshareOnceExactlyWrongFalsely : Prop := fnUnshareOnceExactlyRow.holds Try.pinned (OpenSpec.ofChange fnUnshareOnceExactlyWrong)

/-- 'zzlaws_pkg_budget_b1.FnUnshareTwoSpendingsOrderFree': WHATEVER THE INPUT: true; the input reads as it did. -/
def fnUnshareTwoSpendingsOrderFreeSpec : ChangeSpec := { name := "fnUnshareTwoSpendingsOrderFree", fn := fun _ => fun
  | [d1, d2, d3, d4, d5, d6] => { results := [.lit (.bool true)], args := [d1, d2, d3, d4, d5, d6] }
  | _ => none }
def fnUnshareTwoSpendingsOrderFreeRow : OpenClaim := { program := "qxb6615167a", sum := "78cb5f1ef7afd3cfd1a4545759ea0e2c53e31a2a056e423e2f2ff5b6f5abb148", func := "example.com/tolld/tolld/zzlaws_pkg_budget_b1.FnUnshareTwoSpendingsOrderFree", spec := "fnUnshareTwoSpendingsOrderFree", inPlace := ["(*internal/sync.Mutex).Lock", "internal/race.Disable", "sync/atomic.CompareAndSwapInt32", "internal/race.Enable", "internal/race.Acquire", "(*internal/sync.Mutex).lockSlow", "internal/sync.runtime_canSpin", "internal/sync.runtime_doSpin", "internal/sync.throw", "internal/sync.runtime_nanotime", "internal/sync.runtime_SemacquireMutex", "sync/atomic.AddInt32", "(*internal/sync.Mutex).Unlock", "internal/race.ReleaseMerge", "(*internal/sync.Mutex).unlockSlow", "internal/sync.fatal", "internal/sync.runtime_Semrelease"], unfollowed := true, recurses := true, apart := false }
def FnUnshareTwoSpendingsOrderFreeSaid : Prop := fnUnshareTwoSpendingsOrderFreeRow.holds Try.pinned (OpenSpec.ofChange fnUnshareTwoSpendingsOrderFreeSpec)

/-- ITS FALSE NEIGHBOUR: 'it returns false'. Refute it at one input. -/
def fnUnshareTwoSpendingsOrderFreeWrong : ChangeSpec := { name := "fnUnshareTwoSpendingsOrderFree", fn := fun _ => fun
  | [d1, d2, d3, d4, d5, d6] => { results := [.lit (.bool false)], args := [d1, d2, d3, d4, d5, d6] }
  | _ => none }
def FnUnshareTwoSpendingsOrderFreeWrongFalsely : Prop := fnUnshareTwoSpendingsOrderFreeRow.holds Try.pinned (OpenSpec.ofChange fnUnshareTwoSpendingsOrderFreeWrong)

end Rows
end Go.Proofs.Qxb6615167a
