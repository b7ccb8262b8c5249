/-
  No cell of these rows narrows 'for every input' (looked for: loops, veiled, ifaces, maps, wideKeys, modest, calm, conditions, laid).
  DERIVED. THE GIVEN ROWS OF THIS SEAT. 1 by the template 'for every input the law returns true; each argument reads behind the call as it read before'; 0 by the template 'total and deterministic' (their statements: Qxb6618274aTotals.lean).
  GIVEN WITH THE SEED: the statements are not yours to turn. If you find one false, say at which input.
  Laid BY PROGRAM, IN A SANDBOX (cutbox-rows.mjs): the forced cells as the released guide's own fill.sh prints them over the translation a9f46a83e7460c79… (all of the seat's roots in one cut). By AI agents, Wed Nov 11 2026. No macro, syntax, notation, axiom, sorry.
-/
import Derived.Test.Qxb6618274aChecked
import GoSem.Claim
import GoSem.ClaimJoined
import GoSem.ClaimMapViews
import Derived.JoinedTies
import Derived.KernelRfl
namespace Go.Proofs.Qxb6618274a
/- THE CELL 'sum', in the pinned program and in every row, IS THE sha256 OF THE DUMP (.gsa) THAT Qxb6618274aProg.lean LOADS. Nothing in Lean hashes anything: it is a label: what it is worth is what the hold of that sum in a sandbox is worth. -/
noncomputable def Try.pinned : Pinned := { name := "qxb6618274a", sum := "a9f46a83e7460c7929f377ace292b90e6ae1cf2c55b9a2b68e5534299a64eb5f", checked := Try.checked }
namespace Rows
def none {H : Type} : Left H := { results := [], args := [] }

/-- 'zzlaws_root_b1.FnHeldReadsOnlyItsTwoLines': WHATEVER THE INPUT: true; the input reads as it did. -/
def fnHeldReadsOnlyItsTwoLinesSpec : ChangeSpec := { name := "fnHeldReadsOnlyItsTwoLines", fn := fun _ => fun
  | [d1, d2, d3, d4, d5, d6] => { results := [.lit (.bool true)], args := [d1, d2, d3, d4, d5, d6] }
  | _ => none }
def fnHeldReadsOnlyItsTwoLinesRow : OpenClaim := { program := "qxb6618274a", sum := "a9f46a83e7460c7929f377ace292b90e6ae1cf2c55b9a2b68e5534299a64eb5f", func := "example.com/hold-thread/hold-thread/zzlaws_root_b1.FnHeldReadsOnlyItsTwoLines", spec := "fnHeldReadsOnlyItsTwoLines", apart := false }
def FnHeldReadsOnlyItsTwoLinesSaid : Prop := fnHeldReadsOnlyItsTwoLinesRow.holds Try.pinned (OpenSpec.ofChange fnHeldReadsOnlyItsTwoLinesSpec)

/-- ITS FALSE NEIGHBOUR: 'it returns false'. Refute it at one input. -/
def fnHeldReadsOnlyItsTwoLinesWrong : ChangeSpec := { name := "fnHeldReadsOnlyItsTwoLines", fn := fun _ => fun
  | [d1, d2, d3, d4, d5, d6] => { results := [.lit (.bool false)], args := [d1, d2, d3, d4, d5, d6] }
  | _ => none }
def FnHeldReadsOnlyItsTwoLinesWrongFalsely : Prop := fnHeldReadsOnlyItsTwoLinesRow.holds Try.pinned (OpenSpec.ofChange fnHeldReadsOnlyItsTwoLinesWrong)

end Rows
end Go.Proofs.Qxb6618274a
