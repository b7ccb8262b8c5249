/-
  No cell of these rows narrows 'for every input' (looked for: loops, veiled, ifaces, maps, wideKeys, modest, calm, conditions, laid).
  DERIVED. THE GIVEN ROWS OF THIS SEAT. 2 by the template 'for every input the law returns true; each argument reads behind the call as it read before'; 0 by the template 'total and deterministic' (their statements: Qxb6618287aTotals.lean).
  GIVEN WITH THE SEED: the statements are not yours to turn. If you find one false, say at which input.
  Laid BY PROGRAM, IN A SANDBOX (cutbox-rows.mjs): the forced cells as the released guide's own fill.sh prints them over the translation bd22cc99b44b0cd6… (all of the seat's roots in one cut). By AI agents, Wed Nov 11 2026. No macro, syntax, notation, axiom, sorry.
-/
import Derived.Test.Qxb6618287aChecked
import GoSem.Claim
import GoSem.ClaimJoined
import GoSem.ClaimMapViews
import Derived.JoinedTies
import Derived.KernelRfl
namespace Go.Proofs.Qxb6618287a
/- THE CELL 'sum', in the pinned program and in every row, IS THE sha256 OF THE DUMP (.gsa) THAT Qxb6618287aProg.lean LOADS. Nothing in Lean hashes anything: it is a label: what it is worth is what the hold of that sum in a sandbox is worth. -/
noncomputable def Try.pinned : Pinned := { name := "qxb6618287a", sum := "bd22cc99b44b0cd69662acdd1f1cee7590306a7eb011f657aa34d607394778c8", checked := Try.checked }
namespace Rows
def none {H : Type} : Left H := { results := [], args := [] }

/-- 'zzlaws_internal_witness_b1.FnRaisedAboveIsLeastEpochAboveBoth': WHATEVER THE INPUT: true; the input reads as it did. -/
def fnRaisedAboveIsLeastEpochAboveBothSpec : ChangeSpec := { name := "fnRaisedAboveIsLeastEpochAboveBoth", fn := fun _ => fun
  | [d1, d2, d3] => { results := [.lit (.bool true)], args := [d1, d2, d3] }
  | _ => none }
def fnRaisedAboveIsLeastEpochAboveBothRow : OpenClaim := { program := "qxb6618287a", sum := "bd22cc99b44b0cd69662acdd1f1cee7590306a7eb011f657aa34d607394778c8", func := "example.com/dyadkeep/dyadkeep/zzlaws_internal_witness_b1.FnRaisedAboveIsLeastEpochAboveBoth", spec := "fnRaisedAboveIsLeastEpochAboveBoth", apart := false }
def FnRaisedAboveIsLeastEpochAboveBothSaid : Prop := fnRaisedAboveIsLeastEpochAboveBothRow.holds Try.pinned (OpenSpec.ofChange fnRaisedAboveIsLeastEpochAboveBothSpec)

/-- ITS FALSE NEIGHBOUR: 'it returns false'. Refute it at one input. -/
def fnRaisedAboveIsLeastEpochAboveBothWrong : ChangeSpec := { name := "fnRaisedAboveIsLeastEpochAboveBoth", fn := fun _ => fun
  | [d1, d2, d3] => { results := [.lit (.bool false)], args := [d1, d2, d3] }
  | _ => none }
def FnRaisedAboveIsLeastEpochAboveBothWrongFalsely : Prop := fnRaisedAboveIsLeastEpochAboveBothRow.holds Try.pinned (OpenSpec.ofChange fnRaisedAboveIsLeastEpochAboveBothWrong)

/-- 'zzlaws_internal_witness_b1.FnRaisedAboveScriptMatchesClosedForm': WHATEVER THE INPUT: true; the input reads as it did. -/
def fnRaisedAboveScriptMatchesClosedFormSpec : ChangeSpec := { name := "fnRaisedAboveScriptMatchesClosedForm", fn := fun _ => fun
  | [d1, d2, d3] => { results := [.lit (.bool true)], args := [d1, d2, d3] }
  | _ => none }
def fnRaisedAboveScriptMatchesClosedFormRow : OpenClaim := { program := "qxb6618287a", sum := "bd22cc99b44b0cd69662acdd1f1cee7590306a7eb011f657aa34d607394778c8", func := "example.com/dyadkeep/dyadkeep/zzlaws_internal_witness_b1.FnRaisedAboveScriptMatchesClosedForm", spec := "fnRaisedAboveScriptMatchesClosedForm", apart := false }
def FnRaisedAboveScriptMatchesClosedFormSaid : Prop := fnRaisedAboveScriptMatchesClosedFormRow.holds Try.pinned (OpenSpec.ofChange fnRaisedAboveScriptMatchesClosedFormSpec)

/-- ITS FALSE NEIGHBOUR: 'it returns false'. Refute it at one input. -/
def fnRaisedAboveScriptMatchesClosedFormWrong : ChangeSpec := { name := "fnRaisedAboveScriptMatchesClosedForm", fn := fun _ => fun
  | [d1, d2, d3] => { results := [.lit (.bool false)], args := [d1, d2, d3] }
  | _ => none }
def FnRaisedAboveScriptMatchesClosedFormWrongFalsely : Prop := fnRaisedAboveScriptMatchesClosedFormRow.holds Try.pinned (OpenSpec.ofChange fnRaisedAboveScriptMatchesClosedFormWrong)

end Rows
end Go.Proofs.Qxb6618287a
