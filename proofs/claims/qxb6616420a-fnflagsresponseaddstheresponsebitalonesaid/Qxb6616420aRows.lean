/-
  No cell of these rows narrows 'for every input' (looked for: loops, veiled, ifaces, maps, wideKeys, modest, calm, conditions, laid).
  DERIVED. THE GIVEN ROWS OF THIS SEAT. 2 by the template 'for every input the law returns true; each argument reads behind the call as it read before'; 0 by the template 'total and deterministic' (their statements: Qxb6616420aTotals.lean).
  GIVEN WITH THE SEED: the statements are not yours to turn. If you find one false, say at which input.
  Laid BY PROGRAM, IN A SANDBOX (cutbox-rows.mjs): the forced cells as the released guide's own fill.sh prints them over the translation d13107eda842e8f4… (all of the seat's roots in one cut). By AI agents, Wed Nov 11 2026. No macro, syntax, notation, axiom, sorry.
-/
import Derived.Test.Qxb6616420aChecked
import GoSem.Claim
import GoSem.ClaimJoined
import GoSem.ClaimMapViews
import Derived.JoinedTies
import Derived.KernelRfl
namespace Go.Proofs.Qxb6616420a
/- THE CELL 'sum', in the pinned program and in every row, IS THE sha256 OF THE DUMP (.gsa) THAT Qxb6616420aProg.lean LOADS. Nothing in Lean hashes anything: it is a label: what it is worth is what the hold of that sum in a sandbox is worth. -/
noncomputable def Try.pinned : Pinned := { name := "qxb6616420a", sum := "d13107eda842e8f4c2c2e78bbf8ceef441c3890f1074f7384473acb350247384", checked := Try.checked }
namespace Rows
def none {H : Type} : Left H := { results := [], args := [] }

/-- 'zzlaws_pkg_ike_b1.FnFlagsResponseAddsTheResponseBitAlone': WHATEVER THE INPUT: true; the input reads as it did. -/
def fnFlagsResponseAddsTheResponseBitAloneSpec : ChangeSpec := { name := "fnFlagsResponseAddsTheResponseBitAlone", fn := fun _ => fun
  | [d] => { results := [.lit (.bool true)], args := [d] }
  | _ => none }
def fnFlagsResponseAddsTheResponseBitAloneRow : OpenClaim := { program := "qxb6616420a", sum := "d13107eda842e8f4c2c2e78bbf8ceef441c3890f1074f7384473acb350247384", func := "example.com/holloway/holloway/zzlaws_pkg_ike_b1.FnFlagsResponseAddsTheResponseBitAlone", spec := "fnFlagsResponseAddsTheResponseBitAlone", apart := false }
def FnFlagsResponseAddsTheResponseBitAloneSaid : Prop := fnFlagsResponseAddsTheResponseBitAloneRow.holds Try.pinned (OpenSpec.ofChange fnFlagsResponseAddsTheResponseBitAloneSpec)

/-- ITS FALSE NEIGHBOUR: 'it returns false'. Refute it at one input. -/
def fnFlagsResponseAddsTheResponseBitAloneWrong : ChangeSpec := { name := "fnFlagsResponseAddsTheResponseBitAlone", fn := fun _ => fun
  | [d] => { results := [.lit (.bool false)], args := [d] }
  | _ => none }
def FnFlagsResponseAddsTheResponseBitAloneWrongFalsely : Prop := fnFlagsResponseAddsTheResponseBitAloneRow.holds Try.pinned (OpenSpec.ofChange fnFlagsResponseAddsTheResponseBitAloneWrong)

/-- 'zzlaws_pkg_ike_b1.FnFlagsTwoEndsDifferInTheInitiatorBitAlone': WHATEVER THE INPUT: true; the input reads as it did. -/
def fnFlagsTwoEndsDifferInTheInitiatorBitAloneSpec : ChangeSpec := { name := "fnFlagsTwoEndsDifferInTheInitiatorBitAlone", fn := fun _ => fun
  | [d] => { results := [.lit (.bool true)], args := [d] }
  | _ => none }
def fnFlagsTwoEndsDifferInTheInitiatorBitAloneRow : OpenClaim := { program := "qxb6616420a", sum := "d13107eda842e8f4c2c2e78bbf8ceef441c3890f1074f7384473acb350247384", func := "example.com/holloway/holloway/zzlaws_pkg_ike_b1.FnFlagsTwoEndsDifferInTheInitiatorBitAlone", spec := "fnFlagsTwoEndsDifferInTheInitiatorBitAlone", apart := false }
def FnFlagsTwoEndsDifferInTheInitiatorBitAloneSaid : Prop := fnFlagsTwoEndsDifferInTheInitiatorBitAloneRow.holds Try.pinned (OpenSpec.ofChange fnFlagsTwoEndsDifferInTheInitiatorBitAloneSpec)

/-- ITS FALSE NEIGHBOUR: 'it returns false'. Refute it at one input. -/
def fnFlagsTwoEndsDifferInTheInitiatorBitAloneWrong : ChangeSpec := { name := "fnFlagsTwoEndsDifferInTheInitiatorBitAlone", fn := fun _ => fun
  | [d] => { results := [.lit (.bool false)], args := [d] }
  | _ => none }
def FnFlagsTwoEndsDifferInTheInitiatorBitAloneWrongFalsely : Prop := fnFlagsTwoEndsDifferInTheInitiatorBitAloneRow.holds Try.pinned (OpenSpec.ofChange fnFlagsTwoEndsDifferInTheInitiatorBitAloneWrong)

end Rows
end Go.Proofs.Qxb6616420a
