/-
  No cell of these rows narrows 'for every input' (looked for: loops, veiled, ifaces, maps, wideKeys, modest, calm, conditions, laid).
  DERIVED. THE GIVEN ROWS OF THIS SEAT. 4 by the template 'for every input the law returns true; each argument reads behind the call as it read before'; 0 by the template 'total and deterministic' (their statements: Qxb6619296aTotals.lean).
  GIVEN WITH THE SEED: the statements are not yours to turn. If you find one false, say at which input.
  Laid BY PROGRAM, IN A SANDBOX (cutbox-rows.mjs): the forced cells as the released guide's own fill.sh prints them over the translation f763884f635ee7ae… (all of the seat's roots in one cut). By AI agents, Wed Nov 11 2026. No macro, syntax, notation, axiom, sorry.
-/
import Derived.Test.Qxb6619296aChecked
import GoSem.Claim
import GoSem.ClaimJoined
import GoSem.ClaimMapViews
import Derived.JoinedTies
import Derived.KernelRfl
namespace Go.Proofs.Qxb6619296a
/- THE CELL 'sum', in the pinned program and in every row, IS THE sha256 OF THE DUMP (.gsa) THAT Qxb6619296aProg.lean LOADS. Nothing in Lean hashes anything: it is a label: what it is worth is what the hold of that sum in a sandbox is worth. -/
noncomputable def Try.pinned : Pinned := { name := "qxb6619296a", sum := "f763884f635ee7ae30b602ff33121d2d4ec79c57d1eb7496920fb1cdb291cad2", checked := Try.checked }
namespace Rows
def none {H : Type} : Left H := { results := [], args := [] }

/-- 'zzlaws_internal_name_b1.FnParentBaseSplitRejoin': WHATEVER THE INPUT: true; the input reads as it did. -/
def fnParentBaseSplitRejoinSpec : ChangeSpec := { name := "fnParentBaseSplitRejoin", fn := fun _ => fun
  | [d1, d2] => { results := [.lit (.bool true)], args := [d1, d2] }
  | _ => none }
def fnParentBaseSplitRejoinRow : OpenClaim := { program := "qxb6619296a", sum := "f763884f635ee7ae30b602ff33121d2d4ec79c57d1eb7496920fb1cdb291cad2", func := "example.com/weft/weft/zzlaws_internal_name_b1.FnParentBaseSplitRejoin", spec := "fnParentBaseSplitRejoin", apart := false }
def FnParentBaseSplitRejoinSaid : Prop := fnParentBaseSplitRejoinRow.holds Try.pinned (OpenSpec.ofChange fnParentBaseSplitRejoinSpec)

/-- ITS FALSE NEIGHBOUR: 'it returns false'. Refute it at one input. -/
def fnParentBaseSplitRejoinWrong : ChangeSpec := { name := "fnParentBaseSplitRejoin", fn := fun _ => fun
  | [d1, d2] => { results := [.lit (.bool false)], args := [d1, d2] }
  | _ => none }
def FnParentBaseSplitRejoinWrongFalsely : Prop := fnParentBaseSplitRejoinRow.holds Try.pinned (OpenSpec.ofChange fnParentBaseSplitRejoinWrong)

/-- 'zzlaws_internal_name_b1.FnAppendThenParentBase': WHATEVER THE INPUT: true; the input reads as it did. -/
def fnAppendThenParentBaseSpec : ChangeSpec := { name := "fnAppendThenParentBase", fn := fun _ => fun
  | [d1, d2, d3] => { results := [.lit (.bool true)], args := [d1, d2, d3] }
  | _ => none }
def fnAppendThenParentBaseRow : OpenClaim := { program := "qxb6619296a", sum := "f763884f635ee7ae30b602ff33121d2d4ec79c57d1eb7496920fb1cdb291cad2", func := "example.com/weft/weft/zzlaws_internal_name_b1.FnAppendThenParentBase", spec := "fnAppendThenParentBase", apart := false }
def FnAppendThenParentBaseSaid : Prop := fnAppendThenParentBaseRow.holds Try.pinned (OpenSpec.ofChange fnAppendThenParentBaseSpec)

/-- ITS FALSE NEIGHBOUR: 'it returns false'. Refute it at one input. -/
def fnAppendThenParentBaseWrong : ChangeSpec := { name := "fnAppendThenParentBase", fn := fun _ => fun
  | [d1, d2, d3] => { results := [.lit (.bool false)], args := [d1, d2, d3] }
  | _ => none }
def FnAppendThenParentBaseWrongFalsely : Prop := fnAppendThenParentBaseRow.holds Try.pinned (OpenSpec.ofChange fnAppendThenParentBaseWrong)

/-- 'zzlaws_internal_name_b1.FnContainsAgreesWithWalkingUp': WHATEVER THE INPUT: true; the input reads as it did. -/
def fnContainsAgreesWithWalkingUpSpec : ChangeSpec := { name := "fnContainsAgreesWithWalkingUp", fn := fun _ => fun
  | [d1, d2, d3, d4] => { results := [.lit (.bool true)], args := [d1, d2, d3, d4] }
  | _ => none }
def fnContainsAgreesWithWalkingUpRow : OpenClaim := { program := "qxb6619296a", sum := "f763884f635ee7ae30b602ff33121d2d4ec79c57d1eb7496920fb1cdb291cad2", func := "example.com/weft/weft/zzlaws_internal_name_b1.FnContainsAgreesWithWalkingUp", spec := "fnContainsAgreesWithWalkingUp", apart := false }
def FnContainsAgreesWithWalkingUpSaid : Prop := fnContainsAgreesWithWalkingUpRow.holds Try.pinned (OpenSpec.ofChange fnContainsAgreesWithWalkingUpSpec)

/-- ITS FALSE NEIGHBOUR: 'it returns false'. Refute it at one input. -/
def fnContainsAgreesWithWalkingUpWrong : ChangeSpec := { name := "fnContainsAgreesWithWalkingUp", fn := fun _ => fun
  | [d1, d2, d3, d4] => { results := [.lit (.bool false)], args := [d1, d2, d3, d4] }
  | _ => none }
def FnContainsAgreesWithWalkingUpWrongFalsely : Prop := fnContainsAgreesWithWalkingUpRow.holds Try.pinned (OpenSpec.ofChange fnContainsAgreesWithWalkingUpWrong)

/-- 'zzlaws_internal_name_b1.FnContainsEveryExtension': WHATEVER THE INPUT: true; the input reads as it did. -/
def fnContainsEveryExtensionSpec : ChangeSpec := { name := "fnContainsEveryExtension", fn := fun _ => fun
  | [d1, d2, d3, d4] => { results := [.lit (.bool true)], args := [d1, d2, d3, d4] }
  | _ => none }
def fnContainsEveryExtensionRow : OpenClaim := { program := "qxb6619296a", sum := "f763884f635ee7ae30b602ff33121d2d4ec79c57d1eb7496920fb1cdb291cad2", func := "example.com/weft/weft/zzlaws_internal_name_b1.FnContainsEveryExtension", spec := "fnContainsEveryExtension", apart := false }
def FnContainsEveryExtensionSaid : Prop := fnContainsEveryExtensionRow.holds Try.pinned (OpenSpec.ofChange fnContainsEveryExtensionSpec)

/-- ITS FALSE NEIGHBOUR: 'it returns false'. Refute it at one input. -/
def fnContainsEveryExtensionWrong : ChangeSpec := { name := "fnContainsEveryExtension", fn := fun _ => fun
  | [d1, d2, d3, d4] => { results := [.lit (.bool false)], args := [d1, d2, d3, d4] }
  | _ => none }
def FnContainsEveryExtensionWrongFalsely : Prop := fnContainsEveryExtensionRow.holds Try.pinned (OpenSpec.ofChange fnContainsEveryExtensionWrong)

end Rows
end Go.Proofs.Qxb6619296a
