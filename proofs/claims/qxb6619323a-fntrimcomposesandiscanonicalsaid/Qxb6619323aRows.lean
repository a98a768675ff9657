/-
  No cell of these rows narrows 'for every input' (looked for: loops, veiled, ifaces, maps, wideKeys, modest, calm, conditions, laid).
  DERIVED. THE GIVEN ROWS OF THIS SEAT. 2 by the template 'for every input the law returns true; each argument reads behind the call as it read before'; 0 by the template 'total and deterministic' (their statements: Qxb6619323aTotals.lean).
  GIVEN WITH THE SEED: the statements are not yours to turn. If you find one false, say at which input.
  Laid BY PROGRAM, IN A SANDBOX (cutbox-rows.mjs): the forced cells as the released guide's own fill.sh prints them over the translation 325439f5b7805c9c… (all of the seat's roots in one cut). By AI agents, Wed Nov 11 2026. No macro, syntax, notation, axiom, sorry.
-/
import Derived.Test.Qxb6619323aChecked
import GoSem.Claim
import GoSem.ClaimJoined
import GoSem.ClaimMapViews
import Derived.JoinedTies
import Derived.KernelRfl
namespace Go.Proofs.Qxb6619323a
/- THE CELL 'sum', in the pinned program and in every row, IS THE sha256 OF THE DUMP (.gsa) THAT Qxb6619323aProg.lean LOADS. Nothing in Lean hashes anything: it is a label: what it is worth is what the hold of that sum in a sandbox is worth. -/
noncomputable def Try.pinned : Pinned := { name := "qxb6619323a", sum := "325439f5b7805c9cd3300c014f17b20f23a29b6de54604018a8f6736ea18df08", checked := Try.checked }
namespace Rows
def none {H : Type} : Left H := { results := [], args := [] }

/-- 'zzlaws_iopv_b1.FnTrimComposesAndIsCanonical': WHATEVER THE INPUT: true; the input reads as it did. -/
def fnTrimComposesAndIsCanonicalSpec : ChangeSpec := { name := "fnTrimComposesAndIsCanonical", fn := fun _ => fun
  | [d1, d2, d3, d4] => { results := [.lit (.bool true)], args := [d1, d2, d3, d4] }
  | _ => none }
def fnTrimComposesAndIsCanonicalRow : OpenClaim := { program := "qxb6619323a", sum := "325439f5b7805c9cd3300c014f17b20f23a29b6de54604018a8f6736ea18df08", func := "example.com/zhaomu/zhaomu/zzlaws_iopv_b1.FnTrimComposesAndIsCanonical", spec := "fnTrimComposesAndIsCanonical", apart := false }
def FnTrimComposesAndIsCanonicalSaid : Prop := fnTrimComposesAndIsCanonicalRow.holds Try.pinned (OpenSpec.ofChange fnTrimComposesAndIsCanonicalSpec)

/-- ITS FALSE NEIGHBOUR: 'it returns false'. Refute it at one input. -/
def fnTrimComposesAndIsCanonicalWrong : ChangeSpec := { name := "fnTrimComposesAndIsCanonical", fn := fun _ => fun
  | [d1, d2, d3, d4] => { results := [.lit (.bool false)], args := [d1, d2, d3, d4] }
  | _ => none }
def FnTrimComposesAndIsCanonicalWrongFalsely : Prop := fnTrimComposesAndIsCanonicalRow.holds Try.pinned (OpenSpec.ofChange fnTrimComposesAndIsCanonicalWrong)

/-- 'zzlaws_iopv_b1.FnTrimForgetsPadding': WHATEVER THE INPUT: true; the input reads as it did. -/
def fnTrimForgetsPaddingSpec : ChangeSpec := { name := "fnTrimForgetsPadding", fn := fun _ => fun
  | [d1, d2, d3, d4] => { results := [.lit (.bool true)], args := [d1, d2, d3, d4] }
  | _ => none }
def fnTrimForgetsPaddingRow : OpenClaim := { program := "qxb6619323a", sum := "325439f5b7805c9cd3300c014f17b20f23a29b6de54604018a8f6736ea18df08", func := "example.com/zhaomu/zhaomu/zzlaws_iopv_b1.FnTrimForgetsPadding", spec := "fnTrimForgetsPadding", apart := false }
def FnTrimForgetsPaddingSaid : Prop := fnTrimForgetsPaddingRow.holds Try.pinned (OpenSpec.ofChange fnTrimForgetsPaddingSpec)

/-- ITS FALSE NEIGHBOUR: 'it returns false'. Refute it at one input. -/
def fnTrimForgetsPaddingWrong : ChangeSpec := { name := "fnTrimForgetsPadding", fn := fun _ => fun
  | [d1, d2, d3, d4] => { results := [.lit (.bool false)], args := [d1, d2, d3, d4] }
  | _ => none }
def FnTrimForgetsPaddingWrongFalsely : Prop := fnTrimForgetsPaddingRow.holds Try.pinned (OpenSpec.ofChange fnTrimForgetsPaddingWrong)

end Rows
end Go.Proofs.Qxb6619323a
