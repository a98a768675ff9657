/-
  No cell of these rows narrows 'for every input' (looked for: loops, veiled, ifaces, maps, wideKeys, modest, calm, conditions, laid).
  DERIVED. THE GIVEN ROWS OF THIS SEAT. 1 by the template 'for every input the law returns true; each argument reads behind the call as it read before'; 0 by the template 'total and deterministic' (their statements: Qxb6618468aTotals.lean).
  GIVEN WITH THE SEED: the statements are not yours to turn. If you find one false, say at which input.
  Laid BY PROGRAM, IN A SANDBOX (cutbox-rows.mjs): the forced cells as the released guide's own fill.sh prints them over the translation eea3518725753ebe… (all of the seat's roots in one cut). By AI agents, Wed Nov 11 2026. No macro, syntax, notation, axiom, sorry.
-/
import Derived.Test.Qxb6618468aChecked
import GoSem.Claim
import GoSem.ClaimJoined
import GoSem.ClaimMapViews
import Derived.JoinedTies
import Derived.KernelRfl
namespace Go.Proofs.Qxb6618468a
/- THE CELL 'sum', in the pinned program and in every row, IS THE sha256 OF THE DUMP (.gsa) THAT Qxb6618468aProg.lean LOADS. Nothing in Lean hashes anything: it is a label: what it is worth is what the hold of that sum in a sandbox is worth. -/
noncomputable def Try.pinned : Pinned := { name := "qxb6618468a", sum := "eea3518725753ebe9b1742bb03b37130c31161cf78a6fee95b0cb478826dd850", checked := Try.checked }
namespace Rows
def none {H : Type} : Left H := { results := [], args := [] }

/-- 'zzlaws_root_b1.FnEnvQuotedEndCut': WHATEVER THE INPUT: true; the input reads as it did. -/
def fnEnvQuotedEndCutSpec : ChangeSpec := { name := "fnEnvQuotedEndCut", fn := fun _ => fun
  | [d1, d2] => { results := [.lit (.bool true)], args := [d1, d2] }
  | _ => none }
def fnEnvQuotedEndCutRow : OpenClaim := { program := "qxb6618468a", sum := "eea3518725753ebe9b1742bb03b37130c31161cf78a6fee95b0cb478826dd850", func := "example.com/late-subst/late-subst/zzlaws_root_b1.FnEnvQuotedEndCut", spec := "fnEnvQuotedEndCut", apart := false }
def FnEnvQuotedEndCutSaid : Prop := fnEnvQuotedEndCutRow.holds Try.pinned (OpenSpec.ofChange fnEnvQuotedEndCutSpec)

/-- ITS FALSE NEIGHBOUR: 'it returns false'. Refute it at one input. -/
def fnEnvQuotedEndCutWrong : ChangeSpec := { name := "fnEnvQuotedEndCut", fn := fun _ => fun
  | [d1, d2] => { results := [.lit (.bool false)], args := [d1, d2] }
  | _ => none }
def FnEnvQuotedEndCutWrongFalsely : Prop := fnEnvQuotedEndCutRow.holds Try.pinned (OpenSpec.ofChange fnEnvQuotedEndCutWrong)

end Rows
end Go.Proofs.Qxb6618468a
