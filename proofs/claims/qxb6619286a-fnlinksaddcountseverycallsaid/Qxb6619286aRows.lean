/-
  No cell of these rows narrows 'for every input' (looked for: loops, veiled, ifaces, maps, wideKeys, modest, calm, conditions, laid).
  DERIVED. THE GIVEN ROWS OF THIS SEAT. 1 by the template 'for every input the law returns true; each argument reads behind the call as it read before'; 0 by the template 'total and deterministic' (their statements: Qxb6619286aTotals.lean).
  GIVEN WITH THE SEED: the statements are not yours to turn. If you find one false, say at which input.
  Laid BY PROGRAM, IN A SANDBOX (cutbox-rows.mjs): the forced cells as the released guide's own fill.sh prints them over the translation 7b0f49d7a1f9f71d… (all of the seat's roots in one cut). By AI agents, Wed Nov 11 2026. No macro, syntax, notation, axiom, sorry.
-/
import Derived.Test.Qxb6619286aChecked
import GoSem.Claim
import GoSem.ClaimJoined
import GoSem.ClaimMapViews
import Derived.JoinedTies
import Derived.KernelRfl
namespace Go.Proofs.Qxb6619286a
/- THE CELL 'sum', in the pinned program and in every row, IS THE sha256 OF THE DUMP (.gsa) THAT Qxb6619286aProg.lean LOADS. Nothing in Lean hashes anything: it is a label: what it is worth is what the hold of that sum in a sandbox is worth. -/
noncomputable def Try.pinned : Pinned := { name := "qxb6619286a", sum := "7b0f49d7a1f9f71d4fa47430f9f316c7ad7a7d4e67cd9f860d3f694b9c6829f8", checked := Try.checked }
namespace Rows
def none {H : Type} : Left H := { results := [], args := [] }

/-- 'zzlaws_collector_b1.FnLinksAddCountsEveryCall': WHATEVER THE INPUT: true; the input reads as it did. -/
def fnLinksAddCountsEveryCallSpec : ChangeSpec := { name := "fnLinksAddCountsEveryCall", fn := fun _ => fun
  | [d1, d2, d3, d4, d5, d6, d7] => { results := [.lit (.bool true)], args := [d1, d2, d3, d4, d5, d6, d7] }
  | _ => none }
def fnLinksAddCountsEveryCallRow : OpenClaim := { program := "qxb6619286a", sum := "7b0f49d7a1f9f71d4fa47430f9f316c7ad7a7d4e67cd9f860d3f694b9c6829f8", func := "example.com/spanweave/spanweave/zzlaws_collector_b1.FnLinksAddCountsEveryCall", spec := "fnLinksAddCountsEveryCall", plainKeys := false, apart := false }
def FnLinksAddCountsEveryCallSaid : Prop := fnLinksAddCountsEveryCallRow.holds Try.pinned (OpenSpec.ofChange fnLinksAddCountsEveryCallSpec)

/-- ITS FALSE NEIGHBOUR: 'it returns false'. Refute it at one input. -/
def fnLinksAddCountsEveryCallWrong : ChangeSpec := { name := "fnLinksAddCountsEveryCall", fn := fun _ => fun
  | [d1, d2, d3, d4, d5, d6, d7] => { results := [.lit (.bool false)], args := [d1, d2, d3, d4, d5, d6, d7] }
  | _ => none }
def FnLinksAddCountsEveryCallWrongFalsely : Prop := fnLinksAddCountsEveryCallRow.holds Try.pinned (OpenSpec.ofChange fnLinksAddCountsEveryCallWrong)

end Rows
end Go.Proofs.Qxb6619286a
