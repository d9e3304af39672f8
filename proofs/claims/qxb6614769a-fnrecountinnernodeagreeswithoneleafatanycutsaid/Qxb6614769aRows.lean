/-
  No cell of these rows narrows 'for every input' (looked for: loops, veiled, ifaces, maps, wideKeys, modest, calm, conditions, laid).
  DERIVED. THE GIVEN ROWS OF THIS SEAT. 1 by the template 'for every input the law returns true; each argument reads behind the call as it read before'; 0 by the template 'total and deterministic' (their statements: Qxb6614769aTotals.lean).
  GIVEN WITH THE SEED: the statements are not yours to turn. If you find one false, say at which input.
  Laid BY PROGRAM, IN A SANDBOX (cutbox-rows.mjs): the forced cells as the released guide's own fill.sh prints them over the translation 5760a9f9c851d5a9… (all of the seat's roots in one cut). By AI agents, Wed Nov 11 2026. No macro, syntax, notation, axiom, sorry.
-/
import Derived.Test.Qxb6614769aChecked
import GoSem.Claim
import GoSem.ClaimJoined
import GoSem.ClaimMapViews
import Derived.JoinedTies
import Derived.KernelRfl
namespace Go.Proofs.Qxb6614769a
/- THE CELL 'sum', in the pinned program and in every row, IS THE sha256 OF THE DUMP (.gsa) THAT Qxb6614769aProg.lean LOADS. Nothing in Lean hashes anything: it is a label: what it is worth is what the hold of that sum in a sandbox is worth. -/
noncomputable def Try.pinned : Pinned := { name := "qxb6614769a", sum := "5760a9f9c851d5a9e108deb442a620fe69724245da86e829bc52ade571706803", checked := Try.checked }
namespace Rows
def none {H : Type} : Left H := { results := [], args := [] }

/-- 'zzlaws_internal_blocks_b1.FnRecountInnerNodeAgreesWithOneLeafAtAnyCut': WHATEVER THE INPUT: true; the input reads as it did. -/
def fnRecountInnerNodeAgreesWithOneLeafAtAnyCutSpec : ChangeSpec := { name := "fnRecountInnerNodeAgreesWithOneLeafAtAnyCut", fn := fun _ => fun
  | [d1, d2, d3, d4] => { results := [.lit (.bool true)], args := [d1, d2, d3, d4] }
  | _ => none }
def fnRecountInnerNodeAgreesWithOneLeafAtAnyCutRow : OpenClaim := { program := "qxb6614769a", sum := "5760a9f9c851d5a9e108deb442a620fe69724245da86e829bc52ade571706803", func := "example.com/reknit/reknit/zzlaws_internal_blocks_b1.FnRecountInnerNodeAgreesWithOneLeafAtAnyCut", spec := "fnRecountInnerNodeAgreesWithOneLeafAtAnyCut", apart := false }
def FnRecountInnerNodeAgreesWithOneLeafAtAnyCutSaid : Prop := fnRecountInnerNodeAgreesWithOneLeafAtAnyCutRow.holds Try.pinned (OpenSpec.ofChange fnRecountInnerNodeAgreesWithOneLeafAtAnyCutSpec)

/-- ITS FALSE NEIGHBOUR: 'it returns false'. Refute it at one input. -/
def fnRecountInnerNodeAgreesWithOneLeafAtAnyCutWrong : ChangeSpec := { name := "fnRecountInnerNodeAgreesWithOneLeafAtAnyCut", fn := fun _ => fun
  | [d1, d2, d3, d4] => { results := [.lit (.bool false)], args := [d1, d2, d3, d4] }
  | _ => none }
def FnRecountInnerNodeAgreesWithOneLeafAtAnyCutWrongFalsely : Prop := fnRecountInnerNodeAgreesWithOneLeafAtAnyCutRow.holds Try.pinned (OpenSpec.ofChange fnRecountInnerNodeAgreesWithOneLeafAtAnyCutWrong)

end Rows
end Go.Proofs.Qxb6614769a
