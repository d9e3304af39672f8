/-
  No cell of these rows narrows 'for every input' (looked for: loops, veiled, ifaces, maps, wideKeys, modest, calm, conditions, laid).
  DERIVED. THE GIVEN ROWS OF THIS SEAT. 2 by the template 'for every input the law returns true; each argument reads behind the call as it read before'; 0 by the template 'total and deterministic' (their statements: Qxb6614553aTotals.lean).
  GIVEN WITH THE SEED: the statements are not yours to turn. If you find one false, say at which input.
  Laid BY PROGRAM, IN A SANDBOX (cutbox-rows.mjs): the forced cells as the released guide's own fill.sh prints them over the translation 19cbdbe823c3426d… (all of the seat's roots in one cut). By AI agents, Wed Nov 11 2026. No macro, syntax, notation, axiom, sorry.
-/
import Derived.Test.Qxb6614553aChecked
import GoSem.Claim
import GoSem.ClaimJoined
import GoSem.ClaimMapViews
import Derived.JoinedTies
import Derived.KernelRfl
namespace Go.Proofs.Qxb6614553a
/- THE CELL 'sum', in the pinned program and in every row, IS THE sha256 OF THE DUMP (.gsa) THAT Qxb6614553aProg.lean LOADS. Nothing in Lean hashes anything: it is a label: what it is worth is what the hold of that sum in a sandbox is worth. -/
noncomputable def Try.pinned : Pinned := { name := "qxb6614553a", sum := "19cbdbe823c3426d3b3947205fa700da461242e14afc37a0fbde2db78cedf3fa", checked := Try.checked }
namespace Rows
def none {H : Type} : Left H := { results := [], args := [] }

/-- 'zzlaws_internal_verify_b1.FnAppendStagedTwoRecordsParseBack': WHATEVER THE INPUT: true; the input reads as it did. -/
def fnAppendStagedTwoRecordsParseBackSpec : ChangeSpec := { name := "fnAppendStagedTwoRecordsParseBack", fn := fun _ => fun
  | [d1, d2, d3, d4, d5] => { results := [.lit (.bool true)], args := [d1, d2, d3, d4, d5] }
  | _ => none }
def fnAppendStagedTwoRecordsParseBackRow : OpenClaim := { program := "qxb6614553a", sum := "19cbdbe823c3426d3b3947205fa700da461242e14afc37a0fbde2db78cedf3fa", func := "example.com/credgate/credgate/zzlaws_internal_verify_b1.FnAppendStagedTwoRecordsParseBack", spec := "fnAppendStagedTwoRecordsParseBack", apart := false }
def FnAppendStagedTwoRecordsParseBackSaid : Prop := fnAppendStagedTwoRecordsParseBackRow.holds Try.pinned (OpenSpec.ofChange fnAppendStagedTwoRecordsParseBackSpec)

/-- ITS FALSE NEIGHBOUR: 'it returns false'. Refute it at one input. -/
def fnAppendStagedTwoRecordsParseBackWrong : ChangeSpec := { name := "fnAppendStagedTwoRecordsParseBack", fn := fun _ => fun
  | [d1, d2, d3, d4, d5] => { results := [.lit (.bool false)], args := [d1, d2, d3, d4, d5] }
  | _ => none }
def FnAppendStagedTwoRecordsParseBackWrongFalsely : Prop := fnAppendStagedTwoRecordsParseBackRow.holds Try.pinned (OpenSpec.ofChange fnAppendStagedTwoRecordsParseBackWrong)

/-- 'zzlaws_internal_verify_b1.FnAppendStagedIsPrefixFreeOfHighBits': WHATEVER THE INPUT: true; the input reads as it did. -/
def fnAppendStagedIsPrefixFreeOfHighBitsSpec : ChangeSpec := { name := "fnAppendStagedIsPrefixFreeOfHighBits", fn := fun _ => fun
  | [d1, d2, d3] => { results := [.lit (.bool true)], args := [d1, d2, d3] }
  | _ => none }
def fnAppendStagedIsPrefixFreeOfHighBitsRow : OpenClaim := { program := "qxb6614553a", sum := "19cbdbe823c3426d3b3947205fa700da461242e14afc37a0fbde2db78cedf3fa", func := "example.com/credgate/credgate/zzlaws_internal_verify_b1.FnAppendStagedIsPrefixFreeOfHighBits", spec := "fnAppendStagedIsPrefixFreeOfHighBits", apart := false }
def FnAppendStagedIsPrefixFreeOfHighBitsSaid : Prop := fnAppendStagedIsPrefixFreeOfHighBitsRow.holds Try.pinned (OpenSpec.ofChange fnAppendStagedIsPrefixFreeOfHighBitsSpec)

/-- ITS FALSE NEIGHBOUR: 'it returns false'. Refute it at one input. -/
def fnAppendStagedIsPrefixFreeOfHighBitsWrong : ChangeSpec := { name := "fnAppendStagedIsPrefixFreeOfHighBits", fn := fun _ => fun
  | [d1, d2, d3] => { results := [.lit (.bool false)], args := [d1, d2, d3] }
  | _ => none }
def FnAppendStagedIsPrefixFreeOfHighBitsWrongFalsely : Prop := fnAppendStagedIsPrefixFreeOfHighBitsRow.holds Try.pinned (OpenSpec.ofChange fnAppendStagedIsPrefixFreeOfHighBitsWrong)

end Rows
end Go.Proofs.Qxb6614553a
