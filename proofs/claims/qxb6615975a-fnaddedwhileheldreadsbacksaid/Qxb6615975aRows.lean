/-
  No cell of these rows narrows 'for every input' (looked for: loops, veiled, ifaces, maps, wideKeys, modest, calm, conditions, laid).
  DERIVED. THE GIVEN ROWS OF THIS SEAT. 4 by the template 'for every input the law returns true; each argument reads behind the call as it read before'; 0 by the template 'total and deterministic' (their statements: Qxb6615975aTotals.lean).
  GIVEN WITH THE SEED: the statements are not yours to turn. If you find one false, say at which input.
  Laid BY PROGRAM, IN A SANDBOX (cutbox-rows.mjs): the forced cells as the released guide's own fill.sh prints them over the translation e6b5030196de1624… (all of the seat's roots in one cut). By AI agents, Wed Nov 11 2026. No macro, syntax, notation, axiom, sorry.
-/
import Derived.Test.Qxb6615975aChecked
import GoSem.Claim
import GoSem.ClaimJoined
import GoSem.ClaimMapViews
import Derived.JoinedTies
import Derived.KernelRfl
namespace Go.Proofs.Qxb6615975a
/- THE CELL 'sum', in the pinned program and in every row, IS THE sha256 OF THE DUMP (.gsa) THAT Qxb6615975aProg.lean LOADS. Nothing in Lean hashes anything: it is a label: what it is worth is what the hold of that sum in a sandbox is worth. -/
noncomputable def Try.pinned : Pinned := { name := "qxb6615975a", sum := "e6b5030196de162480b839d31586d6bfcf394ce390c3c411c41722a772f84240", checked := Try.checked }
namespace Rows
def none {H : Type} : Left H := { results := [], args := [] }

/-- 'zzlaws_root_b1.FnAddedWhileHeldReadsBack': WHATEVER THE INPUT: true; the input reads as it did. -/
def fnAddedWhileHeldReadsBackSpec : ChangeSpec := { name := "fnAddedWhileHeldReadsBack", fn := fun _ => fun
  | [d1, d2] => { results := [.lit (.bool true)], args := [d1, d2] }
  | _ => none }
def fnAddedWhileHeldReadsBackRow : OpenClaim := { program := "qxb6615975a", sum := "e6b5030196de162480b839d31586d6bfcf394ce390c3c411c41722a772f84240", func := "example.com/requeue/requeue/zzlaws_root_b1.FnAddedWhileHeldReadsBack", spec := "fnAddedWhileHeldReadsBack", apart := false }
def FnAddedWhileHeldReadsBackSaid : Prop := fnAddedWhileHeldReadsBackRow.holds Try.pinned (OpenSpec.ofChange fnAddedWhileHeldReadsBackSpec)

/-- ITS FALSE NEIGHBOUR: 'it returns false'. Refute it at one input. -/
def fnAddedWhileHeldReadsBackWrong : ChangeSpec := { name := "fnAddedWhileHeldReadsBack", fn := fun _ => fun
  | [d1, d2] => { results := [.lit (.bool false)], args := [d1, d2] }
  | _ => none }
def FnAddedWhileHeldReadsBackWrongFalsely : Prop := fnAddedWhileHeldReadsBackRow.holds Try.pinned (OpenSpec.ofChange fnAddedWhileHeldReadsBackWrong)

/-- 'zzlaws_root_b1.FnAddedWhileHeldLatestWins': WHATEVER THE INPUT: true; the input reads as it did. -/
def fnAddedWhileHeldLatestWinsSpec : ChangeSpec := { name := "fnAddedWhileHeldLatestWins", fn := fun _ => fun
  | [d1, d2] => { results := [.lit (.bool true)], args := [d1, d2] }
  | _ => none }
def fnAddedWhileHeldLatestWinsRow : OpenClaim := { program := "qxb6615975a", sum := "e6b5030196de162480b839d31586d6bfcf394ce390c3c411c41722a772f84240", func := "example.com/requeue/requeue/zzlaws_root_b1.FnAddedWhileHeldLatestWins", spec := "fnAddedWhileHeldLatestWins", apart := false }
def FnAddedWhileHeldLatestWinsSaid : Prop := fnAddedWhileHeldLatestWinsRow.holds Try.pinned (OpenSpec.ofChange fnAddedWhileHeldLatestWinsSpec)

/-- ITS FALSE NEIGHBOUR: 'it returns false'. Refute it at one input. -/
def fnAddedWhileHeldLatestWinsWrong : ChangeSpec := { name := "fnAddedWhileHeldLatestWins", fn := fun _ => fun
  | [d1, d2] => { results := [.lit (.bool false)], args := [d1, d2] }
  | _ => none }
def FnAddedWhileHeldLatestWinsWrongFalsely : Prop := fnAddedWhileHeldLatestWinsRow.holds Try.pinned (OpenSpec.ofChange fnAddedWhileHeldLatestWinsWrong)

/-- 'zzlaws_root_b1.FnDelayedLaneTopBitOnly': WHATEVER THE INPUT: true; the input reads as it did. -/
def fnDelayedLaneTopBitOnlySpec : ChangeSpec := { name := "fnDelayedLaneTopBitOnly", fn := fun _ => fun
  | [d1, d2] => { results := [.lit (.bool true)], args := [d1, d2] }
  | _ => none }
def fnDelayedLaneTopBitOnlyRow : OpenClaim := { program := "qxb6615975a", sum := "e6b5030196de162480b839d31586d6bfcf394ce390c3c411c41722a772f84240", func := "example.com/requeue/requeue/zzlaws_root_b1.FnDelayedLaneTopBitOnly", spec := "fnDelayedLaneTopBitOnly", apart := false }
def FnDelayedLaneTopBitOnlySaid : Prop := fnDelayedLaneTopBitOnlyRow.holds Try.pinned (OpenSpec.ofChange fnDelayedLaneTopBitOnlySpec)

/-- ITS FALSE NEIGHBOUR: 'it returns false'. Refute it at one input. -/
def fnDelayedLaneTopBitOnlyWrong : ChangeSpec := { name := "fnDelayedLaneTopBitOnly", fn := fun _ => fun
  | [d1, d2] => { results := [.lit (.bool false)], args := [d1, d2] }
  | _ => none }
def FnDelayedLaneTopBitOnlyWrongFalsely : Prop := fnDelayedLaneTopBitOnlyRow.holds Try.pinned (OpenSpec.ofChange fnDelayedLaneTopBitOnlyWrong)

/-- 'zzlaws_root_b1.FnDelayedLaneOrdered': WHATEVER THE INPUT: true; the input reads as it did. -/
def fnDelayedLaneOrderedSpec : ChangeSpec := { name := "fnDelayedLaneOrdered", fn := fun _ => fun
  | [d1, d2] => { results := [.lit (.bool true)], args := [d1, d2] }
  | _ => none }
def fnDelayedLaneOrderedRow : OpenClaim := { program := "qxb6615975a", sum := "e6b5030196de162480b839d31586d6bfcf394ce390c3c411c41722a772f84240", func := "example.com/requeue/requeue/zzlaws_root_b1.FnDelayedLaneOrdered", spec := "fnDelayedLaneOrdered", apart := false }
def FnDelayedLaneOrderedSaid : Prop := fnDelayedLaneOrderedRow.holds Try.pinned (OpenSpec.ofChange fnDelayedLaneOrderedSpec)

/-- ITS FALSE NEIGHBOUR: 'it returns false'. Refute it at one input. -/
def fnDelayedLaneOrderedWrong : ChangeSpec := { name := "fnDelayedLaneOrdered", fn := fun _ => fun
  | [d1, d2] => { results := [.lit (.bool false)], args := [d1, d2] }
  | _ => none }
def FnDelayedLaneOrderedWrongFalsely : Prop := fnDelayedLaneOrderedRow.holds Try.pinned (OpenSpec.ofChange fnDelayedLaneOrderedWrong)

end Rows
end Go.Proofs.Qxb6615975a
