/-
  No cell of these rows narrows 'for every input' (looked for: loops, veiled, ifaces, maps, wideKeys, modest, calm, conditions, laid).
  DERIVED. THE GIVEN ROWS OF THIS SEAT. 1 by the template 'for every input the law returns true; each argument reads behind the call as it read before'; 0 by the template 'total and deterministic' (their statements: Qxb6615840aFmtTotals.lean).
  GIVEN WITH THE SEED: the statements are not yours to turn. If you find one false, say at which input.
  Laid BY PROGRAM, IN A SANDBOX (cutbox-rows.mjs): the forced cells as the released guide's own fill.sh prints them over the translation 920e53060b8850d7… (all of the seat's roots in one cut). By AI agents, Wed Nov 11 2026. No macro, syntax, notation, axiom, sorry.
-/
import Derived.Test.Qxb6615840aFmtChecked
import GoSem.Claim
import GoSem.ClaimJoined
import GoSem.ClaimMapViews
import Derived.JoinedTies
import Derived.KernelRfl
namespace Go.Proofs.Qxb6615840aFmt
/- THE CELL 'sum', in the pinned program and in every row, IS THE sha256 OF THE DUMP (.gsa) THAT Qxb6615840aFmtProg.lean LOADS. Nothing in Lean hashes anything: it is a label: what it is worth is what the hold of that sum in a sandbox is worth. -/
noncomputable def Tryf.pinned : Pinned := { name := "qxb6615840afmt", sum := "920e53060b8850d7b6f7d92a8251ea9180cafc1210da31f298c8f4b39d89743c", checked := Tryf.checked }
namespace Rows
def none {H : Type} : Left H := { results := [], args := [] }

/-- 'zzlaws_internal_strictjson_b1.FnGivenTwiceIsAFreshBadRequest': WHATEVER THE INPUT: true; the input reads as it did. -/
def fnGivenTwiceIsAFreshBadRequestSpec : ChangeSpec := { name := "fnGivenTwiceIsAFreshBadRequest", fn := fun _ => fun
  | [d1, d2] => { results := [.lit (.bool true)], args := [d1, d2] }
  | _ => none }
def fnGivenTwiceIsAFreshBadRequestRow : OpenClaim := { program := "qxb6615840afmt", sum := "920e53060b8850d7b6f7d92a8251ea9180cafc1210da31f298c8f4b39d89743c", func := "example.com/sessions-on-record/sessions-on-record/zzlaws_internal_strictjson_b1.FnGivenTwiceIsAFreshBadRequest", spec := "fnGivenTwiceIsAFreshBadRequest", stops := ["fmt.Sprintf, its operands' methods called"], inPlace := ["fmt.Sprintf"], unfollowed := true, recurses := true, apart := false }
/-- NO THEOREM (fmt's text is open here; it may be false): for the released tool's asking of the row's closed facts alone. THE STATEMENT IS 'FnGivenTwiceIsAFreshBadRequestToldSaid' (Qxb6615840aFmtCards.lean). -/
def FnGivenTwiceIsAFreshBadRequestFormAsk : Prop := fnGivenTwiceIsAFreshBadRequestRow.holds Tryf.pinned (OpenSpec.ofChange fnGivenTwiceIsAFreshBadRequestSpec)

/-- ITS FALSE NEIGHBOUR: 'it returns false'. Refute it at one input. -/
def fnGivenTwiceIsAFreshBadRequestWrong : ChangeSpec := { name := "fnGivenTwiceIsAFreshBadRequest", fn := fun _ => fun
  | [d1, d2] => { results := [.lit (.bool false)], args := [d1, d2] }
  | _ => none }
def FnGivenTwiceIsAFreshBadRequestWrongFormAsk : Prop := fnGivenTwiceIsAFreshBadRequestRow.holds Tryf.pinned (OpenSpec.ofChange fnGivenTwiceIsAFreshBadRequestWrong)

end Rows
end Go.Proofs.Qxb6615840aFmt
