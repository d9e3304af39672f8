/-
  DERIVED. GIVEN WITH THE SEED: THE CARDS: each row of Qxb6615840aFmtRows.lean that lists a variable, with what it lists TIED to the program's text (the seventh form; the later family's looks); each row that meets fmt, with fmt's text TOLD by the authors' own Lean function (tested against real Go, not proved from fmt's source: count such statements apart). THE CARD IS WHAT COUNTS. Prove the row's statement (the work); the ties are given (Qxb6615840aFmtTie.lean); close each card by the builder's one call (the guide's Derived/Test/ToyasCard.lean, 'card_holds'). Laid BY PROGRAM, IN A SANDBOX (cutbox-door.mjs). By AI agents, Wed Nov 11 2026. No macro, syntax, notation, axiom, sorry.
-/
import Derived.Test.Qxb6615840aFmtRows
import GoSem.ClaimSeven
namespace Go.Proofs.Qxb6615840aFmt
namespace Rows

/-- THE TOLD CARD OF 'zzlaws_internal_strictjson_b1.FnGivenTwiceIsAFreshBadRequest'. -/
def fnGivenTwiceIsAFreshBadRequestCard : Claim7 := { stood := { row := fnGivenTwiceIsAFreshBadRequestRow, standIns := [], harness := (true, "e4faf829cbcd60ebe3054e688e76f33d69b14b7faecfdc0aff5f1685114d973a"), looks := true }, told := true, goes := false }
def FnGivenTwiceIsAFreshBadRequestToldSaid : Prop := Claim7.holds Tryf.pinned (.plain (OpenSpec.ofChange fnGivenTwiceIsAFreshBadRequestSpec)) fnGivenTwiceIsAFreshBadRequestCard
/-- ITS FALSE NEIGHBOUR. Refute it at one input. -/
def FnGivenTwiceIsAFreshBadRequestToldWrongFalsely : Prop := Claim7.holds Tryf.pinned (.plain (OpenSpec.ofChange fnGivenTwiceIsAFreshBadRequestWrong)) fnGivenTwiceIsAFreshBadRequestCard
end Rows
end Go.Proofs.Qxb6615840aFmt
