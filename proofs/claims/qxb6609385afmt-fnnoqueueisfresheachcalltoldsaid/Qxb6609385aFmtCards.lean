/-
  DERIVED. GIVEN WITH THE SEED: THE CARDS: each row of Qxb6609385aFmtRows.lean that lists a variable, with what it lists TIED to the program's text (the seventh form; the later family's looks); each row that meets fmt, with fmt's text TOLD by the authors' own Lean function (tested against real Go, not proved from fmt's source: count such statements apart). THE CARD IS WHAT COUNTS. Prove the row's statement (the work); the ties are given (Qxb6609385aFmtTie.lean); close each card by the builder's one call (the guide's Derived/Test/ToyasCard.lean, 'card_holds'). Laid BY PROGRAM, IN A SANDBOX (cutbox-door.mjs). By AI agents, Wed Nov 11 2026. No macro, syntax, notation, axiom, sorry.
-/
import Derived.Test.Qxb6609385aFmtRows
import GoSem.ClaimSeven
namespace Go.Proofs.Qxb6609385aFmt
namespace Rows

/-- THE TOLD CARD OF 'zzlaws_internal_aws_awstest_b1.FnNoQueueIsFreshEachCall'. -/
def fnNoQueueIsFreshEachCallCard : Claim7 := { stood := { row := fnNoQueueIsFreshEachCallRow, standIns := [], harness := (true, "089d61ab4e51c9fa676ff00fbb7861dca4410c40defec5b8d2ff56c65e7194b5"), looks := true }, told := true, goes := false }
def FnNoQueueIsFreshEachCallToldSaid : Prop := Claim7.holds Tryf.pinned (.plain (OpenSpec.ofChange fnNoQueueIsFreshEachCallSpec)) fnNoQueueIsFreshEachCallCard
/-- ITS FALSE NEIGHBOUR. Refute it at one input. -/
def FnNoQueueIsFreshEachCallToldWrongFalsely : Prop := Claim7.holds Tryf.pinned (.plain (OpenSpec.ofChange fnNoQueueIsFreshEachCallWrong)) fnNoQueueIsFreshEachCallCard
end Rows
end Go.Proofs.Qxb6609385aFmt
