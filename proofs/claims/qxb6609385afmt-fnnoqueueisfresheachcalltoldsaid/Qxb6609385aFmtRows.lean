/-
  No cell of these rows narrows 'for every input' (looked for: loops, veiled, ifaces, maps, wideKeys, modest, calm, conditions, laid).
  DERIVED. THE GIVEN ROWS OF THIS SEAT. 1 by the template 'for every input the law returns true; each argument reads behind the call as it read before'; 0 by the template 'total and deterministic' (their statements: Qxb6609385aFmtTotals.lean).
  GIVEN WITH THE SEED: the statements are not yours to turn. If you find one false, say at which input.
  Laid BY PROGRAM, IN A SANDBOX (cutbox-rows.mjs): the forced cells as the released guide's own fill.sh prints them over the translation a90e75b2e26bf53e… (all of the seat's roots in one cut). By AI agents, Wed Nov 11 2026. No macro, syntax, notation, axiom, sorry.
-/
import Derived.Test.Qxb6609385aFmtChecked
import GoSem.Claim
import GoSem.ClaimJoined
import GoSem.ClaimMapViews
import Derived.JoinedTies
import Derived.KernelRfl
namespace Go.Proofs.Qxb6609385aFmt
/- THE CELL 'sum', in the pinned program and in every row, IS THE sha256 OF THE DUMP (.gsa) THAT Qxb6609385aFmtProg.lean LOADS. Nothing in Lean hashes anything: it is a label: what it is worth is what the hold of that sum in a sandbox is worth. -/
noncomputable def Tryf.pinned : Pinned := { name := "qxb6609385afmt", sum := "a90e75b2e26bf53e05360fd179f373a1a937fb29e1367c778a9a31c555886767", checked := Tryf.checked }
namespace Rows
def none {H : Type} : Left H := { results := [], args := [] }

/-- 'zzlaws_internal_aws_awstest_b1.FnNoQueueIsFreshEachCall': WHATEVER THE INPUT: true; the input reads as it did. -/
def fnNoQueueIsFreshEachCallSpec : ChangeSpec := { name := "fnNoQueueIsFreshEachCall", fn := fun _ => fun
  | [] => { results := [.lit (.bool true)], args := [] }
  | _ => none }
def fnNoQueueIsFreshEachCallRow : OpenClaim := { program := "qxb6609385afmt", sum := "a90e75b2e26bf53e05360fd179f373a1a937fb29e1367c778a9a31c555886767", func := "example.com/runnerpool/runnerpool/zzlaws_internal_aws_awstest_b1.FnNoQueueIsFreshEachCall", spec := "fnNoQueueIsFreshEachCall", stops := ["fmt.Sprintf, its operands' methods called"], inPlace := ["fmt.Sprintf"], unfollowed := true, recurses := true, apart := false }
/-- NO THEOREM (fmt's text is open here; it may be false): for the released tool's asking of the row's closed facts alone. THE STATEMENT IS 'FnNoQueueIsFreshEachCallToldSaid' (Qxb6609385aFmtCards.lean). -/
def FnNoQueueIsFreshEachCallFormAsk : Prop := fnNoQueueIsFreshEachCallRow.holds Tryf.pinned (OpenSpec.ofChange fnNoQueueIsFreshEachCallSpec)

/-- ITS FALSE NEIGHBOUR: 'it returns false'. Refute it at one input. -/
def fnNoQueueIsFreshEachCallWrong : ChangeSpec := { name := "fnNoQueueIsFreshEachCall", fn := fun _ => fun
  | [] => { results := [.lit (.bool false)], args := [] }
  | _ => none }
def FnNoQueueIsFreshEachCallWrongFormAsk : Prop := fnNoQueueIsFreshEachCallRow.holds Tryf.pinned (OpenSpec.ofChange fnNoQueueIsFreshEachCallWrong)

end Rows
end Go.Proofs.Qxb6609385aFmt
