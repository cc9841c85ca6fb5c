/-
  NARROWER THAN 'FOR EVERY INPUT', by the rows' own cells (each row's printed sentence says how): FnNewReaderReadsBackItsSource: laid.
  DERIVED. THE GIVEN ROWS OF THIS SEAT. 1 by the template 'for every input the law returns true; each argument reads behind the call as it read before'; 0 by the template 'total and deterministic' (their statements: Qxb6612454aDoorTotals.lean).
  GIVEN WITH THE SEED: the statements are not yours to turn. If you find one false, say at which input.
  Laid BY PROGRAM, IN A SANDBOX (cutbox-rows.mjs): the forced cells as the released guide's own fill.sh prints them over the translation e9276e594aea71a2… (all of the seat's roots in one cut). By AI agents, Wed Nov 11 2026. No macro, syntax, notation, axiom, sorry.
-/
import Derived.Test.Qxb6612454aDoorChecked
import GoSem.Claim
import GoSem.ClaimJoined
import GoSem.ClaimMapViews
import Derived.JoinedTies
import Derived.KernelRfl
namespace Go.Proofs.Qxb6612454aDoor
/- THE CELL 'sum', in the pinned program and in every row, IS THE sha256 OF THE DUMP (.gsa) THAT Qxb6612454aDoorProg.lean LOADS. Nothing in Lean hashes anything: it is a label: what it is worth is what the hold of that sum in a sandbox is worth. -/
noncomputable def Tryd.pinned : Pinned := { name := "qxb6612454adoor", sum := "e9276e594aea71a28b5515b32472aa9518a228633ee8b4c3c32f85636b71b9f6", checked := Tryd.checked }
namespace Rows
def none {H : Type} : Left H := { results := [], args := [] }

/- WHAT THE LISTED PACKAGE-LEVEL VARIABLES READ AS WHEN THE CALL BEGINS. Each datum BY PROGRAM (the guide's laid-datum.mjs) off the statement by which the dump's own 'gosem.cut.vars' lays the variable. In a bare row this is a premise. The card (Qxb6612454aDoorCards.lean) ties it to the program's text. -/
def laid_io_EOF {H : Type} : DataW H := .iface "*errors.errorString" (.ptr (.agg [.lit (.string [69, 79, 70])]))

/-- 'zzlaws_lines_b1.FnNewReaderReadsBackItsSource': WHATEVER THE INPUT: true; the input reads as it did. -/
def fnNewReaderReadsBackItsSourceSpec : ChangeSpec := { name := "fnNewReaderReadsBackItsSource", fn := fun _ => fun
  | [d1, d2, d3, d4] => { results := [.lit (.bool true)], args := [d1, d2, d3, d4] }
  | _ => none }
def fnNewReaderReadsBackItsSourceRow : OpenClaim := { program := "qxb6612454adoor", sum := "e9276e594aea71a28b5515b32472aa9518a228633ee8b4c3c32f85636b71b9f6", func := "example.com/foldline/foldline/zzlaws_lines_b1.FnNewReaderReadsBackItsSource", spec := "fnNewReaderReadsBackItsSource", unfollowed := true, recurses := true, named := ["io.EOF"], apart := false, laid := [("io.EOF", laid_io_EOF)] }
def FnNewReaderReadsBackItsSourceSaid : Prop := fnNewReaderReadsBackItsSourceRow.holds Tryd.pinned (OpenSpec.ofChange fnNewReaderReadsBackItsSourceSpec)

/-- ITS FALSE NEIGHBOUR: 'it returns false'. Refute it at one input. -/
def fnNewReaderReadsBackItsSourceWrong : ChangeSpec := { name := "fnNewReaderReadsBackItsSource", fn := fun _ => fun
  | [d1, d2, d3, d4] => { results := [.lit (.bool false)], args := [d1, d2, d3, d4] }
  | _ => none }
def FnNewReaderReadsBackItsSourceWrongFalsely : Prop := fnNewReaderReadsBackItsSourceRow.holds Tryd.pinned (OpenSpec.ofChange fnNewReaderReadsBackItsSourceWrong)

end Rows
end Go.Proofs.Qxb6612454aDoor
