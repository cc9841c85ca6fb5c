/-
  NARROWER THAN 'FOR EVERY INPUT', by the rows' own cells (each row's printed sentence says how): FnAtMarkerIsMarkerLine: laid · FnAtMarkerIgnoresWhatComesBefore: laid · FnAtDocumentEndIsEndLine: laid · FnAtDocumentEndReadsNoFurtherThanSixBytes: laid.
  DERIVED. THE GIVEN ROWS OF THIS SEAT. 4 by the template 'for every input the law returns true; each argument reads behind the call as it read before'; 0 by the template 'total and deterministic' (their statements: Qxb6609232aDoorTotals.lean).
  GIVEN WITH THE SEED: the statements are not yours to turn. If you find one false, say at which input.
  Laid BY PROGRAM, IN A SANDBOX (cutbox-rows.mjs): the forced cells as the released guide's own fill.sh prints them over the translation ff490e024070ef66… (all of the seat's roots in one cut). By AI agents, Wed Nov 11 2026. No macro, syntax, notation, axiom, sorry.
-/
import Derived.Test.Qxb6609232aDoorChecked
import GoSem.Claim
import GoSem.ClaimJoined
import GoSem.ClaimMapViews
import Derived.JoinedTies
import Derived.KernelRfl
namespace Go.Proofs.Qxb6609232aDoor
/- THE CELL 'sum', in the pinned program and in every row, IS THE sha256 OF THE DUMP (.gsa) THAT Qxb6609232aDoorProg.lean LOADS. Nothing in Lean hashes anything: it is a label: what it is worth is what the hold of that sum in a sandbox is worth. -/
noncomputable def Tryd.pinned : Pinned := { name := "qxb6609232adoor", sum := "ff490e024070ef665a14794a56fefda5bc6f28159b65d1a93b40958b13c144d6", checked := Tryd.checked }
namespace Rows
def none {H : Type} : Left H := { results := [], args := [] }

/- WHAT THE LISTED PACKAGE-LEVEL VARIABLES READ AS WHEN THE CALL BEGINS. Each datum BY PROGRAM (the guide's laid-datum.mjs) off the statement by which the dump's own 'gosem.cut.vars' lays the variable. In a bare row this is a premise. The card (Qxb6609232aDoorCards.lean) ties it to the program's text. -/
def laid_example_com_kindcheck_kindcheck_internal_document_mayBeginBreak {H : Type} : DataW H := .agg [.lit (.bool false), .lit (.bool false), .lit (.bool false), .lit (.bool false), .lit (.bool false), .lit (.bool false), .lit (.bool false), .lit (.bool false), .lit (.bool false), .lit (.bool false), .lit (.bool true), .lit (.bool false), .lit (.bool false), .lit (.bool true), .lit (.bool false), .lit (.bool false), .lit (.bool false), .lit (.bool false), .lit (.bool false), .lit (.bool false), .lit (.bool false), .lit (.bool false), .lit (.bool false), .lit (.bool false), .lit (.bool false), .lit (.bool false), .lit (.bool false), .lit (.bool false), .lit (.bool false), .lit (.bool false), .lit (.bool false), .lit (.bool false), .lit (.bool false), .lit (.bool false), .lit (.bool false), .lit (.bool false), .lit (.bool false), .lit (.bool false), .lit (.bool false), .lit (.bool false), .lit (.bool false), .lit (.bool false), .lit (.bool false), .lit (.bool false), .lit (.bool false), .lit (.bool false), .lit (.bool false), .lit (.bool false), .lit (.bool false), .lit (.bool false), .lit (.bool false), .lit (.bool false), .lit (.bool false), .lit (.bool false), .lit (.bool false), .lit (.bool false), .lit (.bool false), .lit (.bool false), .lit (.bool false), .lit (.bool false), .lit (.bool false), .lit (.bool false), .lit (.bool false), .lit (.bool false), .lit (.bool false), .lit (.bool false), .lit (.bool false), .lit (.bool false), .lit (.bool false), .lit (.bool false), .lit (.bool false), .lit (.bool false), .lit (.bool false), .lit (.bool false), .lit (.bool false), .lit (.bool false), .lit (.bool false), .lit (.bool false), .lit (.bool false), .lit (.bool false), .lit (.bool false), .lit (.bool false), .lit (.bool false), .lit (.bool false), .lit (.bool false), .lit (.bool false), .lit (.bool false), .lit (.bool false), .lit (.bool false), .lit (.bool false), .lit (.bool false), .lit (.bool false), .lit (.bool false), .lit (.bool false), .lit (.bool false), .lit (.bool false), .lit (.bool false), .lit (.bool false), .lit (.bool false), .lit (.bool false), .lit (.bool false), .lit (.bool false), .lit (.bool false), .lit (.bool false), .lit (.bool false), .lit (.bool false), .lit (.bool false), .lit (.bool false), .lit (.bool false), .lit (.bool false), .lit (.bool false), .lit (.bool false), .lit (.bool false), .lit (.bool false), .lit (.bool false), .lit (.bool false), .lit (.bool false), .lit (.bool false), .lit (.bool false), .lit (.bool false), .lit (.bool false), .lit (.bool false), .lit (.bool false), .lit (.bool false), .lit (.bool false), .lit (.bool false), .lit (.bool false), .lit (.bool false), .lit (.bool false), .lit (.bool false), .lit (.bool false), .lit (.bool false), .lit (.bool false), .lit (.bool false), .lit (.bool false), .lit (.bool false), .lit (.bool false), .lit (.bool false), .lit (.bool false), .lit (.bool false), .lit (.bool false), .lit (.bool false), .lit (.bool false), .lit (.bool false), .lit (.bool false), .lit (.bool false), .lit (.bool false), .lit (.bool false), .lit (.bool false), .lit (.bool false), .lit (.bool false), .lit (.bool false), .lit (.bool false), .lit (.bool false), .lit (.bool false), .lit (.bool false), .lit (.bool false), .lit (.bool false), .lit (.bool false), .lit (.bool false), .lit (.bool false), .lit (.bool false), .lit (.bool false), .lit (.bool false), .lit (.bool false), .lit (.bool false), .lit (.bool false), .lit (.bool false), .lit (.bool false), .lit (.bool false), .lit (.bool false), .lit (.bool false), .lit (.bool false), .lit (.bool false), .lit (.bool false), .lit (.bool false), .lit (.bool false), .lit (.bool false), .lit (.bool false), .lit (.bool false), .lit (.bool false), .lit (.bool false), .lit (.bool false), .lit (.bool false), .lit (.bool false), .lit (.bool false), .lit (.bool false), .lit (.bool false), .lit (.bool false), .lit (.bool false), .lit (.bool false), .lit (.bool false), .lit (.bool false), .lit (.bool false), .lit (.bool true), .lit (.bool false), .lit (.bool false), .lit (.bool false), .lit (.bool false), .lit (.bool false), .lit (.bool false), .lit (.bool false), .lit (.bool false), .lit (.bool false), .lit (.bool false), .lit (.bool false), .lit (.bool false), .lit (.bool false), .lit (.bool false), .lit (.bool false), .lit (.bool false), .lit (.bool false), .lit (.bool false), .lit (.bool false), .lit (.bool false), .lit (.bool false), .lit (.bool false), .lit (.bool false), .lit (.bool false), .lit (.bool false), .lit (.bool false), .lit (.bool false), .lit (.bool false), .lit (.bool false), .lit (.bool false), .lit (.bool false), .lit (.bool true), .lit (.bool false), .lit (.bool false), .lit (.bool false), .lit (.bool false), .lit (.bool false), .lit (.bool false), .lit (.bool false), .lit (.bool false), .lit (.bool false), .lit (.bool false), .lit (.bool false), .lit (.bool false), .lit (.bool false), .lit (.bool false), .lit (.bool false), .lit (.bool false), .lit (.bool false), .lit (.bool false), .lit (.bool false), .lit (.bool false), .lit (.bool false), .lit (.bool false), .lit (.bool false), .lit (.bool false), .lit (.bool false), .lit (.bool false), .lit (.bool false), .lit (.bool false), .lit (.bool false)]

/-- 'zzlaws_internal_document_b1.FnAtMarkerIsMarkerLine': WHATEVER THE INPUT: true; the input reads as it did. -/
def fnAtMarkerIsMarkerLineSpec : ChangeSpec := { name := "fnAtMarkerIsMarkerLine", vars := ["example.com/kindcheck/kindcheck/internal/document.mayBeginBreak"], fn := fun _ => fun
  | [d1, d2, d3, d4, g1] => { results := [.lit (.bool true)], args := [d1, d2, d3, d4], vars := [g1] }
  | _ => none }
def fnAtMarkerIsMarkerLineRow : OpenClaim := { program := "qxb6609232adoor", sum := "ff490e024070ef665a14794a56fefda5bc6f28159b65d1a93b40958b13c144d6", func := "example.com/kindcheck/kindcheck/zzlaws_internal_document_b1.FnAtMarkerIsMarkerLine", spec := "fnAtMarkerIsMarkerLine", named := ["example.com/kindcheck/kindcheck/internal/document.mayBeginBreak"], apart := false, laid := [("example.com/kindcheck/kindcheck/internal/document.mayBeginBreak", laid_example_com_kindcheck_kindcheck_internal_document_mayBeginBreak)] }
def FnAtMarkerIsMarkerLineSaid : Prop := fnAtMarkerIsMarkerLineRow.holds Tryd.pinned (OpenSpec.ofChange fnAtMarkerIsMarkerLineSpec)

/-- ITS FALSE NEIGHBOUR: 'it returns false'. Refute it at one input. -/
def fnAtMarkerIsMarkerLineWrong : ChangeSpec := { name := "fnAtMarkerIsMarkerLine", vars := ["example.com/kindcheck/kindcheck/internal/document.mayBeginBreak"], fn := fun _ => fun
  | [d1, d2, d3, d4, g1] => { results := [.lit (.bool false)], args := [d1, d2, d3, d4], vars := [g1] }
  | _ => none }
def FnAtMarkerIsMarkerLineWrongFalsely : Prop := fnAtMarkerIsMarkerLineRow.holds Tryd.pinned (OpenSpec.ofChange fnAtMarkerIsMarkerLineWrong)

/-- 'zzlaws_internal_document_b1.FnAtMarkerIgnoresWhatComesBefore': WHATEVER THE INPUT: true; the input reads as it did. -/
def fnAtMarkerIgnoresWhatComesBeforeSpec : ChangeSpec := { name := "fnAtMarkerIgnoresWhatComesBefore", vars := ["example.com/kindcheck/kindcheck/internal/document.mayBeginBreak"], fn := fun _ => fun
  | [d1, d2, d3, d4, d5, g1] => { results := [.lit (.bool true)], args := [d1, d2, d3, d4, d5], vars := [g1] }
  | _ => none }
def fnAtMarkerIgnoresWhatComesBeforeRow : OpenClaim := { program := "qxb6609232adoor", sum := "ff490e024070ef665a14794a56fefda5bc6f28159b65d1a93b40958b13c144d6", func := "example.com/kindcheck/kindcheck/zzlaws_internal_document_b1.FnAtMarkerIgnoresWhatComesBefore", spec := "fnAtMarkerIgnoresWhatComesBefore", named := ["example.com/kindcheck/kindcheck/internal/document.mayBeginBreak"], apart := false, laid := [("example.com/kindcheck/kindcheck/internal/document.mayBeginBreak", laid_example_com_kindcheck_kindcheck_internal_document_mayBeginBreak)] }
def FnAtMarkerIgnoresWhatComesBeforeSaid : Prop := fnAtMarkerIgnoresWhatComesBeforeRow.holds Tryd.pinned (OpenSpec.ofChange fnAtMarkerIgnoresWhatComesBeforeSpec)

/-- ITS FALSE NEIGHBOUR: 'it returns false'. Refute it at one input. -/
def fnAtMarkerIgnoresWhatComesBeforeWrong : ChangeSpec := { name := "fnAtMarkerIgnoresWhatComesBefore", vars := ["example.com/kindcheck/kindcheck/internal/document.mayBeginBreak"], fn := fun _ => fun
  | [d1, d2, d3, d4, d5, g1] => { results := [.lit (.bool false)], args := [d1, d2, d3, d4, d5], vars := [g1] }
  | _ => none }
def FnAtMarkerIgnoresWhatComesBeforeWrongFalsely : Prop := fnAtMarkerIgnoresWhatComesBeforeRow.holds Tryd.pinned (OpenSpec.ofChange fnAtMarkerIgnoresWhatComesBeforeWrong)

/-- 'zzlaws_internal_document_b1.FnAtDocumentEndIsEndLine': WHATEVER THE INPUT: true; the input reads as it did. -/
def fnAtDocumentEndIsEndLineSpec : ChangeSpec := { name := "fnAtDocumentEndIsEndLine", vars := ["example.com/kindcheck/kindcheck/internal/document.mayBeginBreak"], fn := fun _ => fun
  | [d1, d2, d3, d4, g1] => { results := [.lit (.bool true)], args := [d1, d2, d3, d4], vars := [g1] }
  | _ => none }
def fnAtDocumentEndIsEndLineRow : OpenClaim := { program := "qxb6609232adoor", sum := "ff490e024070ef665a14794a56fefda5bc6f28159b65d1a93b40958b13c144d6", func := "example.com/kindcheck/kindcheck/zzlaws_internal_document_b1.FnAtDocumentEndIsEndLine", spec := "fnAtDocumentEndIsEndLine", named := ["example.com/kindcheck/kindcheck/internal/document.mayBeginBreak"], apart := false, laid := [("example.com/kindcheck/kindcheck/internal/document.mayBeginBreak", laid_example_com_kindcheck_kindcheck_internal_document_mayBeginBreak)] }
def FnAtDocumentEndIsEndLineSaid : Prop := fnAtDocumentEndIsEndLineRow.holds Tryd.pinned (OpenSpec.ofChange fnAtDocumentEndIsEndLineSpec)

/-- ITS FALSE NEIGHBOUR: 'it returns false'. Refute it at one input. -/
def fnAtDocumentEndIsEndLineWrong : ChangeSpec := { name := "fnAtDocumentEndIsEndLine", vars := ["example.com/kindcheck/kindcheck/internal/document.mayBeginBreak"], fn := fun _ => fun
  | [d1, d2, d3, d4, g1] => { results := [.lit (.bool false)], args := [d1, d2, d3, d4], vars := [g1] }
  | _ => none }
def FnAtDocumentEndIsEndLineWrongFalsely : Prop := fnAtDocumentEndIsEndLineRow.holds Tryd.pinned (OpenSpec.ofChange fnAtDocumentEndIsEndLineWrong)

/-- 'zzlaws_internal_document_b1.FnAtDocumentEndReadsNoFurtherThanSixBytes': WHATEVER THE INPUT: true; the input reads as it did. -/
def fnAtDocumentEndReadsNoFurtherThanSixBytesSpec : ChangeSpec := { name := "fnAtDocumentEndReadsNoFurtherThanSixBytes", vars := ["example.com/kindcheck/kindcheck/internal/document.mayBeginBreak"], fn := fun _ => fun
  | [d1, d2, d3, d4, g1] => { results := [.lit (.bool true)], args := [d1, d2, d3, d4], vars := [g1] }
  | _ => none }
def fnAtDocumentEndReadsNoFurtherThanSixBytesRow : OpenClaim := { program := "qxb6609232adoor", sum := "ff490e024070ef665a14794a56fefda5bc6f28159b65d1a93b40958b13c144d6", func := "example.com/kindcheck/kindcheck/zzlaws_internal_document_b1.FnAtDocumentEndReadsNoFurtherThanSixBytes", spec := "fnAtDocumentEndReadsNoFurtherThanSixBytes", named := ["example.com/kindcheck/kindcheck/internal/document.mayBeginBreak"], apart := false, laid := [("example.com/kindcheck/kindcheck/internal/document.mayBeginBreak", laid_example_com_kindcheck_kindcheck_internal_document_mayBeginBreak)] }
def FnAtDocumentEndReadsNoFurtherThanSixBytesSaid : Prop := fnAtDocumentEndReadsNoFurtherThanSixBytesRow.holds Tryd.pinned (OpenSpec.ofChange fnAtDocumentEndReadsNoFurtherThanSixBytesSpec)

/-- ITS FALSE NEIGHBOUR: 'it returns false'. Refute it at one input. -/
def fnAtDocumentEndReadsNoFurtherThanSixBytesWrong : ChangeSpec := { name := "fnAtDocumentEndReadsNoFurtherThanSixBytes", vars := ["example.com/kindcheck/kindcheck/internal/document.mayBeginBreak"], fn := fun _ => fun
  | [d1, d2, d3, d4, g1] => { results := [.lit (.bool false)], args := [d1, d2, d3, d4], vars := [g1] }
  | _ => none }
def FnAtDocumentEndReadsNoFurtherThanSixBytesWrongFalsely : Prop := fnAtDocumentEndReadsNoFurtherThanSixBytesRow.holds Tryd.pinned (OpenSpec.ofChange fnAtDocumentEndReadsNoFurtherThanSixBytesWrong)

end Rows
end Go.Proofs.Qxb6609232aDoor
