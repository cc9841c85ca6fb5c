/-
  DERIVED. GIVEN WITH THE SEED: THE CARDS: each row of Qxb6609232aDoorRows.lean that lists a variable, with what it lists TIED to the program's text (the seventh form; the later family's looks); each row that meets fmt, with fmt's text TOLD by the authors' own Lean function (tested against real Go, not proved from fmt's source: count such statements apart). THE CARD IS WHAT COUNTS. Prove the row's statement (the work); the ties are given (Qxb6609232aDoorTie.lean); close each card by the builder's one call (the guide's Derived/Test/ToyasCard.lean, 'card_holds'). Laid BY PROGRAM, IN A SANDBOX (cutbox-door.mjs). By AI agents, Wed Nov 11 2026. No macro, syntax, notation, axiom, sorry.
-/
import Derived.Test.Qxb6609232aDoorRows
import GoSem.ClaimSeven
namespace Go.Proofs.Qxb6609232aDoor
namespace Rows

/-- THE TIED CARD OF 'zzlaws_internal_document_b1.FnAtMarkerIsMarkerLine'. -/
def fnAtMarkerIsMarkerLineCard : Claim7 := { stood := { row := fnAtMarkerIsMarkerLineRow, standIns := [], harness := (true, "a4de417e885c8425357eb749a2a30e6a5ee9b036a89a9e5ae15d104d98960f6d"), looks := false }, kinds := [], alts := [], laidByText := true, laidKinds := [.data], laidTests := true, laidLooks := .later }
def FnAtMarkerIsMarkerLineCardSaid : Prop := Claim7.holds Tryd.pinned (.plain (OpenSpec.ofChange fnAtMarkerIsMarkerLineSpec)) fnAtMarkerIsMarkerLineCard

/-- THE TIED CARD OF 'zzlaws_internal_document_b1.FnAtMarkerIgnoresWhatComesBefore'. -/
def fnAtMarkerIgnoresWhatComesBeforeCard : Claim7 := { stood := { row := fnAtMarkerIgnoresWhatComesBeforeRow, standIns := [], harness := (true, "a4de417e885c8425357eb749a2a30e6a5ee9b036a89a9e5ae15d104d98960f6d"), looks := false }, kinds := [], alts := [], laidByText := true, laidKinds := [.data], laidTests := true, laidLooks := .later }
def FnAtMarkerIgnoresWhatComesBeforeCardSaid : Prop := Claim7.holds Tryd.pinned (.plain (OpenSpec.ofChange fnAtMarkerIgnoresWhatComesBeforeSpec)) fnAtMarkerIgnoresWhatComesBeforeCard

/-- THE TIED CARD OF 'zzlaws_internal_document_b1.FnAtDocumentEndIsEndLine'. -/
def fnAtDocumentEndIsEndLineCard : Claim7 := { stood := { row := fnAtDocumentEndIsEndLineRow, standIns := [], harness := (true, "a4de417e885c8425357eb749a2a30e6a5ee9b036a89a9e5ae15d104d98960f6d"), looks := false }, kinds := [], alts := [], laidByText := true, laidKinds := [.data], laidTests := true, laidLooks := .later }
def FnAtDocumentEndIsEndLineCardSaid : Prop := Claim7.holds Tryd.pinned (.plain (OpenSpec.ofChange fnAtDocumentEndIsEndLineSpec)) fnAtDocumentEndIsEndLineCard

/-- THE TIED CARD OF 'zzlaws_internal_document_b1.FnAtDocumentEndReadsNoFurtherThanSixBytes'. -/
def fnAtDocumentEndReadsNoFurtherThanSixBytesCard : Claim7 := { stood := { row := fnAtDocumentEndReadsNoFurtherThanSixBytesRow, standIns := [], harness := (true, "a4de417e885c8425357eb749a2a30e6a5ee9b036a89a9e5ae15d104d98960f6d"), looks := false }, kinds := [], alts := [], laidByText := true, laidKinds := [.data], laidTests := true, laidLooks := .later }
def FnAtDocumentEndReadsNoFurtherThanSixBytesCardSaid : Prop := Claim7.holds Tryd.pinned (.plain (OpenSpec.ofChange fnAtDocumentEndReadsNoFurtherThanSixBytesSpec)) fnAtDocumentEndReadsNoFurtherThanSixBytesCard
end Rows
end Go.Proofs.Qxb6609232aDoor
