/-
  DERIVED. GIVEN WITH THE SEED: THE CARDS: each row of Qxb6612454aDoorRows.lean that lists a variable, with what it lists TIED to the program's text (the seventh form; the later family's looks); each row that meets fmt, with fmt's text TOLD by the authors' own Lean function (tested against real Go, not proved from fmt's source: count such statements apart). THE CARD IS WHAT COUNTS. Prove the row's statement (the work); the ties are given (Qxb6612454aDoorTie.lean); close each card by the builder's one call (the guide's Derived/Test/ToyasCard.lean, 'card_holds'). Laid BY PROGRAM, IN A SANDBOX (cutbox-door.mjs). By AI agents, Wed Nov 11 2026. No macro, syntax, notation, axiom, sorry.
-/
import Derived.Test.Qxb6612454aDoorRows
import GoSem.ClaimSeven
namespace Go.Proofs.Qxb6612454aDoor
namespace Rows

/-- THE TIED CARD OF 'zzlaws_lines_b1.FnNewReaderReadsBackItsSource'. -/
def fnNewReaderReadsBackItsSourceCard : Claim7 := { stood := { row := fnNewReaderReadsBackItsSourceRow, standIns := [], harness := (true, "99a76b7c33acbca2147da7065be3ca2ede4002d2c98148adbac0288dad49b4cf"), looks := true }, kinds := [], alts := [], laidByText := true, laidKinds := [.sentinel], laidTests := true, laidLooks := .later }
def FnNewReaderReadsBackItsSourceCardSaid : Prop := Claim7.holds Tryd.pinned (.plain (OpenSpec.ofChange fnNewReaderReadsBackItsSourceSpec)) fnNewReaderReadsBackItsSourceCard
end Rows
end Go.Proofs.Qxb6612454aDoor
