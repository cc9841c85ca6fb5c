/-
  No cell of these rows narrows 'for every input' (looked for: loops, veiled, ifaces, maps, wideKeys, modest, calm, conditions, laid).
  DERIVED. THE GIVEN ROWS OF THIS SEAT. 2 by the template 'for every input the law returns true; each argument reads behind the call as it read before'; 0 by the template 'total and deterministic' (their statements: Qxb6612454aTotals.lean).
  GIVEN WITH THE SEED: the statements are not yours to turn. If you find one false, say at which input.
  Laid BY PROGRAM, IN A SANDBOX (cutbox-rows.mjs): the forced cells as the released guide's own fill.sh prints them over the translation 018a96f3aefad387… (all of the seat's roots in one cut). By AI agents, Wed Nov 11 2026. No macro, syntax, notation, axiom, sorry.
-/
import Derived.Test.Qxb6612454aChecked
import GoSem.Claim
import GoSem.ClaimJoined
import GoSem.ClaimMapViews
import Derived.JoinedTies
import Derived.KernelRfl
namespace Go.Proofs.Qxb6612454a
/- THE CELL 'sum', in the pinned program and in every row, IS THE sha256 OF THE DUMP (.gsa) THAT Qxb6612454aProg.lean LOADS. Nothing in Lean hashes anything: it is a label: what it is worth is what the hold of that sum in a sandbox is worth. -/
noncomputable def Try.pinned : Pinned := { name := "qxb6612454a", sum := "018a96f3aefad387d0d87dd65994c33354d42afb1c0c076f5fb588d1be37398a", checked := Try.checked }
namespace Rows
def none {H : Type} : Left H := { results := [], args := [] }

/-- 'zzlaws_lines_b1.FnMemorySpillWriteAddsOwnCopy': WHATEVER THE INPUT: true; the input reads as it did. -/
def fnMemorySpillWriteAddsOwnCopySpec : ChangeSpec := { name := "fnMemorySpillWriteAddsOwnCopy", fn := fun _ => fun
  | [d1, d2, d3] => { results := [.lit (.bool true)], args := [d1, d2, d3] }
  | _ => none }
def fnMemorySpillWriteAddsOwnCopyRow : OpenClaim := { program := "qxb6612454a", sum := "018a96f3aefad387d0d87dd65994c33354d42afb1c0c076f5fb588d1be37398a", func := "example.com/foldline/foldline/zzlaws_lines_b1.FnMemorySpillWriteAddsOwnCopy", spec := "fnMemorySpillWriteAddsOwnCopy", apart := false }
def FnMemorySpillWriteAddsOwnCopySaid : Prop := fnMemorySpillWriteAddsOwnCopyRow.holds Try.pinned (OpenSpec.ofChange fnMemorySpillWriteAddsOwnCopySpec)

/-- ITS FALSE NEIGHBOUR: 'it returns false'. Refute it at one input. -/
def fnMemorySpillWriteAddsOwnCopyWrong : ChangeSpec := { name := "fnMemorySpillWriteAddsOwnCopy", fn := fun _ => fun
  | [d1, d2, d3] => { results := [.lit (.bool false)], args := [d1, d2, d3] }
  | _ => none }
def FnMemorySpillWriteAddsOwnCopyWrongFalsely : Prop := fnMemorySpillWriteAddsOwnCopyRow.holds Try.pinned (OpenSpec.ofChange fnMemorySpillWriteAddsOwnCopyWrong)

/-- 'zzlaws_lines_b1.FnMemorySpillWritesHoldLineInOrder': WHATEVER THE INPUT: true; the input reads as it did. -/
def fnMemorySpillWritesHoldLineInOrderSpec : ChangeSpec := { name := "fnMemorySpillWritesHoldLineInOrder", fn := fun _ => fun
  | [d] => { results := [.lit (.bool true)], args := [d] }
  | _ => none }
def fnMemorySpillWritesHoldLineInOrderRow : OpenClaim := { program := "qxb6612454a", sum := "018a96f3aefad387d0d87dd65994c33354d42afb1c0c076f5fb588d1be37398a", func := "example.com/foldline/foldline/zzlaws_lines_b1.FnMemorySpillWritesHoldLineInOrder", spec := "fnMemorySpillWritesHoldLineInOrder", apart := false }
def FnMemorySpillWritesHoldLineInOrderSaid : Prop := fnMemorySpillWritesHoldLineInOrderRow.holds Try.pinned (OpenSpec.ofChange fnMemorySpillWritesHoldLineInOrderSpec)

/-- ITS FALSE NEIGHBOUR: 'it returns false'. Refute it at one input. -/
def fnMemorySpillWritesHoldLineInOrderWrong : ChangeSpec := { name := "fnMemorySpillWritesHoldLineInOrder", fn := fun _ => fun
  | [d] => { results := [.lit (.bool false)], args := [d] }
  | _ => none }
def FnMemorySpillWritesHoldLineInOrderWrongFalsely : Prop := fnMemorySpillWritesHoldLineInOrderRow.holds Try.pinned (OpenSpec.ofChange fnMemorySpillWritesHoldLineInOrderWrong)

end Rows
end Go.Proofs.Qxb6612454a
