/-
  HOW THE ARGUMENTS ARE OPENED: '[][]byte' and '[]byte' as the walks ask them.
-/
import Derived.Test.Qxb6612454aParts
import Derived.Test.Qxb6612454aRows
import Derived.ProofKit
import Derived.OpenShut
import Derived.ChangeOld
import Derived.Below
import Derived.Deep.Matrix
namespace Go.Proofs.Qxb6612454a
open Go.ChangeShapes Go.WideShapes Go.ChangeAt Go.RowKit

theorem own : ownKnob Try.prog.godebug = none := by kernel_rfl
theorem laidOut : laidOutB Try.prog = true := by kernel_rfl
theorem cells5 : Try.prog.cellsOf 5 = 1 := by kernel_rfl
theorem cells23 : Try.prog.cellsOf 23 = 1 := by kernel_rfl

section
variable {H : Type} {enc : TypeId × Value → H} {W : World}

theorem take_getD (Z : List Int) (L c : Nat) (h : c < L) : (Z.take L).getD c 0 = Z.getD c 0 := by
  simp [List.getD, h]

theorem open_pieces {a0 : Option Addr} {len cap fuel : Nat} {x : DataW H × List MemPlace} (h : DataW.trod enc Try.prog W 0 (fun _ => true) true fuel 22 [.slice a0 len cap] = some x) : ∃ D, ReadsB W a0 len cap D := by
  rcases Deep.open_int_rows Try.underlying22 Try.underlying23 Try.underlying5 cells23 cells5 h with ⟨hcs, _⟩ | ⟨a, len', cap', A, L, C, Z, hcs, _, hl, _, _, hx⟩
  · simp at hcs
    obtain ⟨rfl, rfl, rfl⟩ := hcs
    exact ⟨[], rfl, fun _ => ⟨rfl, rfl⟩, fun a ha => by cases ha⟩
  · simp at hcs
    obtain ⟨rfl, rfl, rfl⟩ := hcs
    refine ⟨(List.range len).map fun r => ((A r).isNone, (Z r).take (L r)), by simp, fun hh => (by cases hh), fun a' ha i hi => ?_⟩
    cases ha
    obtain ⟨hc, hLC, _, hZ, _, hnone, hin⟩ := hx i (by omega)
    have e : ((List.range len).map fun r => ((A r).isNone, (Z r).take (L r))).getD i noPiece = ((A i).isNone, (Z i).take (L i)) := by
      simp [List.getD, hi]
    rw [e]
    refine ⟨A i, L i, C i, hc, ⟨?_, fun hn => ?_, fun b hb c hc' => ?_⟩, rfl⟩
    · simp; omega
    · have := hnone hn; omega
    · rw [(hin b hb).2 c (by omega), take_getD _ _ _ hc']

theorem open_piece {a0 : Option Addr} {len cap fuel : Nat} {x : DataW H × List MemPlace} (h : DataW.trod enc Try.prog W 0 (fun _ => true) true fuel 23 [.slice a0 len cap] = some x) : ∃ l, Reads W a0 len cap l := by
  rcases open_ints Try.underlying23 Try.underlying5 cells5 h with ⟨hcs, _⟩ | ⟨a, len', cap', zs, hcs, _, hl, _, hz, _, hcell, _⟩
  · simp at hcs
    obtain ⟨rfl, rfl, rfl⟩ := hcs
    exact ⟨[], rfl, fun _ => ⟨rfl, rfl⟩, fun a ha => by cases ha⟩
  · simp at hcs
    obtain ⟨rfl, rfl, rfl⟩ := hcs
    simp only [if_true] at hz
    refine ⟨zs.take len, by simp; omega, fun hh => (by cases hh), fun a' ha i hi => ?_⟩
    cases ha
    rw [take_getD _ _ _ hi]
    exact hcell i (by omega)
end

end Go.Proofs.Qxb6612454a
