/-
  THE PARTS: how a slice of bytes reads in a world; what a copy in memory of its own is. Small laws on worlds. No walk.
-/
import Derived.Test.Qxb6612454aDoorProg
import Derived.WalkKit
import Derived.WalkSpells
import Derived.WalkLawsBesides
namespace Go.Proofs.Qxb6612454aDoor
open Go.RowKit

theorem info5 : (Tryd.prog.info? 5).map (fun i => (i.zero, i.size, i.bytes)) = some (some (.int .u8 0), 1, 1) := by kernel_rfl
theorem info22 : (Tryd.prog.info? 22).map (fun i => (i.zero, i.size, i.bytes)) = some (some (.slice none 0 0), 1, 24) := by kernel_rfl

/-- The bytes as cells. -/
def cellsOf (l : List Int) : List Value := l.map (Value.int .u8)

/-- The slice value (ao, n, cap) reads as the bytes l. -/
structure Reads (w : World) (ao : Option Addr) (n cap : Nat) (l : List Int) : Prop where
  len : l.length = n
  nilCase : ao = Option.none → n = 0 ∧ cap = 0
  cell : ∀ a, ao = some a → ∀ i, i < n → w.cell? (a.add i) = some (.int .u8 (l.getD i 0))

theorem Reads.below {w w' : World} {ao : Option Addr} {n cap : Nat} {l : List Int} (h : Reads w ao n cap l) {B : Nat} (hb : Below B w w') (hB : w.heap.size ≤ B) : Reads w' ao n cap l :=
  ⟨h.len, h.nilCase, fun a ha i hi => by
    have hc := h.cell a ha i hi
    rw [hb.cell (Nat.lt_of_lt_of_le (World.block_lt_of_cell? w _ hc) hB), hc]⟩

theorem Reads.opened {w : World} {b off : Nat} {sp : Option Nat} {n cap : Nat} {l : List Int} (h : Reads w (some ⟨b, off, sp⟩) n cap l) {k : Nat} (hk : k < n) :
    sp = none ∧ b < w.heap.size ∧ w.cell? ⟨b, off + k, none⟩ = some (.int .u8 (l.getD k 0)) := by
  have hs : sp = none := by simpa [Addr.add] using World.cell?_spot (h.cell _ rfl 0 (by omega))
  subst hs
  have hc := h.cell _ rfl k hk
  rw [Addr.add_lit] at hc
  exact ⟨rfl, World.block_lt_of_cell? w _ hc, hc⟩

/-- What is owned reads. -/
theorem reads_of_own {w : World} {base : Nat} {v : Value} {l : List Int} (h : w.ownsRow base 5 1 v l.length (cellsOf l)) :
    ∃ ao cap, v = .slice ao l.length cap ∧ Reads w ao l.length cap l := by
  rcases h.2 with ⟨rfl, h0⟩ | ⟨g, cap, cur, rfl, hb, hg, hn, hm, hs, ht⟩
  · refine ⟨none, 0, by rw [h0], ⟨rfl, fun _ => ⟨h0, rfl⟩, fun a ha => by cases ha⟩⟩
  · refine ⟨some ⟨g, 0, none⟩, cap, rfl, ⟨rfl, fun hh => (by cases hh), fun a ha i hi => ?_⟩⟩
    cases ha
    have := h.cells (g := g) rfl i (.int .u8 (l.getD i 0)) (by simp [cellsOf, List.getD, hi])
    exact this

theorem own_form {w : World} {base : Nat} {e : TypeId} {size : Nat} {v : Value} {n : Nat} {xs : List Value} (h : w.ownsRow base e size v n xs) : ∃ ao cap, v = .slice ao n cap := by
  rcases h.2 with ⟨rfl, rfl⟩ | ⟨g, cap, cur, rfl, _⟩
  · exact ⟨_, _, rfl⟩
  · exact ⟨_, _, rfl⟩

/-- Nothing that was there has turned: no row has been written. -/
theorem grown_of_below {w w' : World} (h : Below w.heap.size w w') (row : Option Nat) : w.grownBy w' row := ⟨h.os, h.tape, h.output, h.size, fun k hk _ => h.block k hk⟩

theorem own_below {w w' : World} {base : Nat} {e : TypeId} {size : Nat} {v : Value} {n : Nat} {xs : List Value} (h : w.ownsRow base e size v n xs) (hb : Below w.heap.size w w') : w'.ownsRow base e size v n xs :=
  h.kept (grown_of_below hb none) (by cases hv : v.ownBlock <;> simp)

theorem ownsRow_base {w : World} {base base' : Nat} {e : TypeId} {size : Nat} {v : Value} {n : Nat} {xs : List Value} (h : w.ownsRow base e size v n xs) (hb : base' ≤ base) : w.ownsRow base' e size v n xs := by
  refine ⟨h.1, ?_⟩
  rcases h.2 with h0 | ⟨g, cap, cur, hv, hg, r⟩
  · exact .inl h0
  · exact .inr ⟨g, cap, cur, hv, Nat.le_trans hb hg, r⟩

end Go.Proofs.Qxb6612454aDoor
