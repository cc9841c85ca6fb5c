/-
  THE PARTS: how a slice of bytes reads in a world; what a copy in memory of its own is. Small laws on worlds. No walk.
-/
import Derived.Test.Qxb6612454aProg
import Derived.WalkKit
import Derived.WalkSpells
import Derived.WalkLawsBesides
namespace Go.Proofs.Qxb6612454a
open Go.RowKit

theorem info5 : (Try.prog.info? 5).map (fun i => (i.zero, i.size, i.bytes)) = some (some (.int .u8 0), 1, 1) := by kernel_rfl
theorem info23 : (Try.prog.info? 23).map (fun i => (i.zero, i.size, i.bytes)) = some (some (.slice none 0 0), 1, 24) := by kernel_rfl

/-- The bytes as cells. -/
def cellsOf (l : List Int) : List Value := l.map (Value.int .u8)

/-- The slice value (ao, n, cap) reads as the bytes l. -/
structure Reads (w : World) (ao : Option Addr) (n cap : Nat) (l : List Int) : Prop where
  len : l.length = n
  nilCase : ao = Option.none → n = 0 ∧ cap = 0
  cell : ∀ a, ao = some a → ∀ i, i < n → w.cell? (a.add i) = some (.int .u8 (l.getD i 0))

theorem Reads.below {w w' : World} {ao : Option Addr} {n cap : Nat} {l : List Int} (h : Reads w ao n cap l) {B : Nat} (hb : Below B w w') (hB : w.heap.size ≤ B) : Reads w' ao n cap l :=
  ⟨h.len, h.nilCase, fun a ha i hi => by
    have hc := h.cell a ha i hi
    rw [hb.cell (Nat.lt_of_lt_of_le (World.block_lt_of_cell? w _ hc) hB), hc]⟩

theorem Reads.opened {w : World} {b off : Nat} {sp : Option Nat} {n cap : Nat} {l : List Int} (h : Reads w (some ⟨b, off, sp⟩) n cap l) {k : Nat} (hk : k < n) :
    sp = none ∧ b < w.heap.size ∧ w.cell? ⟨b, off + k, none⟩ = some (.int .u8 (l.getD k 0)) := by
  have hs : sp = none := by simpa [Addr.add] using World.cell?_spot (h.cell _ rfl 0 (by omega))
  subst hs
  have hc := h.cell _ rfl k hk
  rw [Addr.add_lit] at hc
  exact ⟨rfl, World.block_lt_of_cell? w _ hc, hc⟩

/-- What is owned reads. -/
theorem reads_of_own {w : World} {base : Nat} {v : Value} {l : List Int} (h : w.ownsRow base 5 1 v l.length (cellsOf l)) :
    ∃ ao cap, v = .slice ao l.length cap ∧ Reads w ao l.length cap l := by
  rcases h.2 with ⟨rfl, h0⟩ | ⟨g, cap, cur, rfl, hb, hg, hn, hm, hs, ht⟩
  · refine ⟨none, 0, by rw [h0], ⟨rfl, fun _ => ⟨h0, rfl⟩, fun a ha => by cases ha⟩⟩
  · refine ⟨some ⟨g, 0, none⟩, cap, rfl, ⟨rfl, fun hh => (by cases hh), fun a ha i hi => ?_⟩⟩
    cases ha
    have := h.cells (g := g) rfl i (.int .u8 (l.getD i 0)) (by simp [cellsOf, List.getD, hi])
    exact this

theorem own_form {w : World} {base : Nat} {e : TypeId} {size : Nat} {v : Value} {n : Nat} {xs : List Value} (h : w.ownsRow base e size v n xs) : ∃ ao cap, v = .slice ao n cap := by
  rcases h.2 with ⟨rfl, rfl⟩ | ⟨g, cap, cur, rfl, _⟩
  · exact ⟨_, _, rfl⟩
  · exact ⟨_, _, rfl⟩

/-- Nothing that was there has turned: no row has been written. -/
theorem grown_of_below {w w' : World} (h : Below w.heap.size w w') (row : Option Nat) : w.grownBy w' row := ⟨h.os, h.tape, h.output, h.size, fun k hk _ => h.block k hk⟩

theorem own_below {w w' : World} {base : Nat} {e : TypeId} {size : Nat} {v : Value} {n : Nat} {xs : List Value} (h : w.ownsRow base e size v n xs) (hb : Below w.heap.size w w') : w'.ownsRow base e size v n xs :=
  h.kept (grown_of_below hb none) (by cases hv : v.ownBlock <;> simp)

/-- Rows of bytes and rows of slices lie in different blocks. -/
theorem own_apart {w : World} {b b' : Nat} {u v : Value} {n m : Nat} {xs ys : List Value} (h : w.ownsRow b 5 1 u n xs) (k : w.ownsRow b' 23 1 v m ys) : u.ownBlock = none ∨ u.ownBlock ≠ v.ownBlock := by
  rcases h.2 with ⟨rfl, _⟩ | ⟨g, cap, cur, rfl, _, hg, _⟩
  · exact .inl rfl
  · right
    rcases k.2 with ⟨rfl, _⟩ | ⟨g', cap', cur', rfl, _, hg', _⟩
    · simp [Value.ownBlock]
    · intro he
      simp [Value.ownBlock] at he
      subst he
      rw [hg] at hg'
      simp at hg'

/-- One piece: is it nil, and its bytes. -/
abbrev Piece := Bool × List Int
def noPiece : Piece := (true, [])

/-- u is a slice of bytes in memory of the call's own (from block 'base' on) and holds the piece d. -/
structure Holds (w : World) (base : Nat) (u : Value) (d : Piece) : Prop where
  own : w.ownsRow base 5 1 u d.2.length (cellsOf d.2)
  nil : u = .slice none 0 0 ↔ d.1 = true

theorem Holds.below {w w' : World} {base : Nat} {u : Value} {d : Piece} (h : Holds w base u d) (hb : Below w.heap.size w w') : Holds w' base u d := ⟨own_below h.own hb, h.nil⟩

theorem ownsRow_base {w : World} {base base' : Nat} {e : TypeId} {size : Nat} {v : Value} {n : Nat} {xs : List Value} (h : w.ownsRow base e size v n xs) (hb : base' ≤ base) : w.ownsRow base' e size v n xs := by
  refine ⟨h.1, ?_⟩
  rcases h.2 with h0 | ⟨g, cap, cur, hv, hg, r⟩
  · exact .inl h0
  · exact .inr ⟨g, cap, cur, hv, Nat.le_trans hb hg, r⟩

theorem Holds.base {w : World} {b b' : Nat} {u : Value} {d : Piece} (h : Holds w b u d) (hb : b' ≤ b) : Holds w b' u d := ⟨ownsRow_base h.own hb, h.nil⟩

/-- The slice of slices (ao, n, cap) reads as the pieces D. -/
structure ReadsB (w : World) (ao : Option Addr) (n cap : Nat) (D : List Piece) : Prop where
  len : D.length = n
  nilCase : ao = Option.none → n = 0 ∧ cap = 0
  cell : ∀ a, ao = some a → ∀ i, i < n → ∃ ai ni ci, w.cell? (a.add i) = some (.slice ai ni ci) ∧ Reads w ai ni ci (D.getD i noPiece).2 ∧ ai.isNone = (D.getD i noPiece).1

theorem ReadsB.below {w w' : World} {ao : Option Addr} {n cap : Nat} {D : List Piece} (h : ReadsB w ao n cap D) {B : Nat} (hb : Below B w w') (hB : w.heap.size ≤ B) : ReadsB w' ao n cap D :=
  ⟨h.len, h.nilCase, fun a ha i hi => by
    obtain ⟨ai, ni, ci, hc, hr, hn⟩ := h.cell a ha i hi
    exact ⟨ai, ni, ci, by rw [hb.cell (Nat.lt_of_lt_of_le (World.block_lt_of_cell? w _ hc) hB), hc], hr.below hb hB, hn⟩⟩

theorem ReadsB.opened {w : World} {b off : Nat} {sp : Option Nat} {n cap : Nat} {D : List Piece} (h : ReadsB w (some ⟨b, off, sp⟩) n cap D) {k : Nat} (hk : k < n) :
    sp = none ∧ b < w.heap.size ∧ ∃ ai ni ci, w.cell? ⟨b, off + k, none⟩ = some (.slice ai ni ci) ∧ Reads w ai ni ci (D.getD k noPiece).2 ∧ ai.isNone = (D.getD k noPiece).1 := by
  have hs : sp = none := by
    obtain ⟨ai, ni, ci, hc, _⟩ := h.cell _ rfl 0 (by omega)
    simpa [Addr.add] using World.cell?_spot hc
  subst hs
  obtain ⟨ai, ni, ci, hc, hr⟩ := h.cell _ rfl k hk
  rw [Addr.add_lit] at hc
  exact ⟨rfl, World.block_lt_of_cell? w _ hc, ai, ni, ci, hc, hr⟩

/-- v is a slice of slices in the call's own memory and holds the pieces D, one value of 'us' each. -/
structure HoldsB (w : World) (base : Nat) (v : Value) (us : List Value) (D : List Piece) : Prop where
  len : us.length = D.length
  own : w.ownsRow base 23 1 v D.length us
  each : ∀ i, i < D.length → Holds w base (us.getD i .nilIface) (D.getD i noPiece)

theorem HoldsB.below {w w' : World} {base : Nat} {v : Value} {us : List Value} {D : List Piece} (h : HoldsB w base v us D) (hb : Below w.heap.size w w') : HoldsB w' base v us D :=
  ⟨h.len, own_below h.own hb, fun i hi => (h.each i hi).below hb⟩

theorem isNone_of_holds {w : World} {base : Nat} {ao : Option Addr} {n cap : Nat} {d : Piece} (h : Holds w base (.slice ao n cap) d) : ao.isNone = d.1 := by
  have hnil := h.nil
  rcases h.own.2 with ⟨he, _⟩ | ⟨g, cap', cur, he, _⟩
  · simp at he
    obtain ⟨rfl, rfl, rfl⟩ := he
    simpa using hnil
  · simp at he
    obtain ⟨rfl, _, rfl⟩ := he
    simp at hnil
    simp [hnil]

theorem HoldsB.reads {w : World} {base : Nat} {v : Value} {us : List Value} {D : List Piece} (h : HoldsB w base v us D) : ∃ ao cap, v = .slice ao D.length cap ∧ ReadsB w ao D.length cap D := by
  rcases h.own.2 with ⟨rfl, h0⟩ | ⟨g, cap, cur, rfl, hb, hg, hn, hm, hs, ht⟩
  · exact ⟨none, 0, by rw [h0], ⟨rfl, fun _ => ⟨h0, rfl⟩, fun a ha => by cases ha⟩⟩
  · refine ⟨some ⟨g, 0, none⟩, cap, rfl, ⟨rfl, fun hh => (by cases hh), fun a ha i hi => ?_⟩⟩
    cases ha
    have hu := h.each i hi
    obtain ⟨ai, ci, hv, hr⟩ := reads_of_own hu.own
    refine ⟨ai, _, ci, ?_, hr, ?_⟩
    · have hi' : i < us.length := by rw [h.len]; exact hi
      have := h.own.cells (g := g) rfl i (us.getD i .nilIface) (by simp [List.getD, hi'])
      rw [this, hv]
    · rw [hv] at hu
      exact isNone_of_holds hu

end Go.Proofs.Qxb6612454a
