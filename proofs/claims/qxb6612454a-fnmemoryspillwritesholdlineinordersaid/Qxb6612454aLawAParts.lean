/-
  LAW 1, ITS WORLDS: what memory holds behind the write (and behind the change of b's first byte). No walk.
-/
import Derived.Test.Qxb6612454aCloneB
import Derived.Test.Qxb6612454aSpill
namespace Go.Proofs.Qxb6612454a
open Go.RowKit

theorem own_same {w w' : World} {b : Nat} {e : TypeId} {size : Nat} {v : Value} {n : Nat} {xs : List Value} (h : w.ownsRow b e size v n xs) (hk : ∀ k, v.ownBlock = some k → w'.heap[k]? = w.heap[k]?) : w'.ownsRow b e size v n xs := by
  refine ⟨h.1, ?_⟩
  rcases h.2 with h0 | ⟨g, cap, cur, rfl, hb, hg, r⟩
  · exact .inl h0
  · exact .inr ⟨g, cap, cur, rfl, hb, by rw [hk g rfl]; exact hg, r⟩

theorem Holds.same {w w' : World} {b : Nat} {u : Value} {d : Piece} (h : Holds w b u d) (hk : ∀ k, u.ownBlock = some k → w'.heap[k]? = w.heap[k]?) : Holds w' b u d := ⟨own_same h.own hk, h.nil⟩

/-- Every block of a slice of slices lies in a range that has stayed as it was. -/
theorem HoldsB.same {w w' : World} {b : Nat} {v : Value} {us : List Value} {D : List Piece} (h : HoldsB w b v us D) (hk : ∀ k, b ≤ k → k < w.heap.size → w'.heap[k]? = w.heap[k]?) : HoldsB w' b v us D :=
  ⟨h.len, own_same h.own fun k e => (h.own.lt k e).elim fun h1 h2 => hk k h1 h2, fun i hi => (h.each i hi).same fun k e => ((h.each i hi).own.lt k e).elim fun h1 h2 => hk k h1 h2⟩

/-- Nothing but blocks from lo up to hi has turned. -/
structure Touched (lo hi : Nat) (w w' : World) : Prop where
  os : w'.os = w.os
  tape : w'.tape = w.tape
  output : w'.output = w.output
  size : w'.heap.size = w.heap.size
  block : ∀ k, k < lo ∨ hi ≤ k → w'.heap[k]? = w.heap[k]?

theorem Touched.refl (lo hi : Nat) (w : World) : Touched lo hi w w := ⟨rfl, rfl, rfl, rfl, fun _ _ => rfl⟩
theorem Touched.setCell (lo hi : Nat) (w : World) (a : Addr) (y : Value) (h1 : lo ≤ a.block) (h2 : a.block < hi) : Touched lo hi w (w.setCell a y) :=
  ⟨rfl, rfl, rfl, by simp, fun k hk => Below.heap_setCell _ _ _ _ (by omega)⟩

theorem Wrote.below {w w' : World} {S base nb : Nat} {v : Value} {us : List Value} {d : Piece} {v' u : Value} (h : Wrote w w' S base nb v us d v' u) {B : Nat} (hB : B ≤ w.heap.size) (hS : B ≤ S) (hv : ∀ k, v.ownBlock = some k → B ≤ k) : Below B w w' :=
  ⟨h.os, h.tape, h.output, h.size, fun k hk => h.block k (by omega) (by omega) (fun e => by have := hv k e.symm; omega)⟩

theorem Touched.below {lo hi : Nat} {w w' : World} (h : Touched lo hi w w') {B : Nat} (hB : B ≤ lo) : Below B w w' :=
  ⟨h.os, h.tape, h.output, by rw [h.size]; exact Nat.le_refl _, fun k hk => h.block k (.inl (by omega))⟩

/-- What the law's tail reads. -/
structure Ready (w wG : World) (S n g cg : Nat) (aC : Option Addr) (cC : Nat) (aD : Option Addr) (n' cD : Nat) (D : List Piece) (nl : Bool) (l : List Int) : Prop where
  below : Below w.heap.size w wG
  spill : wG.cell? ⟨S, 0, none⟩ = some (.slice (some ⟨g, 0, none⟩) (n + 1) cg)
  after : ReadsB wG (some ⟨g, 0, none⟩) (n + 1) cg (D ++ [(nl, l)])
  ref : ReadsB wG aC n cC D
  bref : Reads wG aD n' cD l
  bnil : aD.isNone = nl

theorem getD_snoc_lt {α : Type} (l : List α) (x d : α) (i : Nat) (h : i < l.length) : (l ++ [x]).getD i d = l.getD i d := by
  simp [List.getD, List.getElem?_append_left h]
theorem getD_snoc_at {α : Type} (l : List α) (x d : α) : (l ++ [x]).getD l.length d = x := by
  simp [List.getD]

theorem ready_of {w wA wB wC wD wF wG : World} {D : List Piece} {n n' : Nat} {aA aC aD : Option Addr} {cA cC cD : Nat} {usA usC : List Value} {nl : Bool} {l : List Int} {v' u : Value}
    (hn : D.length = n) (hl : l.length = n')
    (hA : ClonedB w wA D (.slice aA n cA) usA) (hB : Below wA.heap.size wA wB) (hC : ClonedB wB wC D (.slice aC n cC) usC) (hD : Cloned wC wD nl l (.slice aD n' cD))
    (hW : Wrote (wD.alloc (.cells #[.slice aA n cA] 38)) wF wD.heap.size w.heap.size n (.slice aA n cA) usA (nl, l) v' u) (hT : Touched wA.heap.size wB.heap.size wF wG) :
    ∃ g cg, v' = .slice (some ⟨g, 0, none⟩) (n + 1) cg ∧ Ready w wG wD.heap.size n g cg aC cC aD n' cD D nl l := by
  have s1 := hA.below.size
  have s2 := hB.size
  have s3 := hC.below.size
  have s4 := hD.below.size
  have s5 := hW.size
  have hvA : ∀ k, (Value.slice aA n cA).ownBlock = some k → w.heap.size ≤ k ∧ k < wA.heap.size := fun k e => hA.holds.own.lt k e
  have oldE : ∀ k, k < wD.heap.size → (wD.alloc (.cells #[.slice aA n cA] 38)).heap[k]? = wD.heap[k]? := fun k hk => Below.heap_alloc _ _ _ hk
  have sE : (wD.alloc (.cells #[.slice aA n cA] 38)).heap.size = wD.heap.size + 1 := by simp
  rw [sE] at s5
  -- a block that was there ahead of the store's making, but for the outer row and b's own
  have keepF : ∀ k, k < wD.heap.size → some k ≠ (Value.slice aA n cA).ownBlock → wF.heap[k]? = wD.heap[k]? := fun k hk hv => by
    rw [hW.block k (by rw [sE]; omega) (by omega) hv, oldE k hk]
  have bAD : ∀ k, k < wA.heap.size → wD.heap[k]? = wA.heap[k]? := fun k hk => by
    rw [hD.below.block k (by omega), hC.below.block k (by omega), hB.block k hk]
  have bCD : ∀ k, k < wC.heap.size → wD.heap[k]? = wC.heap[k]? := fun k hk => hD.below.block k hk
  obtain ⟨g, cg, rfl, hg1, hg2⟩ := hW.own.form (by omega)
  refine ⟨g, cg, rfl, ?_, ?_, ?_, ?_, ?_, ?_⟩
  · -- below
    have h1 : Below w.heap.size w wD := ((hA.below.trans (hB.mono s1)).trans (hC.below.mono (by omega))).trans (hD.below.mono (by omega))
    have h2 : Below w.heap.size w (wD.alloc (.cells #[.slice aA n cA] 38)) := h1.alloc (by omega) _
    exact (h2.trans (hW.below (by rw [sE]; omega) (by omega) (fun k e => (hvA k e).1))).trans (hT.below s1)
  · -- the store's cell
    have := hW.spill
    rw [← hT.block wD.heap.size (.inr (by omega))] at this
    exact cell_of_one this
  · -- the blocks held now
    have hgr : g < wA.heap.size ∨ wB.heap.size ≤ g := by
      rcases hW.lies with h | ⟨k, h, hk⟩
      · have := hvA g (by rw [← h]; rfl); omega
      · have hgk : g = k := by simpa [Value.ownBlock] using h
        rw [sE] at hk; omega
    have hu : Holds wG w.heap.size u (nl, l) := (hW.holds.same fun k e => hT.block k (.inr (by have := (hW.holds.own.lt k e).1; rw [sE] at this; omega))).base (by rw [sE]; omega)
    have hlenA : usA.length = n := by rw [hA.holds.len, hn]
    have HB : HoldsB wG w.heap.size (.slice (some ⟨g, 0, none⟩) (n + 1) cg) (usA ++ [u]) (D ++ [(nl, l)]) := by
      refine ⟨by simp [hlenA, hn], ?_, fun i hi => ?_⟩
      · have e : (D ++ [(nl, l)]).length = n + 1 := by simp [hn]
        rw [e]
        exact own_same hW.own fun k hk => hT.block k (by have : g = k := by simpa [Value.ownBlock] using hk
                                                         omega)
      · have hi' : i < n + 1 := by simpa [hn] using hi
        by_cases hin : i < n
        · rw [getD_snoc_lt _ _ _ _ (by omega), getD_snoc_lt _ _ _ _ (by omega)]
          have hh := hA.holds.each i (by omega)
          refine hh.same fun k hk => ?_
          have hr := hh.own.lt k hk
          have hap := own_apart hh.own hA.holds.own
          rw [hk] at hap
          rw [hT.block k (.inl hr.2), keepF k (by omega) (by simpa using hap), bAD k hr.2]
        · obtain rfl : i = n := by omega
          have e1 : (usA ++ [u]).getD i .nilIface = u := by rw [← hlenA]; exact getD_snoc_at _ _ _
          have e2 : (D ++ [(nl, l)]).getD i noPiece = (nl, l) := by rw [← hn]; exact getD_snoc_at _ _ _
          rw [e1, e2]
          exact hu
    obtain ⟨ao, cap, he, hr⟩ := HB.reads
    have e : (D ++ [(nl, l)]).length = n + 1 := by simp [hn]
    rw [e] at he hr
    simp at he
    obtain ⟨rfl, rfl⟩ := he
    exact hr
  · -- ref
    have HB : HoldsB wG wB.heap.size (.slice aC n cC) usC D := hC.holds.same fun k h1 h2 => by
      rw [hT.block k (.inr h1), keepF k (by omega) (fun e => by have := (hvA k e.symm).2; omega), bCD k h2]
    obtain ⟨ao, cap, he, hr⟩ := HB.reads
    rw [hn] at he hr
    simp at he
    obtain ⟨rfl, rfl⟩ := he
    exact hr
  · -- bRef
    have h1 : wG.ownsRow wC.heap.size 5 1 (.slice aD n' cD) l.length (cellsOf l) := own_same hD.own fun k e => by
      have hr := hD.own.lt k e
      rw [hT.block k (.inr (by omega)), keepF k hr.2 (fun e => by have := (hvA k e.symm).2; omega)]
    obtain ⟨ao, cap, he, hr⟩ := reads_of_own h1
    rw [hl] at he hr
    simp at he
    obtain ⟨rfl, rfl⟩ := he
    exact hr
  · exact isNone_of_holds (d := (nl, l)) ⟨hD.own, hD.nil⟩

/-- b's own copy, behind the write. -/
theorem b_at {w wA wB wC wD wF : World} {D : List Piece} {n n' : Nat} {aA aB aC aD : Option Addr} {cA cB cC cD : Nat} {usA usC : List Value} {nl nl' : Bool} {l : List Int} {v' u : Value} {d : Piece}
    (hl : l.length = n') (hn' : 0 < n')
    (hA : ClonedB w wA D (.slice aA n cA) usA) (hB : Cloned wA wB nl' l (.slice aB n' cB)) (hC : ClonedB wB wC D (.slice aC n cC) usC) (hD : Cloned wC wD nl l (.slice aD n' cD))
    (hW : Wrote (wD.alloc (.cells #[.slice aA n cA] 38)) wF wD.heap.size w.heap.size n (.slice aA n cA) usA d v' u) :
    ∃ gB, aB = some ⟨gB, 0, none⟩ ∧ wA.heap.size ≤ gB ∧ gB < wB.heap.size ∧ wF.cell? ⟨gB, 0, none⟩ = some (.int .u8 (l.getD 0 0)) ∧ wF.frozen? ⟨gB, 0, none⟩ = false := by
  have s1 := hA.below.size
  have s2 := hB.below.size
  have s3 := hC.below.size
  have s4 := hD.below.size
  obtain ⟨gB, c', he, hg1, hg2⟩ := hB.own.form (by omega)
  simp at he
  obtain ⟨rfl, _, rfl⟩ := he
  have h1 : wF.ownsRow wA.heap.size 5 1 (.slice (some ⟨gB, 0, none⟩) n' cB) l.length (cellsOf l) := own_same hB.own fun k e => by
    have hr := hB.own.lt k e
    rw [hW.block k (by simp; omega) (by omega) (fun e => by have := (hA.holds.own.lt k e.symm).2; omega), Below.heap_alloc _ _ _ (by omega), hD.below.block k (by omega), hC.below.block k hr.2]
  rw [hl] at h1
  refine ⟨gB, rfl, hg1, hg2, ?_, h1.frozenAt 0⟩
  rw [h1.cellAt 0 (by omega)]
  simp [cellsOf, List.getD, show 0 < l.length by omega]

end Go.Proofs.Qxb6612454a
