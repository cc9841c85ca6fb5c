/-
  THE WALKS of the makers: bytes.NewReader, bufio.NewReaderSize, lines.NewReader, ZZNewReaderBytes.
-/
import Derived.Test.Qxb6612454aDoorState
namespace Go.Proofs.Qxb6612454aDoor
open Go.RowKit

set_option maxHeartbeats 400000 in
theorem newRd_any (ao : Option Addr) (n c : Nat) (w : World) :
    Calls Tryd.prog 10 #[.slice ao n c] w fun e w' => e = .returned (.pointer (some ⟨w.heap.size, 0, none⟩)) ∧ w.alloc (.cells #[.slice ao n c, .int .i64 0, .int .i64 (-1)] 47) = w' := by
  go_enter Tryd.func10, Tryd.ntmps10
  go_wp2
  go_ret
  exact ⟨rfl, rfl⟩

/-- A new bufio.Reader over the bytes.Reader in block Rb. -/
structure NewBuf (w w' : World) (Bb Gb Rb M : Nat) : Prop where
  br : w'.heap[Bb]? = some (.cells (bufRow Gb Rb M 0 0 .nilIface (-1) (-1)) 53 (0, 0))
  buf : ∃ curG : List Value, w'.heap[Gb]? = some (.cells curG.toArray 5 (0, 0)) ∧ curG.length = M
  m16 : 16 ≤ M
  m64 : M ≤ 65536
  below : Below w.heap.size w w'
  o1 : w.heap.size ≤ Bb
  o2 : Bb < Gb
  o3 : Gb < w'.heap.size

set_option maxHeartbeats 400000 in
theorem reset_any (Bb Gb M Rb : Nat) (x0 x1 x2 x3 x4 x5 x6 : Value) (w : World) (hB : w.heap[Bb]? = some (.cells #[x0, x1, x2, x3, x4, x5, x6] 53 (0, 0))) :
    Calls Tryd.prog 13 #[.pointer (some ⟨Bb, 0, none⟩), .slice (some ⟨Gb, 0, none⟩) M M, .iface 35 (.pointer (some ⟨Rb, 0, none⟩))] w fun e w' => e = .returned (.tuple #[]) ∧ w'.heap[Bb]? = some (.cells (bufRow Gb Rb M 0 0 .nilIface (-1) (-1)) 53 (0, 0)) ∧ Only [Bb] w w' := by
  have h0 : w.cell? ⟨Bb, 0, none⟩ = some x0 := by simp [World.cell?, hB]
  have h1 : w.cell? ⟨Bb, 1, none⟩ = some x1 := by simp [World.cell?, hB]
  have h2 : w.cell? ⟨Bb, 2, none⟩ = some x2 := by simp [World.cell?, hB]
  have h3 : w.cell? ⟨Bb, 3, none⟩ = some x3 := by simp [World.cell?, hB]
  have h4 : w.cell? ⟨Bb, 4, none⟩ = some x4 := by simp [World.cell?, hB]
  have h5 : w.cell? ⟨Bb, 5, none⟩ = some x5 := by simp [World.cell?, hB]
  have h6 : w.cell? ⟨Bb, 6, none⟩ = some x6 := by simp [World.cell?, hB]
  have hf : ∀ j, w.frozen? ⟨Bb, j, none⟩ = false := fun j => by simp [World.frozen?, hB]
  go_enter Tryd.func13, Tryd.ntmps13
  go_wp2
  go_end0
  have a0 := heap_setCell_same w Bb 0 _ 53 (.slice (some ⟨Gb, 0, none⟩) M M) hB
  have a1 := heap_setCell_same _ Bb 1 _ 53 (.iface 35 (.pointer (some ⟨Rb, 0, none⟩))) a0
  have a2 := heap_setCell_same _ Bb 2 _ 53 (.int .i64 0) a1
  have a3 := heap_setCell_same _ Bb 3 _ 53 (.int .i64 0) a2
  have a4 := heap_setCell_same _ Bb 4 _ 53 .nilIface a3
  have a5 := heap_setCell_same _ Bb 5 _ 53 (.int .i64 (-1)) a4
  have a6 := heap_setCell_same _ Bb 6 _ 53 (.int .i64 (-1)) a5
  exact ⟨rfl, a6, (((((((Only.refl _ _).setCell _ _ (by simp)).setCell _ _ (by simp)).setCell _ _ (by simp)).setCell _ _ (by simp)).setCell _ _ (by simp)).setCell _ _ (by simp)).setCell _ _ (by simp)⟩

theorem no_buf (Rb : Nat) (w : World) : (Instr.typeAssert (.iface 35 (.pointer (some ⟨Rb, 0, none⟩))) 44 38 true).run Tryd.prog w = .ok (.tuple #[.pointer none, .bool false]) w := by kernel_rfl

set_option maxHeartbeats 800000 in
theorem newBuf_any (Rb : Nat) (s : Int) (w : World) (hs : s ≤ 65536) :
    Calls Tryd.prog 12 #[.iface 35 (.pointer (some ⟨Rb, 0, none⟩)), .int .i64 s] w fun e w' => ∃ Bb Gb M, e = .returned (.pointer (some ⟨Bb, 0, none⟩)) ∧ NewBuf w w' Bb Gb Rb M := by
  obtain ⟨i5, hi5, hz50, hz51, hz52⟩ := info_parts info5
  by_cases h16 : 16 ≤ s
  · obtain ⟨M, rfl⟩ := Int.eq_ofNat_of_zero_le (show (0 : Int) ≤ s by omega)
    have hnb := no_buf Rb
    go_enter Tryd.func12, Tryd.ntmps12
    go_wp2_with (at_make; refine wpList_make_full _ rfl _ _ 22 rfl (w.heap.size + 1) 5 i5 (.int .u8 0) 1 Tryd.underlying22 hi5 hz50 hz51 _ _ _ _ M rfl rfl rfl rfl ?b1a ?b2a ?b3a ?_)
    case b1a => rw [hz52]; omega
    case b2a => unfold maxLen; omega
    case b3a => simp
    intro w1 hown hgrow
    have hB1 : w1.heap[w.heap.size]? = some (.cells #[.slice none 0 0, .nilIface, .int .i64 0, .int .i64 0, .nilIface, .int .i64 0, .int .i64 0] 53 (0, 0)) := by
      rw [hgrow.block w.heap.size (by simp) (by simp)]
      exact heap_alloc_new w _
    have hbel : Below w.heap.size w w1 := ((Below.refl _ _).alloc (Nat.le_refl _) _).grown hgrow (by simp) (by simp)
    obtain ⟨curG, hG, hlG⟩ : ∃ curG : List Value, w1.heap[w.heap.size + 1]? = some (.cells curG.toArray 5 (0, 0)) ∧ curG.length = M := by
      rcases hown.2 with ⟨he, _⟩ | ⟨g', cap', cur, he, _, hg, _, _, hs, _⟩
      · simp at he
      · simp at he
        obtain ⟨rfl, rfl⟩ := he
        exact ⟨cur.toList, by simpa using hg, by simpa using hs⟩
    have hz := lt_of_block hG
    clear hown hgrow
    go_wp2_with fail
    refine (reset_any w.heap.size (w.heap.size + 1) M Rb _ _ _ _ _ _ _ _ hB1).mono ?_
    rintro e w2 ⟨rfl, hB2, ho⟩
    have X : Hid (NewBuf w w2 w.heap.size (w.heap.size + 1) Rb M) := ⟨hB2, ⟨curG, (ho.block _ (by simp)).trans hG, hlG⟩, by omega, by omega, hbel.trans ⟨ho.os, ho.tape, ho.output, by rw [ho.size]; exact Nat.le_refl _, fun k hk => ho.block k (by simp; omega)⟩, Nat.le_refl _, Nat.lt_succ_self _, by rw [ho.size]; exact hz⟩
    clear hB1 hbel hG hB2 ho hz
    go_wp2
    go_ret
    exact ⟨_, _, _, rfl, X⟩
  · have h16' : s < 16 := by omega
    have hnb := no_buf Rb
    go_enter Tryd.func12, Tryd.ntmps12
    go_wp2_with (at_make; refine wpList_make_full _ rfl _ _ 22 rfl (w.heap.size + 1) 5 i5 (.int .u8 0) 1 Tryd.underlying22 hi5 hz50 hz51 _ _ _ _ 16 rfl rfl rfl rfl ?b1b ?b2b ?b3b ?_)
    case b2b => unfold maxLen; omega
    intro w1 hown hgrow
    have hB1 : w1.heap[w.heap.size]? = some (.cells #[.slice none 0 0, .nilIface, .int .i64 0, .int .i64 0, .nilIface, .int .i64 0, .int .i64 0] 53 (0, 0)) := by
      rw [hgrow.block w.heap.size (by simp) (by simp)]
      exact heap_alloc_new w _
    have hbel : Below w.heap.size w w1 := ((Below.refl _ _).alloc (Nat.le_refl _) _).grown hgrow (by simp) (by simp)
    obtain ⟨curG, hG, hlG⟩ : ∃ curG : List Value, w1.heap[w.heap.size + 1]? = some (.cells curG.toArray 5 (0, 0)) ∧ curG.length = 16 := by
      rcases hown.2 with ⟨he, _⟩ | ⟨g', cap', cur, he, _, hg, _, _, hs, _⟩
      · simp at he
      · simp at he
        obtain ⟨rfl, rfl⟩ := he
        exact ⟨cur.toList, by simpa using hg, by simpa using hs⟩
    have hz := lt_of_block hG
    clear hown hgrow
    go_wp2_with fail
    refine (reset_any w.heap.size (w.heap.size + 1) 16 Rb _ _ _ _ _ _ _ _ hB1).mono ?_
    rintro e w2 ⟨rfl, hB2, ho⟩
    have X : Hid (NewBuf w w2 w.heap.size (w.heap.size + 1) Rb 16) := ⟨hB2, ⟨curG, (ho.block _ (by simp)).trans hG, hlG⟩, by omega, by omega, hbel.trans ⟨ho.os, ho.tape, ho.output, by rw [ho.size]; exact Nat.le_refl _, fun k hk => ho.block k (by simp; omega)⟩, Nat.le_refl _, Nat.lt_succ_self _, by rw [ho.size]; exact hz⟩
    clear hB1 hbel hG hB2 ho hz
    go_wp2
    go_ret
    exact ⟨_, _, _, rfl, X⟩

end Go.Proofs.Qxb6612454aDoor
