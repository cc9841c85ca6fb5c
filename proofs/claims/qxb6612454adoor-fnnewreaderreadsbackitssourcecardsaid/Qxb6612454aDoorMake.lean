/-
  THE WALKS of lines.NewReader and ZZNewReaderBytes.
-/
import Derived.Test.Qxb6612454aDoorNew
namespace Go.Proofs.Qxb6612454aDoor
open Go.RowKit

theorem NewBuf.later {w0 w w' w'' : World} {Bb Gb Rb M : Nat} (h : NewBuf w w' Bb Gb Rb M) (hb0 : Below w0.heap.size w0 w) (hb : Below w'.heap.size w' w'') : NewBuf w0 w'' Bb Gb Rb M := by
  obtain ⟨curG, hG, hl⟩ := h.buf
  have h1 := h.o1
  have h2 := h.o2
  have h3 := h.o3
  have hs := hb0.size
  exact ⟨(hb.block _ (by omega)).trans h.br, ⟨curG, (hb.block _ h3).trans hG, hl⟩, h.m16, h.m64, hb0.trans ((h.below.mono hs).trans (hb.mono (by have := h.below.size; omega))), by omega, h2, by have := hb.size; omega⟩

set_option maxHeartbeats 800000 in
theorem newReader_any (Rb : Nat) (s y z : Int) (w : World) (hs : s ≤ 65536) :
    Calls Tryd.prog 9 #[.iface 35 (.pointer (some ⟨Rb, 0, none⟩)), .agg #[.int .i64 s, .int .i64 y, .int .i64 z]] w fun e w' => ∃ Lb Bb Gb M, e = .returned (.pointer (some ⟨Lb, 0, none⟩)) ∧
      w'.cell? ⟨Lb, 0, none⟩ = some (.pointer (some ⟨Bb, 0, none⟩)) ∧ NewBuf w w' Bb Gb Rb M := by
  go_enter Tryd.func9, Tryd.ntmps9
  go_wp2_with fail
  have h0 : (w.alloc (.cells #[.int .i64 s, .int .i64 y, .int .i64 z] 28)).cell? ⟨w.heap.size, 0, none⟩ = some (.int .i64 s) := by simp
  have h1 : (w.alloc (.cells #[.int .i64 s, .int .i64 y, .int .i64 z] 28)).cell? ⟨w.heap.size, 1, none⟩ = some (.int .i64 y) := by simp
  have h2 : (w.alloc (.cells #[.int .i64 s, .int .i64 y, .int .i64 z] 28)).cell? ⟨w.heap.size, 2, none⟩ = some (.int .i64 z) := by simp
  have hb0 : Below w.heap.size w (w.alloc (.cells #[.int .i64 s, .int .i64 y, .int .i64 z] 28)) := (Below.refl _ _).alloc (Nat.le_refl _) _
  have hsz : w.heap.size < (w.alloc (.cells #[.int .i64 s, .int .i64 y, .int .i64 z] 28)).heap.size := by simp
  generalize w.alloc (.cells #[.int .i64 s, .int .i64 y, .int .i64 z] 28) = W at h0 h1 h2 hb0 hsz ⊢
  go_region_held3 (fun w' => w'.cell? ⟨w.heap.size, 0, none⟩ = some (.int .i64 s) ∧ w'.cell? ⟨w.heap.size, 1, none⟩ = some (.int .i64 y) ∧ w'.cell? ⟨w.heap.size, 2, none⟩ = some (.int .i64 z))
    (first | (go_keep; done) | (exact ⟨(hN.below.cell (by exact hsz)).trans h0, (hN.below.cell (by exact hsz)).trans h1, (hN.below.cell (by exact hsz)).trans h2⟩) | (exact ⟨((hN.below.alloc hN.below.size _).cell (by exact hsz)).trans h0, ((hN.below.alloc hN.below.size _).cell (by exact hsz)).trans h1, ((hN.below.alloc hN.below.size _).cell (by exact hsz)).trans h2⟩))
    (first | (go_at_call 12; refine (newBuf_any Rb s _ hs).mono ?_; rintro e w1 ⟨Bb, Gb, M, rfl, hN⟩))
  have X : Hid (NewBuf w (w1.alloc (.cells #[.pointer (some ⟨Bb, 0, none⟩), .int .i64 s, .int .i64 y, .int .i64 z, .slice none 0 0, .nilIface, .string ByteArray.empty] 42)) Bb Gb Rb M) := hN.later hb0.drew ((Below.refl _ _).alloc (Nat.le_refl _) _)
  clear hN h0 h1 h2
  go_wp2
  go_ret
  exact ⟨w1.heap.size, Bb, Gb, M, rfl, by simp, X⟩

/-- A new reader over the bytes of data. -/
structure Made (w w' : World) (Lb Bb Gb Rb M : Nat) (ao : Option Addr) (n c : Nat) : Prop where
  lr : w'.cell? ⟨Lb, 0, none⟩ = some (.pointer (some ⟨Bb, 0, none⟩))
  buf : NewBuf w w' Bb Gb Rb M
  rd : w'.heap[Rb]? = some (.cells #[.slice ao n c, .int .i64 0, .int .i64 (-1)] 47 (0, 0))
  o1 : w.heap.size ≤ Rb
  o2 : Rb < Bb

set_option maxHeartbeats 800000 in
theorem make_any (ao : Option Addr) (n c : Nat) (s y z : Int) (w : World) (hs : s ≤ 65536) :
    Calls Tryd.prog 6 #[.slice ao n c, .agg #[.int .i64 s, .int .i64 y, .int .i64 z]] w fun e w' => ∃ Lb Bb Gb Rb M, e = .returned (.pointer (some ⟨Lb, 0, none⟩)) ∧ Made w w' Lb Bb Gb Rb M ao n c := by
  go_enter Tryd.func6, Tryd.ntmps6
  go_wp2_with fail
  have h0 : (w.alloc (.cells #[.int .i64 s, .int .i64 y, .int .i64 z] 28)).cell? ⟨w.heap.size, 0, none⟩ = some (.int .i64 s) := by simp
  have h1 : (w.alloc (.cells #[.int .i64 s, .int .i64 y, .int .i64 z] 28)).cell? ⟨w.heap.size, 1, none⟩ = some (.int .i64 y) := by simp
  have h2 : (w.alloc (.cells #[.int .i64 s, .int .i64 y, .int .i64 z] 28)).cell? ⟨w.heap.size, 2, none⟩ = some (.int .i64 z) := by simp
  have hb0 : Below w.heap.size w (w.alloc (.cells #[.int .i64 s, .int .i64 y, .int .i64 z] 28)) := (Below.refl _ _).alloc (Nat.le_refl _) _
  have hsz : w.heap.size < (w.alloc (.cells #[.int .i64 s, .int .i64 y, .int .i64 z] 28)).heap.size := by simp
  generalize w.alloc (.cells #[.int .i64 s, .int .i64 y, .int .i64 z] 28) = W at h0 h1 h2 hb0 hsz ⊢
  have hbA : ∀ o : Obj, Below W.heap.size W (W.drew.alloc o) := fun o => ((Below.refl _ _).drew).alloc (Nat.le_refl _) o
  have hkA : ∀ o : Obj, (W.drew.alloc o).cell? ⟨w.heap.size, 0, none⟩ = some (.int .i64 s) ∧ (W.drew.alloc o).cell? ⟨w.heap.size, 1, none⟩ = some (.int .i64 y) ∧ (W.drew.alloc o).cell? ⟨w.heap.size, 2, none⟩ = some (.int .i64 z) := fun o =>
    ⟨((hbA o).cell (by exact hsz)).trans h0, ((hbA o).cell (by exact hsz)).trans h1, ((hbA o).cell (by exact hsz)).trans h2⟩
  go_region_held3 (fun w' => w'.cell? ⟨w.heap.size, 0, none⟩ = some (.int .i64 s) ∧ w'.cell? ⟨w.heap.size, 1, none⟩ = some (.int .i64 y) ∧ w'.cell? ⟨w.heap.size, 2, none⟩ = some (.int .i64 z))
    (first | (go_keep; done) | (exact hkA _) | (exact ⟨(hN.below.cell (by exact hsz')).trans (hkA _).1, (hN.below.cell (by exact hsz')).trans (hkA _).2.1, (hN.below.cell (by exact hsz')).trans (hkA _).2.2⟩))
    (first | (go_at_call 10; refine (newRd_any ao n c _).mono ?_; rintro e w1 ⟨rfl, rfl⟩) | (go_at_call 9; refine (newReader_any W.heap.size s y z _ hs).mono ?_; rintro e w2 ⟨Lb, Bb, Gb, M, rfl, hlr, hN⟩; have hsz' : w.heap.size < (W.drew.alloc (.cells #[.slice ao n c, .int .i64 0, .int .i64 (-1)] 47)).heap.size := by simp; omega))
  have hN' : NewBuf (W.drew.alloc (.cells #[.slice ao n c, .int .i64 0, .int .i64 (-1)] 47)) w2 Bb Gb W.heap.size M := hN
  have X : Hid (Made w w2 Lb Bb Gb W.heap.size M ao n c) := by
    have hs0 := hb0.size
    have ho := hN'.o1
    simp at ho
    refine ⟨hlr, hN'.later (hb0.drew.alloc hs0 _) (Below.refl _ _), ?_, hs0, by omega⟩
    rw [hN'.below.block W.heap.size (by simp)]
    exact heap_alloc_new W.drew _
  clear hN hN' hlr h0 h1 h2 hkA hbA
  go_wp2
  go_ret
  exact ⟨_, _, _, _, _, rfl, X⟩

end Go.Proofs.Qxb6612454aDoor
