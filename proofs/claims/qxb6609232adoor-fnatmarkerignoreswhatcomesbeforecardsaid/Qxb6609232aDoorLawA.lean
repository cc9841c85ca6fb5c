/-
  THE WALK OF FnAtMarkerIsMarkerLine.
-/
import Derived.Test.Qxb6609232aDoorMark
import Derived.Below
import Derived.WalkSmall
namespace Go.Proofs.Qxb6609232aDoor
open Go.RowKit

/-- Some bool; the world as it was. -/
def SomeBool (w : World) (e : Ending) (w' : World) : Prop := ∃ r, e = .returned (.bool r) ∧ w = w'

set_option maxHeartbeats 400000 in
theorem bytes7_any (s p : ByteArray) (x y : Int) (w : World) :
    Calls Tryd.prog 7 #[.string s, .int .i64 x, .int .i64 y, .string p] w fun e w' => SomeBool w e w' := by
  by_cases h1 : s.size ≤ 1048576
  · have h1' : ¬ (1048576 : Int) < (s.size : Int) := by omega
    by_cases h2 : p.size ≤ 1048576
    · have h2' : ¬ (1048576 : Int) < (p.size : Int) := by omega
      by_cases h3 : s.size + p.size ≤ 1048576
      · have h3' : ¬ (1048576 : Int) < (s.size : Int) + (p.size : Int) := by omega
        go_enter Tryd.func7, Tryd.ntmps7
        go_wp2
        go_ret
        exact ⟨true, rfl, rfl⟩
      · have h3' : (1048576 : Int) < (s.size : Int) + (p.size : Int) := by omega
        go_enter Tryd.func7, Tryd.ntmps7
        go_wp2
        go_ret
        exact ⟨false, rfl, rfl⟩
    · have h2' : (1048576 : Int) < (p.size : Int) := by omega
      go_enter Tryd.func7, Tryd.ntmps7
      go_wp2
      go_ret
      exact ⟨false, rfl, rfl⟩
  · have h1' : (1048576 : Int) < (s.size : Int) := by omega
    go_enter Tryd.func7, Tryd.ntmps7
    go_wp2
    go_ret
    exact ⟨false, rfl, rfl⟩

/-- A new reader lies in a new block. -/
structure New (w w' : World) (s : ByteArray) (x y : Int) : Prop where
  below : Below w.heap.size w w'
  size : w.heap.size < w'.heap.size
  c0 : w'.cell? ⟨w.heap.size, 0, none⟩ = some (.string s)
  c2 : w'.cell? ⟨w.heap.size, 2, none⟩ = some (.int .i64 x)
  c4 : w'.cell? ⟨w.heap.size, 4, none⟩ = some (.int .i64 y)

theorem new_any (s : ByteArray) (x y : Int) (w : World) :
    Calls Tryd.prog 8 #[.string s, .pointer none, .int .i64 x, .int .i64 0, .int .i64 y, .int .i64 0, .int .i64 0, .int .i64 0, .int .i64 0, .int .i64 0] w fun e w' => e = .returned (.pointer (some ⟨w.heap.size, 0, none⟩)) ∧ New w w' s x y := by
  go_enter Tryd.func8, Tryd.ntmps8
  go_wp2
  go_ret
  exact ⟨rfl, ⟨(Below.refl _ _).alloc (Nat.le_refl _) _, by simp, by simp, by simp, by simp⟩⟩

theorem zzAt_any (b : Nat) (s p : ByteArray) (pos : Nat) (at' : Int) (w : World) (hs : s.size ≤ 1048576) (hi : pos ≤ s.size)
    (hT : ∀ c : Nat, c < 256 → w.cell? ⟨0, c, none⟩ = some (.bool (tab c))) (h0 : w.cell? ⟨b, 0, none⟩ = some (.string s))
    (h2 : w.cell? ⟨b, 2, none⟩ = some (.int .i64 pos)) (h4 : w.cell? ⟨b, 4, none⟩ = some (.int .i64 at')) :
    Calls Tryd.prog 9 #[.pointer (some ⟨b, 0, none⟩), .string p] w fun e w' => e = .returned (.bool (mk s p pos at')) ∧ ∃ m, w' = w.drewN m := by
  have H := atMarker_any b s p pos at' w hs hi hT h0 h2 h4
  clear hT h0 h2 h4
  go_enter Tryd.func9, Tryd.ntmps9
  go_wp2_with (go_at_call 16; refine H.mono ?_; rintro e w1 ⟨rfl, m, rfl⟩)
  go_ret
  exact ⟨rfl, _, rfl⟩

/-- What zzMarkerLine says of the rest is what atMarker says where the line begins. -/
theorem rest_any (s p : ByteArray) (pos : Nat) (w : World) (hs : s.size ≤ 1048576) (h3 : p.size = 3) :
    Calls Tryd.prog 10 #[.string (s.extract pos s.size), .string p] w fun e w' => e = .returned (.bool (mk s p pos pos)) ∧ ∃ m, w' = w.drewN m := by
  have H := marker_any (s.extract pos s.size) p w (by rw [ByteArray.size_extract]; omega) (by omega)
  rw [Lib.extract_to_end, blk_drop, h3] at H
  have e : mk s p pos pos = (pfx (s.extract pos s.size) p && blkAt s.data.toList (pos + 3)) := by
    unfold mk
    rw [decide_eq_true rfl]
    rfl
  rw [e]
  exact H

set_option maxHeartbeats 800000 in
theorem lawA_walk (s p : ByteArray) (x y : Int) (w : World) (hT : ∀ c : Nat, c < 256 → w.cell? ⟨0, c, none⟩ = some (.bool (tab c))) :
    Calls Tryd.prog 3 #[.string s, .int .i64 x, .int .i64 y, .string p] w fun e w' => e = .returned (.bool true) ∧ Below w.heap.size w w' := by
  have hw0 : 0 < w.heap.size := World.block_lt_of_cell? w _ (hT 0 (by decide))
  have HT : Hid (∀ c : Nat, c < 256 → w.cell? ⟨0, c, none⟩ = some (.bool (tab c))) := hT
  clear hT
  go_enter Tryd.func3, Tryd.ntmps3
  go_wp2_with fail
  refine (bytes7_any s p x y _).mono ?_
  rintro e w1 ⟨b, rfl, rfl⟩
  cases b with
  | false =>
    go_wp2_with fail
    go_ret
    exact ⟨rfl, Below.refl _ _⟩
  | true =>
    by_cases h1 : 1048576 < s.size
    · have h1' : (1048576 : Int) < (s.size : Int) := by omega
      go_wp2_with fail
      go_ret
      exact ⟨rfl, Below.refl _ _⟩
    have h1' : ¬ (1048576 : Int) < (s.size : Int) := by omega
    by_cases h2 : 1048576 < p.size
    · have h2' : (1048576 : Int) < (p.size : Int) := by omega
      go_wp2_with fail
      go_ret
      exact ⟨rfl, Below.refl _ _⟩
    have h2' : ¬ (1048576 : Int) < (p.size : Int) := by omega
    by_cases h4 : 1048576 < s.size + p.size
    · have h4' : (1048576 : Int) < (s.size : Int) + (p.size : Int) := by omega
      go_wp2_with fail
      go_ret
      exact ⟨rfl, Below.refl _ _⟩
    have h4' : ¬ (1048576 : Int) < (s.size : Int) + (p.size : Int) := by omega
    by_cases h3 : p.size = 3
    · have h3' : (p.size : Int) = 3 := by omega
      by_cases hx : x < 0
      · go_wp2_with fail
        go_ret
        exact ⟨rfl, Below.refl _ _⟩
      by_cases hx2 : (s.size : Int) < x
      · go_wp2_with fail
        go_ret
        exact ⟨rfl, Below.refl _ _⟩
      obtain ⟨k, rfl⟩ := Int.eq_ofNat_of_zero_le (show 0 ≤ x by omega)
      have hk : k ≤ s.size := by omega
      have hs : s.size ≤ 1048576 := by omega
      go_wp2_with fail
      refine (new_any s k y _).mono ?_
      rintro e wN ⟨rfl, hN⟩
      have hT' : ∀ c : Nat, c < 256 → wN.cell? ⟨0, c, none⟩ = some (.bool (tab c)) := fun c hc => (hN.below.cell (by exact hw0)).trans (HT.out c hc)
      have H := zzAt_any w.heap.size s p k y wN hs hk hT' hN.c0 hN.c2 hN.c4
      have X : Hid (Below w.heap.size w wN) := hN.below
      clear hN hT' HT
      go_wp2_with fail
      refine H.mono ?_
      rintro e w2 ⟨rfl, m, rfl⟩
      clear H
      by_cases hd : (k : Int) = y
      · subst hd
        have HR := rest_any s p k
        go_wp2_with (go_at_call 10; refine (HR _ hs h3).mono ?_; rintro e w3 ⟨rfl, m3, rfl⟩)
        go_ret
        exact ⟨by simp, below_drewN X.out _⟩
      · have e : mk s p k y = false := by
          unfold mk
          rw [decide_eq_false hd]
          rfl
        rw [e]
        go_wp2_with fail
        go_ret
        exact ⟨rfl, below_drewN X.out _⟩
    · have h3' : ¬ (p.size : Int) = 3 := by omega
      go_wp2_with fail
      go_ret
      exact ⟨rfl, Below.refl _ _⟩

end Go.Proofs.Qxb6609232aDoor
