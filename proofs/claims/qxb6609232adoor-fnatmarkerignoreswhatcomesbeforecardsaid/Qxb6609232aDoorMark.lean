/-
  THE WALKS blankAt and atMarker, over the reader's cells.
-/
import Derived.Test.Qxb6609232aDoorPfx
namespace Go.Proofs.Qxb6609232aDoor
open Go.RowKit

theorem blankAt_any (b : Nat) (s : ByteArray) (i : Nat) (w : World) (hs : s.size ≤ 1048576) (hi : i ≤ 2000000)
    (hT : ∀ c : Nat, c < 256 → w.cell? ⟨0, c, none⟩ = some (.bool (tab c))) (h0 : w.cell? ⟨b, 0, none⟩ = some (.string s)) :
    Calls Tryd.prog 21 #[.pointer (some ⟨b, 0, none⟩), .int .i64 i] w fun e w' => e = .returned (.bool (blkAt s.data.toList i)) ∧ w' = w := by
  have i0 : (0 : Int) ≤ (i : Int) := by omega
  by_cases h : s.size ≤ i
  · have e : blkAt s.data.toList i = true := by
      unfold blkAt
      rw [decide_eq_true (by rw [len_eq]; exact h)]
      rfl
    rw [e]
    clear e hT
    have h' : (i : Int) ≥ (s.size : Int) := by omega
    go_enter Tryd.func21, Tryd.ntmps21
    go_wp2
    go_ret
    exact ⟨rfl, rfl⟩
  · have hlt : i < s.size := by omega
    have h' : ¬ (i : Int) ≥ (s.size : Int) := by omega
    have h'' : (i : Int) < (s.size : Int) := by omega
    have e : blkAt s.data.toList i = ((s[i].toNat : Int) == 32 || (s[i].toNat : Int) == 9 || brkAt s.data.toList i) := by
      unfold blkAt
      rw [decide_eq_false (by rw [len_eq]; exact h), bt_at s i hlt]
      rfl
    rw [e]
    clear e
    have hB := isBlank_any s[i]
    have hK := breakAt_any s i w hs hlt hT
    clear hT
    have hp := brkLen_pos s.data.toList i
    generalize brkLen s.data.toList i = n at hK hp
    generalize brkAt s.data.toList i = k at hp ⊢
    generalize ((s[i].toNat : Int) == 32 || (s[i].toNat : Int) == 9) = x at hB ⊢
    subst hp
    cases x
    · go_enter Tryd.func21, Tryd.ntmps21
      go_wp2_with (first | (go_at_call 24; refine (hB _).mono ?_; rintro e w1 ⟨rfl, rfl⟩) | (go_at_call 25; refine hK.mono ?_; rintro e w1 ⟨rfl, rfl⟩))
      go_ret
      exact ⟨rfl, rfl⟩
    · go_enter Tryd.func21, Tryd.ntmps21
      go_wp2_with (first | (go_at_call 24; refine (hB _).mono ?_; rintro e w1 ⟨rfl, rfl⟩) | (go_at_call 25; refine hK.mono ?_; rintro e w1 ⟨rfl, rfl⟩))
      go_ret
      exact ⟨rfl, rfl⟩

/-- What atMarker answers. -/
def mk (s p : ByteArray) (pos : Nat) (at' : Int) : Bool := decide ((pos : Int) = at') && (pfx (s.extract pos s.size) p && blkAt s.data.toList (pos + 3))

set_option maxHeartbeats 4000000 in
theorem atMarker_any (b : Nat) (s p : ByteArray) (pos : Nat) (at' : Int) (w : World) (hs : s.size ≤ 1048576) (hi : pos ≤ s.size)
    (hT : ∀ c : Nat, c < 256 → w.cell? ⟨0, c, none⟩ = some (.bool (tab c))) (h0 : w.cell? ⟨b, 0, none⟩ = some (.string s))
    (h2 : w.cell? ⟨b, 2, none⟩ = some (.int .i64 pos)) (h4 : w.cell? ⟨b, 4, none⟩ = some (.int .i64 at')) :
    Calls Tryd.prog 16 #[.pointer (some ⟨b, 0, none⟩), .string p] w fun e w' => e = .returned (.bool (mk s p pos at')) ∧ ∃ m, w' = w.drewN m := by
  have i0 : (0 : Int) ≤ (pos : Int) := by omega
  have i1 : (pos : Int) ≤ (s.size : Int) := by omega
  by_cases hd : (pos : Int) = at'
  · subst hd
    have e : mk s p pos pos = (pfx (s.extract pos s.size) p && blkAt s.data.toList (pos + 3)) := by
      unfold mk
      rw [decide_eq_true rfl]
      rfl
    rw [e]
    clear e
    have hP := hasPrefix_any (s.extract pos s.size) p
    generalize pfx (s.extract pos s.size) p = x at hP ⊢
    cases x
    · clear hT
      go_enter Tryd.func16, Tryd.ntmps16
      go_wp2
      go_quiet (first | (go_at_call 20; refine Calls.quiet_of_same (hP _)))
      go_wp2
      go_ret
      exact ⟨by simp, _, rfl⟩
    · have hB : ∀ n, Calls Tryd.prog 21 #[.pointer (some ⟨b, 0, none⟩), .int .i64 ((pos : Int) + 3)] (w.drewN n) fun e w' => e = .returned (.bool (blkAt s.data.toList (pos + 3))) ∧ w' = w.drewN n := by
        intro n
        have e3 : (pos : Int) + 3 = ((pos + 3 : Nat) : Int) := by omega
        rw [e3]
        exact blankAt_any b s (pos + 3) (w.drewN n) hs (by omega) (fun c hc => by simpa using hT c hc) (by simpa using h0)
      clear hT
      go_enter Tryd.func16, Tryd.ntmps16
      go_wp2
      go_quiet (first | (go_at_call 20; refine Calls.quiet_of_same (hP _)) | (go_at_call 21; refine Calls.quiet_of_same (hB _)))
      go_wp2
      go_ret
      exact ⟨by simp, _, rfl⟩
  · have e : mk s p pos at' = false := by
      unfold mk
      rw [decide_eq_false hd]
      rfl
    rw [e]
    clear e hT
    go_enter Tryd.func16, Tryd.ntmps16
    go_wp2
    go_quiet (fail)
    go_wp2
    go_ret
    exact ⟨rfl, _, rfl⟩

end Go.Proofs.Qxb6609232aDoor
