/-
  THE WALKS that read the table: breakAt, blankAt; and strings.HasPrefix.
-/
import Derived.Test.Qxb6609232aDoorBrk
namespace Go.Proofs.Qxb6609232aDoor
open Go.RowKit

/-- The table's cell. -/
def tab (c : Nat) : Bool := c == 10 || c == 13 || c == 194 || c == 226

theorem tab_false (s : ByteArray) (i : Nat) (hi : i < s.size) (h : tab s[i].toNat = false) : brkLen s.data.toList i = 0 := by
  unfold tab at h
  simp at h
  obtain ⟨⟨⟨h1, h2⟩, h3⟩, h4⟩ := h
  unfold brkLen
  rw [bt_at s i hi]
  have g1 : ((s[i].toNat : Int) == 10) = false := by rw [beq_eq_false_iff_ne]; omega
  have g2 : ((s[i].toNat : Int) == 13) = false := by rw [beq_eq_false_iff_ne]; omega
  have g3 : ((s[i].toNat : Int) == 194) = false := by rw [beq_eq_false_iff_ne]; omega
  have g4 : ((s[i].toNat : Int) == 226) = false := by rw [beq_eq_false_iff_ne]; omega
  rw [g1, g2, g3, g4]
  rfl

theorem breakAt_any (s : ByteArray) (i : Nat) (w : World) (hs : s.size ≤ 1048576) (hi : i < s.size)
    (hT : ∀ c : Nat, c < 256 → w.cell? ⟨0, c, none⟩ = some (.bool (tab c))) :
    Calls Tryd.prog 25 #[.string s, .int .i64 i] w fun e w' => e = .returned (.int .i64 (brkLen s.data.toList i)) ∧ w' = w := by
  have i0 : (0 : Int) ≤ (i : Int) := by omega
  have i1 : (i : Int) < (s.size : Int) := by omega
  have hx : s[i].toNat < 256 := s[i].toNat_lt
  have hx' : (s[i].toNat : Int) < 256 := by omega
  have hx0 : (0 : Int) ≤ (s[i].toNat : Int) := by omega
  have hc := hT _ hx
  have hw := breakLength_any s i w hs hi
  cases ht : tab s[i].toNat
  · rw [tab_false s i hi ht]
    rw [ht] at hc
    go_enter Tryd.func25, Tryd.ntmps25
    go_wp2
    go_ret
    exact ⟨rfl, rfl⟩
  · rw [ht] at hc
    go_enter Tryd.func25, Tryd.ntmps25
    go_wp2_with (go_at_call 26; refine hw.mono ?_; rintro e w1 ⟨rfl, rfl⟩)
    go_ret
    exact ⟨rfl, rfl⟩

end Go.Proofs.Qxb6609232aDoor
