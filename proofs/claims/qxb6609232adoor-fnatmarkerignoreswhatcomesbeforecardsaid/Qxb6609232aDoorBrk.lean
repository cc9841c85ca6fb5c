/-
  THE WALKS breakLength and isBlank.
-/
import Derived.Test.Qxb6609232aDoorText
namespace Go.Proofs.Qxb6609232aDoor
open Go.RowKit

theorem isBlank_any (x : UInt8) (w : World) :
    Calls Tryd.prog 24 #[.int .u8 x.toNat] w fun e w' => e = .returned (.bool ((x.toNat : Int) == 32 || (x.toNat : Int) == 9)) ∧ w' = w := by
  generalize (x.toNat : Int) = n
  cases h1 : (n == 32)
  · cases h2 : (n == 9)
    all_goals
      go_enter Tryd.func24, Tryd.ntmps24
      go_wp2
      go_ret
      exact ⟨rfl, rfl⟩
  · go_enter Tryd.func24, Tryd.ntmps24
    go_wp2
    go_ret
    exact ⟨rfl, rfl⟩

/-- breakLength, as she is written, over the bytes. -/
def brkLen (l : List UInt8) (i : Nat) : Int :=
  if bt l i == 10 then 1
  else if bt l i == 13 then (if bt l (i + 1) == 10 then 2 else 1)
  else if bt l i == 194 && bt l (i + 1) == 133 then 2
  else if bt l i == 226 && bt l (i + 1) == 128 && (bt l (i + 2) == 168 || bt l (i + 2) == 169) then 3
  else 0

theorem brkLen_pos (l : List UInt8) (i : Nat) : decide (0 < brkLen l i) = brkAt l i := by
  unfold brkLen brkAt
  cases (bt l i == 10) <;> cases (bt l i == 13) <;> cases (bt l i == 194 && bt l (i + 1) == 133) <;> cases (bt l i == 226 && bt l (i + 1) == 128 && (bt l (i + 2) == 168 || bt l (i + 2) == 169)) <;> cases (bt l (i + 1) == 10) <;> rfl

set_option maxHeartbeats 800000 in
theorem breakLength_any (s : ByteArray) (i : Nat) (w : World) (hs : s.size ≤ 1048576) (hi : i < s.size) :
    Calls Tryd.prog 26 #[.string s, .int .i64 i] w fun e w' => e = .returned (.int .i64 (brkLen s.data.toList i)) ∧ w' = w := by
  have i0 : (0 : Int) ≤ (i : Int) := by omega
  have i1 : (i : Int) < (s.size : Int) := by omega
  have b0 := bt_at s i hi
  have b1 : Hid (if h : i + 1 < s.size then bt s.data.toList (i + 1) = (s[i+1].toNat : Int) else bt s.data.toList (i + 1) = -1) := by
    show (if h : i + 1 < s.size then bt s.data.toList (i + 1) = (s[i+1].toNat : Int) else bt s.data.toList (i + 1) = -1)
    split
    · exact bt_at s (i + 1) ‹_›
    · exact bt_out _ _ (by simp; omega)
  have b2 : Hid (if h : i + 2 < s.size then bt s.data.toList (i + 2) = (s[i+2].toNat : Int) else bt s.data.toList (i + 2) = -1) := by
    show (if h : i + 2 < s.size then bt s.data.toList (i + 2) = (s[i+2].toNat : Int) else bt s.data.toList (i + 2) = -1)
    split
    · exact bt_at s (i + 2) ‹_›
    · exact bt_out _ _ (by simp; omega)
  unfold brkLen
  rw [b0]
  clear b0
  generalize bt s.data.toList (i + 1) = c1 at b1 ⊢
  generalize bt s.data.toList (i + 2) = c2 at b2 ⊢
  cases h10 : ((s[i].toNat : Int) == 10)
  · cases h13 : ((s[i].toNat : Int) == 13)
    · cases h194 : ((s[i].toNat : Int) == 194)
      · cases h226 : ((s[i].toNat : Int) == 226)
        · go_enter Tryd.func26, Tryd.ntmps26
          go_wp2
          go_ret
          exact ⟨rfl, rfl⟩
        · by_cases hl2 : i + 2 < s.size
          · have hl2' : (i : Int) + 2 < (s.size : Int) := by omega
            have hl1 : i + 1 < s.size := by omega
            have hl1' : (i : Int) + 1 < (s.size : Int) := by omega
            have b1' := b1.out
            rw [dif_pos hl1] at b1'
            rw [b1']
            clear b1'
            have b2' := b2.out
            rw [dif_pos hl2] at b2'
            rw [b2']
            clear b2'
            clear b1 b2
            cases hc : ((s[i+1].toNat : Int) == 128)
            · go_enter Tryd.func26, Tryd.ntmps26
              go_wp2
              go_ret
              exact ⟨rfl, rfl⟩
            · cases hd : ((s[i+2].toNat : Int) == 168)
              · cases he : ((s[i+2].toNat : Int) == 169)
                · go_enter Tryd.func26, Tryd.ntmps26
                  go_wp2
                  go_ret
                  exact ⟨rfl, rfl⟩
                · go_enter Tryd.func26, Tryd.ntmps26
                  go_wp2
                  go_ret
                  exact ⟨rfl, rfl⟩
              · go_enter Tryd.func26, Tryd.ntmps26
                go_wp2
                go_ret
                exact ⟨rfl, rfl⟩
          · have hl2' : ¬ (i : Int) + 2 < (s.size : Int) := by omega
            have b2' := b2.out
            rw [dif_neg hl2] at b2'
            rw [b2']
            clear b2'
            clear b1 b2
            cases hc : (c1 == 128)
            · go_enter Tryd.func26, Tryd.ntmps26
              go_wp2
              go_ret
              exact ⟨rfl, rfl⟩
            · go_enter Tryd.func26, Tryd.ntmps26
              go_wp2
              go_ret
              exact ⟨rfl, rfl⟩
      · have h226 : ((s[i].toNat : Int) == 226) = false := by
          rw [beq_iff_eq] at h194
          rw [h194]
          rfl
        by_cases hl1 : i + 1 < s.size
        · have hl1' : (i : Int) + 1 < (s.size : Int) := by omega
          have b1' := b1.out
          rw [dif_pos hl1] at b1'
          rw [b1']
          clear b1'
          clear b1 b2
          cases hc : ((s[i+1].toNat : Int) == 133)
          · go_enter Tryd.func26, Tryd.ntmps26
            go_wp2
            go_ret
            exact ⟨rfl, rfl⟩
          · go_enter Tryd.func26, Tryd.ntmps26
            go_wp2
            go_ret
            exact ⟨rfl, rfl⟩
        · have hl1' : ¬ (i : Int) + 1 < (s.size : Int) := by omega
          have b1' := b1.out
          rw [dif_neg hl1] at b1'
          rw [b1']
          clear b1'
          clear b1 b2
          go_enter Tryd.func26, Tryd.ntmps26
          go_wp2
          go_ret
          exact ⟨rfl, rfl⟩
    · by_cases hl : i + 1 < s.size
      · have hl' : (i : Int) + 1 < (s.size : Int) := by omega
        have b1' := b1.out
        rw [dif_pos hl] at b1'
        rw [b1']
        clear b1 b2 b1'
        cases hc : ((s[i+1].toNat : Int) == 10)
        · go_enter Tryd.func26, Tryd.ntmps26
          go_wp2
          go_ret
          exact ⟨rfl, rfl⟩
        · go_enter Tryd.func26, Tryd.ntmps26
          go_wp2
          go_ret
          exact ⟨rfl, rfl⟩
      · have hl' : ¬ (i : Int) + 1 < (s.size : Int) := by omega
        have b1' := b1.out
        rw [dif_neg hl] at b1'
        rw [b1']
        clear b1 b2 b1'
        go_enter Tryd.func26, Tryd.ntmps26
        go_wp2
        go_ret
        exact ⟨rfl, rfl⟩
  · go_enter Tryd.func26, Tryd.ntmps26
    go_wp2
    go_ret
    exact ⟨rfl, rfl⟩

end Go.Proofs.Qxb6609232aDoor
